import JvmDerived
import JvmDerived.Pilot.@@N@@Statement
import JvmDerived.Pilot.@@N@@Code
set_option linter.unusedVariables false
set_option linter.unusedSimpArgs false
namespace Jvm.Pilot.@@N@@
open Jvm Jvm.ClassFile Sem Op Lib Jvm.Free Jvm.Stand Jvm.LawKit Jvm.RoadKit Bundle Jvm.Pilot.@@N@@.Jvm.D
/-! ## the run in continuation form: 'Go G T g': from T with the top frame g the run ends as G says -/
def Go (p : Program) (e : Env) (below : List Frame) (G : State → Outcome → Prop) (T : State) (g : JFrame) : Prop :=
  ∃ s₂ o, Steps p.tables e below (T.setTop g) s₂ ∧ s₂.status = .running ∧ Ended s₂ below o ∧ G s₂ o
/-- what a contract asks of the end -/
def FinQ (s : State) (Q : Option Value → Heap → List Loc → Prop) (kc ks : Nat) (U' : State) (o : Outcome) : Prop :=
  ∃ v L, o = .returned v ∧ Q v U'.heap L ∧ FrameEnd s o U' L kc ks
/-- a body's contract, as backOf takes it -/
def Met1 (l : Launch) (Z : State) (y : MethodName) (bytes : ByteArray) (maxL : Nat) (rt : Option FieldType) (rm : Room) (as : Array Value) (h0 : Heap) (Q : Option Value → Heap → List Loc → Prop) : Prop :=
  ∀ ws : List Jvm.Cond, MetFree l y (head1 (Jvm.Cond.code y bytes maxL rt :: ws) rm) (fun a U => a = as ∧ Z.Warmed39 U.vm ∧ U.heap = h0) (fun _ _ _ _ _ => True)
    (fun _ U o U' => ∃ v L, o = .returned v ∧ Q v U'.heap L ∧ FrameEnd U o U' L rm.cells rm.slots)
section OwnGo
variable {p : Program} {l : Launch} {e : Env} {R : Room} {s : State} {m : MethodId} {args : Array Value} {below : List Frame} {meth : Method} {c : Code} {T T' : State} {locs : List Loc} {cells slots : Nat} {G : State → Outcome → Prop} {Ls : Array Slot} {st : List Value} {pc : Nat} {bs : ByteArray} {Z : State} {a0 : Array Value} {h : Heap} {g g' : JFrame}
theorem Go.by (q : ∀ t, Steps p.tables e below (T'.setTop g') t → Steps p.tables e below (T.setTop g) t) (k : Go p e below G T' g') : Go p e below G T g := by
  obtain ⟨s₂, o, h1, h2⟩ := k
  exact ⟨s₂, o, q _ h1, h2⟩
theorem own_met_of {Z : State} {y : MethodName} {bytes : ByteArray} {maxL : Nat} {rt : Option FieldType} {rm : Room} {as : Array Value} {h0 : Heap} {Q : Option Value → Heap → List Loc → Prop} {Ls0 : Array Slot} (hpl : plainFor y = true) (ef : ∀ m, entryFrame m as maxL = mkF m 0 Ls0 [])
    (body : ∀ (p : Program) (e : Env) (s : State) (m : MethodId) (below : List Frame) (meth : Method) (c : Code) (s₁ : State), Stand p l e rm s m as below meth c s₁ [] 0 0 → p.tables.exec = Jvm.exec → c.code = bytes → c.maxLocals = maxL → Z.Warmed39 s.vm → s.vm.findClass y.cls = some m.cls → meth.name = y.name → meth.sig.returnType = rt → meth.locks = false → s₁.heap = h0 →
      Go p e below (FinQ s Q rm.cells rm.slots) s₁ (mkF m 0 Ls0 [])) : Met1 l Z y bytes maxL rt rm as h0 Q := by
  intro ws
  refine MetFree.of_bodySF hpl hisR ?_
  intro p e s m args below meth c s₁ Bd hml0 hP hK
  obtain ⟨rfl, hZ, hh⟩ := hP
  have k := body p e s m below meth c s₁ (Stand.of_body Bd) Bd.exec Bd.bytes hml0 hZ (findClass_of_methodNamed Bd.named) (name_of_methodNamed Bd.named Bd.method).1 Bd.returns Bd.notSynchronized (by rw [← hh, Bd.state]; rfl)
  rw [← ef m] at k
  exact k
theorem own_leave {Q : Option Value → Heap → List Loc → Prop} {kc ks : Nat} {v : Option Value} (X : Stand p l e R s m args below meth c T locs cells slots) (hv : meth.sig.returnType = none → v = none) (hlk : meth.locks = false) (hc : cells ≤ kc) (hs : slots ≤ ks) (hQ : Q v T.heap locs)
    (k : ∀ fs, (∀ (f : JFrame) (acts : List Action), f.method = m → f.locked = none → f.entered = [] → (doReturn e (T.setTop f) acts v).1 = T.setFrames fs) → Steps p.tables e below (T.setTop g) (T.setFrames fs)) : Go p e below (FinQ s Q kc ks) T g := by
  obtain ⟨fs, hr, hrun, hended, hW, hsame⟩ := X.leave (v := v) hv hlk
  exact ⟨_, _, k fs hr, hrun, hended, _, _, rfl, hQ, ⟨_, rfl⟩, hW, hsame.mono hc hs⟩
theorem own_retI {Q : Option Value → Heap → List Loc → Prop} {kc ks : Nat} {z : Int32} (X : Stand p l e R s m args below meth c T locs cells slots) (hx : p.tables.exec = Jvm.exec) (hby : c.code = bs) (hret : meth.sig.returnType = some .int) (hlk : meth.locks = false) (hd : decode bs pc = .ok (.ireturn, 1)) (hc : cells ≤ kc) (hs : slots ≤ ks) (hQ : Q (some (.int z)) T.heap locs) : Go p e below (FinQ s Q kc ks) T (mkF m pc Ls (.int z :: st)) := by
  refine own_leave X (fun q => by rw [hret] at q; cases q) hlk hc hs hQ fun fs hr => ?_
  exact retOut X hx hret rfl (Or.inl ⟨rfl, Or.inl rfl, z, rfl⟩) (hb hby hd) hr
theorem own_retN {Q : Option Value → Heap → List Loc → Prop} {kc ks : Nat} {z z' : Int32} {t : FieldType} (X : Stand p l e R s m args below meth c T locs cells slots) (hx : p.tables.exec = Jvm.exec) (hby : c.code = bs) (hret : meth.sig.returnType = some t) (hlk : meth.locks = false) (ht : t = .boolean ∨ t = .byte ∨ t = .char ∨ t = .short) (hd : decode bs pc = .ok (.ireturn, 1)) (hc : cells ≤ kc) (hs : slots ≤ ks) (hn : nar t z = z') (hQ : Q (some (.int z')) T.heap locs) : Go p e below (FinQ s Q kc ks) T (mkF m pc Ls (.int z :: st)) := by
  subst hn
  refine own_leave X (fun q => by rw [hret] at q; cases q) hlk hc hs hQ fun fs hr => ?_
  exact retN X hx hret ht (hb hby hd) hr
theorem own_retJ {Q : Option Value → Heap → List Loc → Prop} {kc ks : Nat} {z : Int64} (X : Stand p l e R s m args below meth c T locs cells slots) (hx : p.tables.exec = Jvm.exec) (hby : c.code = bs) (hret : meth.sig.returnType = some .long) (hlk : meth.locks = false) (hd : decode bs pc = .ok (.lreturn, 1)) (hc : cells ≤ kc) (hs : slots ≤ ks) (hQ : Q (some (.long z)) T.heap locs) : Go p e below (FinQ s Q kc ks) T (mkF m pc Ls (.long z :: st)) := by
  refine own_leave X (fun q => by rw [hret] at q; cases q) hlk hc hs hQ fun fs hr => ?_
  exact retOut X hx hret rfl (Or.inr (Or.inl ⟨rfl, rfl, z, rfl⟩)) (hb hby hd) hr
theorem own_retA {Q : Option Value → Heap → List Loc → Prop} {kc ks : Nat} {w : Value} {t : FieldType} (X : Stand p l e R s m args below meth c T locs cells slots) (hx : p.tables.exec = Jvm.exec) (hby : c.code = bs) (hret : meth.sig.returnType = some t) (hlk : meth.locks = false) (ht : t.isReference = true) (hw : w.isRef = true) (hn : narrow t w = w) (hd : decode bs pc = .ok (.areturn, 1)) (hc : cells ≤ kc) (hs : slots ≤ ks) (hQ : Q (some w) T.heap locs) : Go p e below (FinQ s Q kc ks) T (mkF m pc Ls (w :: st)) := by
  refine own_leave X (fun q => by rw [hret] at q; cases q) hlk hc hs hQ fun fs hr => ?_
  exact retOut X hx hret hn (Or.inr (Or.inr (Or.inr (Or.inr ⟨rfl, ht, hw⟩)))) (hb hby hd) hr
theorem own_ret {Q : Option Value → Heap → List Loc → Prop} {kc ks : Nat} (X : Stand p l e R s m args below meth c T locs cells slots) (hx : p.tables.exec = Jvm.exec) (hby : c.code = bs) (hret : meth.sig.returnType = none) (hlk : meth.locks = false) (hd : decode bs pc = .ok (.return_, 1)) (hc : cells ≤ kc) (hs : slots ≤ ks) (hQ : Q none T.heap locs) : Go p e below (FinQ s Q kc ks) T (mkF m pc Ls []) := by
  refine own_leave X (fun _ => rfl) hlk hc hs hQ fun fs hr => ?_
  exact X.returnOut hx hret (hb hby hd) hr
theorem own_iload (X : Stand p l e R s m args below meth c T locs cells slots) (hx : p.tables.exec = Jvm.exec) (hby : c.code = bs) {n : Nat} (v : Int32) (hd : decode bs pc = .ok (.iload n, 2)) (hl : Ls[n]? = some (.val (.int v))) (pc' : Nat) (hp : pc + 2 = pc') (k : Go p e below G T (mkF m pc' Ls (.int v :: st))) : Go p e below G T (mkF m pc Ls st) := by
  subst hp
  exact Go.by (fun t q => XS.iload X.here hx rfl (hb hby hd) hl q) k
theorem own_iloadN (X : Stand p l e R s m args below meth c T locs cells slots) (hx : p.tables.exec = Jvm.exec) (hby : c.code = bs) {n : Fin 4} (v : Int32) (hd : decode bs pc = .ok (.iload_n n, 1)) (hl : Ls[n.val]? = some (.val (.int v))) (pc' : Nat) (hp : pc + 1 = pc') (k : Go p e below G T (mkF m pc' Ls (.int v :: st))) : Go p e below G T (mkF m pc Ls st) := by
  subst hp
  exact Go.by (fun t q => XS.iloadN X.here hx rfl (hb hby hd) hl q) k
theorem own_istore (X : Stand p l e R s m args below meth c T locs cells slots) (hx : p.tables.exec = Jvm.exec) (hby : c.code = bs) {n : Nat} {x x' : Int32} (hd : decode bs pc = .ok (.istore n, 2)) (ex : x = x') {l' : Array Slot} (hl : storeLocals Ls n (.int x') = some l') (pc' : Nat) (hp : pc + 2 = pc') (k : Go p e below G T (mkF m pc' l' st)) : Go p e below G T (mkF m pc Ls (.int x :: st)) := by
  subst hp
  subst ex
  exact Go.by (fun t q => XS.istore X.here hx rfl (hb hby hd) rfl hl q) k
theorem own_istoreN (X : Stand p l e R s m args below meth c T locs cells slots) (hx : p.tables.exec = Jvm.exec) (hby : c.code = bs) {n : Fin 4} {x x' : Int32} (hd : decode bs pc = .ok (.istore_n n, 1)) (ex : x = x') {l' : Array Slot} (hl : storeLocals Ls n.val (.int x') = some l') (pc' : Nat) (hp : pc + 1 = pc') (k : Go p e below G T (mkF m pc' l' st)) : Go p e below G T (mkF m pc Ls (.int x :: st)) := by
  subst hp
  subst ex
  exact Go.by (fun t q => XS.istoreN X.here hx rfl (hb hby hd) rfl hl q) k
theorem own_lload (X : Stand p l e R s m args below meth c T locs cells slots) (hx : p.tables.exec = Jvm.exec) (hby : c.code = bs) {n : Nat} (v : Int64) (hd : decode bs pc = .ok (.lload n, 2)) (hl : Ls[n]? = some (.val (.long v))) (pc' : Nat) (hp : pc + 2 = pc') (k : Go p e below G T (mkF m pc' Ls (.long v :: st))) : Go p e below G T (mkF m pc Ls st) := by
  subst hp
  exact Go.by (fun t q => XS.lload X.here hx rfl (hb hby hd) hl q) k
theorem own_lloadN (X : Stand p l e R s m args below meth c T locs cells slots) (hx : p.tables.exec = Jvm.exec) (hby : c.code = bs) {n : Fin 4} (v : Int64) (hd : decode bs pc = .ok (.lload_n n, 1)) (hl : Ls[n.val]? = some (.val (.long v))) (pc' : Nat) (hp : pc + 1 = pc') (k : Go p e below G T (mkF m pc' Ls (.long v :: st))) : Go p e below G T (mkF m pc Ls st) := by
  subst hp
  exact Go.by (fun t q => XS.lloadN X.here hx rfl (hb hby hd) hl q) k
theorem own_lstore (X : Stand p l e R s m args below meth c T locs cells slots) (hx : p.tables.exec = Jvm.exec) (hby : c.code = bs) {n : Nat} {x x' : Int64} (hd : decode bs pc = .ok (.lstore n, 2)) (ex : x = x') {l' : Array Slot} (hl : storeLocals Ls n (.long x') = some l') (pc' : Nat) (hp : pc + 2 = pc') (k : Go p e below G T (mkF m pc' l' st)) : Go p e below G T (mkF m pc Ls (.long x :: st)) := by
  subst hp
  subst ex
  exact Go.by (fun t q => XS.lstore X.here hx rfl (hb hby hd) rfl hl q) k
theorem own_lstoreN (X : Stand p l e R s m args below meth c T locs cells slots) (hx : p.tables.exec = Jvm.exec) (hby : c.code = bs) {n : Fin 4} {x x' : Int64} (hd : decode bs pc = .ok (.lstore_n n, 1)) (ex : x = x') {l' : Array Slot} (hl : storeLocals Ls n.val (.long x') = some l') (pc' : Nat) (hp : pc + 1 = pc') (k : Go p e below G T (mkF m pc' l' st)) : Go p e below G T (mkF m pc Ls (.long x :: st)) := by
  subst hp
  subst ex
  exact Go.by (fun t q => XS.lstoreN X.here hx rfl (hb hby hd) rfl hl q) k
theorem own_aload (X : Stand p l e R s m args below meth c T locs cells slots) (hx : p.tables.exec = Jvm.exec) (hby : c.code = bs) {n : Nat} (v : Value) (hd : decode bs pc = .ok (.aload n, 2)) (hl : Ls[n]? = some (.val v)) (hv : v.isRef = true) (pc' : Nat) (hp : pc + 2 = pc') (k : Go p e below G T (mkF m pc' Ls (v :: st))) : Go p e below G T (mkF m pc Ls st) := by
  subst hp
  exact Go.by (fun t q => XS.aload X.here hx rfl (hb hby hd) hl hv q) k
theorem own_aloadN (X : Stand p l e R s m args below meth c T locs cells slots) (hx : p.tables.exec = Jvm.exec) (hby : c.code = bs) {n : Fin 4} (v : Value) (hd : decode bs pc = .ok (.aload_n n, 1)) (hl : Ls[n.val]? = some (.val v)) (hv : v.isRef = true) (pc' : Nat) (hp : pc + 1 = pc') (k : Go p e below G T (mkF m pc' Ls (v :: st))) : Go p e below G T (mkF m pc Ls st) := by
  subst hp
  exact Go.by (fun t q => XS.aloadN X.here hx rfl (hb hby hd) hl hv q) k
theorem own_astore (X : Stand p l e R s m args below meth c T locs cells slots) (hx : p.tables.exec = Jvm.exec) (hby : c.code = bs) {n : Nat} {x : Value} (hd : decode bs pc = .ok (.astore n, 2)) (hv : x.isRef = true) {l' : Array Slot} (hl : storeLocals Ls n x = some l') (pc' : Nat) (hp : pc + 2 = pc') (k : Go p e below G T (mkF m pc' l' st)) : Go p e below G T (mkF m pc Ls (x :: st)) := by
  subst hp
  exact Go.by (fun t q => XS.astore X.here hx rfl (hb hby hd) rfl hv hl q) k
theorem own_astoreN (X : Stand p l e R s m args below meth c T locs cells slots) (hx : p.tables.exec = Jvm.exec) (hby : c.code = bs) {n : Fin 4} {x : Value} (hd : decode bs pc = .ok (.astore_n n, 1)) (hv : x.isRef = true) {l' : Array Slot} (hl : storeLocals Ls n.val x = some l') (pc' : Nat) (hp : pc + 1 = pc') (k : Go p e below G T (mkF m pc' l' st)) : Go p e below G T (mkF m pc Ls (x :: st)) := by
  subst hp
  exact Go.by (fun t q => XS.astoreN X.here hx rfl (hb hby hd) rfl hv hl q) k
theorem own_iconst (X : Stand p l e R s m args below meth c T locs cells slots) (hx : p.tables.exec = Jvm.exec) (hby : c.code = bs) {i : Int} (v : Int32) (hd : decode bs pc = .ok (.iconst i, 1)) (hv : Int32.ofInt i = v) (pc' : Nat) (hp : pc + 1 = pc') (k : Go p e below G T (mkF m pc' Ls (.int v :: st))) : Go p e below G T (mkF m pc Ls st) := by
  subst hp
  subst hv
  exact Go.by (fun t q => XS.iconst X.here hx rfl (hb hby hd) q) k
theorem own_bipush (X : Stand p l e R s m args below meth c T locs cells slots) (hx : p.tables.exec = Jvm.exec) (hby : c.code = bs) {i : Int} (v : Int32) (hd : decode bs pc = .ok (.bipush i, 2)) (hv : (Int8.ofInt i).toInt32 = v) (pc' : Nat) (hp : pc + 2 = pc') (k : Go p e below G T (mkF m pc' Ls (.int v :: st))) : Go p e below G T (mkF m pc Ls st) := by
  subst hp
  subst hv
  exact Go.by (fun t q => XS.bipush X.here hx rfl (hb hby hd) q) k
theorem own_sipush (X : Stand p l e R s m args below meth c T locs cells slots) (hx : p.tables.exec = Jvm.exec) (hby : c.code = bs) {i : Int} (v : Int32) (hd : decode bs pc = .ok (.sipush i, 3)) (hv : (Int16.ofInt i).toInt32 = v) (pc' : Nat) (hp : pc + 3 = pc') (k : Go p e below G T (mkF m pc' Ls (.int v :: st))) : Go p e below G T (mkF m pc Ls st) := by
  subst hp
  subst hv
  exact Go.by (fun t q => XS.sipush X.here hx rfl (hb hby hd) q) k
theorem own_lconst (X : Stand p l e R s m args below meth c T locs cells slots) (hx : p.tables.exec = Jvm.exec) (hby : c.code = bs) {i : Fin 2} (v : Int64) (hd : decode bs pc = .ok (.lconst i, 1)) (hv : Int64.ofNat i = v) (pc' : Nat) (hp : pc + 1 = pc') (k : Go p e below G T (mkF m pc' Ls (.long v :: st))) : Go p e below G T (mkF m pc Ls st) := by
  subst hp
  subst hv
  exact Go.by (fun t q => XS.lconst X.here hx rfl (hb hby hd) q) k
theorem own_aconstNull (X : Stand p l e R s m args below meth c T locs cells slots) (hx : p.tables.exec = Jvm.exec) (hby : c.code = bs)  (hd : decode bs pc = .ok (.aconst_null, 1))  (pc' : Nat) (hp : pc + 1 = pc') (k : Go p e below G T (mkF m pc' Ls (.null :: st))) : Go p e below G T (mkF m pc Ls st) := by
  subst hp
  exact Go.by (fun t q => XS.aconstNull X.here hx rfl (hb hby hd) q) k
theorem own_iadd (X : Stand p l e R s m args below meth c T locs cells slots) (hx : p.tables.exec = Jvm.exec) (hby : c.code = bs) {x y : Int32} (hd : decode bs pc = .ok (.iadd, 1))  (pc' : Nat) (hp : pc + 1 = pc') (k : Go p e below G T (mkF m pc' Ls (.int (x + y) :: st))) : Go p e below G T (mkF m pc Ls (.int y :: .int x :: st)) := by
  subst hp
  exact Go.by (fun t q => XS.iadd X.here hx rfl (hb hby hd) rfl q) k
theorem own_isub (X : Stand p l e R s m args below meth c T locs cells slots) (hx : p.tables.exec = Jvm.exec) (hby : c.code = bs) {x y : Int32} (hd : decode bs pc = .ok (.isub, 1))  (pc' : Nat) (hp : pc + 1 = pc') (k : Go p e below G T (mkF m pc' Ls (.int (x - y) :: st))) : Go p e below G T (mkF m pc Ls (.int y :: .int x :: st)) := by
  subst hp
  exact Go.by (fun t q => XS.isub X.here hx rfl (hb hby hd) rfl q) k
theorem own_imul (X : Stand p l e R s m args below meth c T locs cells slots) (hx : p.tables.exec = Jvm.exec) (hby : c.code = bs) {x y : Int32} (hd : decode bs pc = .ok (.imul, 1))  (pc' : Nat) (hp : pc + 1 = pc') (k : Go p e below G T (mkF m pc' Ls (.int (x * y) :: st))) : Go p e below G T (mkF m pc Ls (.int y :: .int x :: st)) := by
  subst hp
  exact Go.by (fun t q => XS.imul X.here hx rfl (hb hby hd) rfl q) k
theorem own_iand (X : Stand p l e R s m args below meth c T locs cells slots) (hx : p.tables.exec = Jvm.exec) (hby : c.code = bs) {x y : Int32} (hd : decode bs pc = .ok (.iand, 1))  (pc' : Nat) (hp : pc + 1 = pc') (k : Go p e below G T (mkF m pc' Ls (.int (x &&& y) :: st))) : Go p e below G T (mkF m pc Ls (.int y :: .int x :: st)) := by
  subst hp
  exact Go.by (fun t q => XS.iand X.here hx rfl (hb hby hd) rfl q) k
theorem own_ior (X : Stand p l e R s m args below meth c T locs cells slots) (hx : p.tables.exec = Jvm.exec) (hby : c.code = bs) {x y : Int32} (hd : decode bs pc = .ok (.ior, 1))  (pc' : Nat) (hp : pc + 1 = pc') (k : Go p e below G T (mkF m pc' Ls (.int (x ||| y) :: st))) : Go p e below G T (mkF m pc Ls (.int y :: .int x :: st)) := by
  subst hp
  exact Go.by (fun t q => XS.ior X.here hx rfl (hb hby hd) rfl q) k
theorem own_ixor (X : Stand p l e R s m args below meth c T locs cells slots) (hx : p.tables.exec = Jvm.exec) (hby : c.code = bs) {x y : Int32} (hd : decode bs pc = .ok (.ixor, 1))  (pc' : Nat) (hp : pc + 1 = pc') (k : Go p e below G T (mkF m pc' Ls (.int (x ^^^ y) :: st))) : Go p e below G T (mkF m pc Ls (.int y :: .int x :: st)) := by
  subst hp
  exact Go.by (fun t q => XS.ixor X.here hx rfl (hb hby hd) rfl q) k
theorem own_ishl (X : Stand p l e R s m args below meth c T locs cells slots) (hx : p.tables.exec = Jvm.exec) (hby : c.code = bs) {x y : Int32} (hd : decode bs pc = .ok (.ishl, 1))  (pc' : Nat) (hp : pc + 1 = pc') (k : Go p e below G T (mkF m pc' Ls (.int (x <<< (y &&& 31)) :: st))) : Go p e below G T (mkF m pc Ls (.int y :: .int x :: st)) := by
  subst hp
  exact Go.by (fun t q => XS.ishl X.here hx rfl (hb hby hd) rfl q) k
theorem own_ishr (X : Stand p l e R s m args below meth c T locs cells slots) (hx : p.tables.exec = Jvm.exec) (hby : c.code = bs) {x y : Int32} (hd : decode bs pc = .ok (.ishr, 1))  (pc' : Nat) (hp : pc + 1 = pc') (k : Go p e below G T (mkF m pc' Ls (.int (x >>> (y &&& 31)) :: st))) : Go p e below G T (mkF m pc Ls (.int y :: .int x :: st)) := by
  subst hp
  exact Go.by (fun t q => XS.ishr X.here hx rfl (hb hby hd) rfl q) k
theorem own_iushr (X : Stand p l e R s m args below meth c T locs cells slots) (hx : p.tables.exec = Jvm.exec) (hby : c.code = bs) {x y : Int32} (hd : decode bs pc = .ok (.iushr, 1))  (pc' : Nat) (hp : pc + 1 = pc') (k : Go p e below G T (mkF m pc' Ls (.int ((x.toUInt32 >>> (y &&& 31).toUInt32).toInt32) :: st))) : Go p e below G T (mkF m pc Ls (.int y :: .int x :: st)) := by
  subst hp
  exact Go.by (fun t q => XS.iushr X.here hx rfl (hb hby hd) rfl q) k
theorem own_ladd (X : Stand p l e R s m args below meth c T locs cells slots) (hx : p.tables.exec = Jvm.exec) (hby : c.code = bs) {x y : Int64} (hd : decode bs pc = .ok (.ladd, 1))  (pc' : Nat) (hp : pc + 1 = pc') (k : Go p e below G T (mkF m pc' Ls (.long (x + y) :: st))) : Go p e below G T (mkF m pc Ls (.long y :: .long x :: st)) := by
  subst hp
  exact Go.by (fun t q => XS.ladd X.here hx rfl (hb hby hd) rfl q) k
theorem own_lsub (X : Stand p l e R s m args below meth c T locs cells slots) (hx : p.tables.exec = Jvm.exec) (hby : c.code = bs) {x y : Int64} (hd : decode bs pc = .ok (.lsub, 1))  (pc' : Nat) (hp : pc + 1 = pc') (k : Go p e below G T (mkF m pc' Ls (.long (x - y) :: st))) : Go p e below G T (mkF m pc Ls (.long y :: .long x :: st)) := by
  subst hp
  exact Go.by (fun t q => XS.lsub X.here hx rfl (hb hby hd) rfl q) k
theorem own_lmul (X : Stand p l e R s m args below meth c T locs cells slots) (hx : p.tables.exec = Jvm.exec) (hby : c.code = bs) {x y : Int64} (hd : decode bs pc = .ok (.lmul, 1))  (pc' : Nat) (hp : pc + 1 = pc') (k : Go p e below G T (mkF m pc' Ls (.long (x * y) :: st))) : Go p e below G T (mkF m pc Ls (.long y :: .long x :: st)) := by
  subst hp
  exact Go.by (fun t q => XS.lmul X.here hx rfl (hb hby hd) rfl q) k
theorem own_land (X : Stand p l e R s m args below meth c T locs cells slots) (hx : p.tables.exec = Jvm.exec) (hby : c.code = bs) {x y : Int64} (hd : decode bs pc = .ok (.land, 1))  (pc' : Nat) (hp : pc + 1 = pc') (k : Go p e below G T (mkF m pc' Ls (.long (x &&& y) :: st))) : Go p e below G T (mkF m pc Ls (.long y :: .long x :: st)) := by
  subst hp
  exact Go.by (fun t q => XS.land X.here hx rfl (hb hby hd) rfl q) k
theorem own_lor (X : Stand p l e R s m args below meth c T locs cells slots) (hx : p.tables.exec = Jvm.exec) (hby : c.code = bs) {x y : Int64} (hd : decode bs pc = .ok (.lor, 1))  (pc' : Nat) (hp : pc + 1 = pc') (k : Go p e below G T (mkF m pc' Ls (.long (x ||| y) :: st))) : Go p e below G T (mkF m pc Ls (.long y :: .long x :: st)) := by
  subst hp
  exact Go.by (fun t q => XS.lor X.here hx rfl (hb hby hd) rfl q) k
theorem own_lxor (X : Stand p l e R s m args below meth c T locs cells slots) (hx : p.tables.exec = Jvm.exec) (hby : c.code = bs) {x y : Int64} (hd : decode bs pc = .ok (.lxor, 1))  (pc' : Nat) (hp : pc + 1 = pc') (k : Go p e below G T (mkF m pc' Ls (.long (x ^^^ y) :: st))) : Go p e below G T (mkF m pc Ls (.long y :: .long x :: st)) := by
  subst hp
  exact Go.by (fun t q => XS.lxor X.here hx rfl (hb hby hd) rfl q) k
theorem own_lshl (X : Stand p l e R s m args below meth c T locs cells slots) (hx : p.tables.exec = Jvm.exec) (hby : c.code = bs) {x : Int64} {y : Int32} (hd : decode bs pc = .ok (.lshl, 1))  (pc' : Nat) (hp : pc + 1 = pc') (k : Go p e below G T (mkF m pc' Ls (.long (x <<< (y &&& 0x3f).toInt64) :: st))) : Go p e below G T (mkF m pc Ls (.int y :: .long x :: st)) := by
  subst hp
  exact Go.by (fun t q => XS.lshl X.here hx rfl (hb hby hd) rfl q) k
theorem own_lshr (X : Stand p l e R s m args below meth c T locs cells slots) (hx : p.tables.exec = Jvm.exec) (hby : c.code = bs) {x : Int64} {y : Int32} (hd : decode bs pc = .ok (.lshr, 1))  (pc' : Nat) (hp : pc + 1 = pc') (k : Go p e below G T (mkF m pc' Ls (.long (x >>> (y &&& 0x3f).toInt64) :: st))) : Go p e below G T (mkF m pc Ls (.int y :: .long x :: st)) := by
  subst hp
  exact Go.by (fun t q => XS.lshr X.here hx rfl (hb hby hd) rfl q) k
theorem own_lushr (X : Stand p l e R s m args below meth c T locs cells slots) (hx : p.tables.exec = Jvm.exec) (hby : c.code = bs) {x : Int64} {y : Int32} (hd : decode bs pc = .ok (.lushr, 1))  (pc' : Nat) (hp : pc + 1 = pc') (k : Go p e below G T (mkF m pc' Ls (.long ((x.toUInt64 >>> (y &&& 0x3f).toInt64.toUInt64).toInt64) :: st))) : Go p e below G T (mkF m pc Ls (.int y :: .long x :: st)) := by
  subst hp
  exact Go.by (fun t q => XS.lushr X.here hx rfl (hb hby hd) rfl q) k
theorem own_ineg (X : Stand p l e R s m args below meth c T locs cells slots) (hx : p.tables.exec = Jvm.exec) (hby : c.code = bs) {x : Int32} (hd : decode bs pc = .ok (.ineg, 1))  (pc' : Nat) (hp : pc + 1 = pc') (k : Go p e below G T (mkF m pc' Ls (.int (-x) :: st))) : Go p e below G T (mkF m pc Ls (.int x :: st)) := by
  subst hp
  exact Go.by (fun t q => XS.ineg X.here hx rfl (hb hby hd) rfl q) k
theorem own_lneg (X : Stand p l e R s m args below meth c T locs cells slots) (hx : p.tables.exec = Jvm.exec) (hby : c.code = bs) {x : Int64} (hd : decode bs pc = .ok (.lneg, 1))  (pc' : Nat) (hp : pc + 1 = pc') (k : Go p e below G T (mkF m pc' Ls (.long (-x) :: st))) : Go p e below G T (mkF m pc Ls (.long x :: st)) := by
  subst hp
  exact Go.by (fun t q => XS.lneg X.here hx rfl (hb hby hd) rfl q) k
theorem own_i2l (X : Stand p l e R s m args below meth c T locs cells slots) (hx : p.tables.exec = Jvm.exec) (hby : c.code = bs) {x : Int32} (hd : decode bs pc = .ok (.i2l, 1))  (pc' : Nat) (hp : pc + 1 = pc') (k : Go p e below G T (mkF m pc' Ls (.long (x.toInt64) :: st))) : Go p e below G T (mkF m pc Ls (.int x :: st)) := by
  subst hp
  exact Go.by (fun t q => XS.i2l X.here hx rfl (hb hby hd) rfl q) k
theorem own_l2i (X : Stand p l e R s m args below meth c T locs cells slots) (hx : p.tables.exec = Jvm.exec) (hby : c.code = bs) {x : Int64} (hd : decode bs pc = .ok (.l2i, 1))  (pc' : Nat) (hp : pc + 1 = pc') (k : Go p e below G T (mkF m pc' Ls (.int (x.toInt32) :: st))) : Go p e below G T (mkF m pc Ls (.long x :: st)) := by
  subst hp
  exact Go.by (fun t q => XS.l2i X.here hx rfl (hb hby hd) rfl q) k
theorem own_i2b (X : Stand p l e R s m args below meth c T locs cells slots) (hx : p.tables.exec = Jvm.exec) (hby : c.code = bs) {x : Int32} (hd : decode bs pc = .ok (.i2b, 1))  (pc' : Nat) (hp : pc + 1 = pc') (k : Go p e below G T (mkF m pc' Ls (.int (x.toInt8.toInt32) :: st))) : Go p e below G T (mkF m pc Ls (.int x :: st)) := by
  subst hp
  exact Go.by (fun t q => XS.i2b X.here hx rfl (hb hby hd) rfl q) k
theorem own_i2s (X : Stand p l e R s m args below meth c T locs cells slots) (hx : p.tables.exec = Jvm.exec) (hby : c.code = bs) {x : Int32} (hd : decode bs pc = .ok (.i2s, 1))  (pc' : Nat) (hp : pc + 1 = pc') (k : Go p e below G T (mkF m pc' Ls (.int (x.toInt16.toInt32) :: st))) : Go p e below G T (mkF m pc Ls (.int x :: st)) := by
  subst hp
  exact Go.by (fun t q => XS.i2s X.here hx rfl (hb hby hd) rfl q) k
theorem own_i2c (X : Stand p l e R s m args below meth c T locs cells slots) (hx : p.tables.exec = Jvm.exec) (hby : c.code = bs) {x : Int32} (hd : decode bs pc = .ok (.i2c, 1))  (pc' : Nat) (hp : pc + 1 = pc') (k : Go p e below G T (mkF m pc' Ls (.int (x.toUInt32.toUInt16.toUInt32.toInt32) :: st))) : Go p e below G T (mkF m pc Ls (.int x :: st)) := by
  subst hp
  exact Go.by (fun t q => XS.i2c X.here hx rfl (hb hby hd) rfl q) k
theorem own_idiv (X : Stand p l e R s m args below meth c T locs cells slots) (hx : p.tables.exec = Jvm.exec) (hby : c.code = bs) {x y : Int32} (hd : decode bs pc = .ok (.idiv, 1)) (hy : y ≠ 0) (pc' : Nat) (hp : pc + 1 = pc') (k : Go p e below G T (mkF m pc' Ls (.int (x / y) :: st))) : Go p e below G T (mkF m pc Ls (.int y :: .int x :: st)) := by
  subst hp
  exact Go.by (fun t q => XS.idiv X.here hx rfl (hb hby hd) rfl hy q) k
theorem own_ldiv (X : Stand p l e R s m args below meth c T locs cells slots) (hx : p.tables.exec = Jvm.exec) (hby : c.code = bs) {x y : Int64} (hd : decode bs pc = .ok (.ldiv, 1)) (hy : y ≠ 0) (pc' : Nat) (hp : pc + 1 = pc') (k : Go p e below G T (mkF m pc' Ls (.long (x / y) :: st))) : Go p e below G T (mkF m pc Ls (.long y :: .long x :: st)) := by
  subst hp
  exact Go.by (fun t q => XS.ldiv X.here hx rfl (hb hby hd) rfl hy q) k
theorem own_irem (X : Stand p l e R s m args below meth c T locs cells slots) (hx : p.tables.exec = Jvm.exec) (hby : c.code = bs) {x y : Int32} (hd : decode bs pc = .ok (.irem, 1)) (hy : y ≠ 0) (pc' : Nat) (hp : pc + 1 = pc') (k : Go p e below G T (mkF m pc' Ls (.int (x % y) :: st))) : Go p e below G T (mkF m pc Ls (.int y :: .int x :: st)) := by
  subst hp
  exact Go.by (fun t q => iremM X hx rfl (hb hby hd) rfl hy q) k
theorem own_lrem (X : Stand p l e R s m args below meth c T locs cells slots) (hx : p.tables.exec = Jvm.exec) (hby : c.code = bs) {x y : Int64} (hd : decode bs pc = .ok (.lrem, 1)) (hy : y ≠ 0) (pc' : Nat) (hp : pc + 1 = pc') (k : Go p e below G T (mkF m pc' Ls (.long (x % y) :: st))) : Go p e below G T (mkF m pc Ls (.long y :: .long x :: st)) := by
  subst hp
  rw [← lrem_mod] at k
  exact Go.by (fun t q => XS.lrem X.here hx rfl (hb hby hd) rfl hy q) k
theorem own_iinc (X : Stand p l e R s m args below meth c T locs cells slots) (hx : p.tables.exec = Jvm.exec) (hby : c.code = bs) {n : Nat} {cst : Int} {x x' : Int32} (hd : decode bs pc = .ok (.iinc n cst, 3)) (hl : Ls[n]? = some (.val (.int x))) (ex : x + Int32.ofInt cst = x') {l' : Array Slot} (hl' : storeLocals Ls n (.int x') = some l') (pc' : Nat) (hp : pc + 3 = pc') (k : Go p e below G T (mkF m pc' l' st)) : Go p e below G T (mkF m pc Ls st) := by
  subst hp
  subst ex
  exact Go.by (fun t q => XS.iinc X.here hx rfl (hb hby hd) hl hl' q) k
theorem own_dup (X : Stand p l e R s m args below meth c T locs cells slots) (hx : p.tables.exec = Jvm.exec) (hby : c.code = bs) {x : Value} (hd : decode bs pc = .ok (.dup, 1)) (hc : x.category = 1) (pc' : Nat) (hp : pc + 1 = pc') (k : Go p e below G T (mkF m pc' Ls (x :: x :: st))) : Go p e below G T (mkF m pc Ls (x :: st)) := by
  subst hp
  exact Go.by (fun t q => XS.dup X.here hx rfl (hb hby hd) rfl hc q) k
theorem own_pop (X : Stand p l e R s m args below meth c T locs cells slots) (hx : p.tables.exec = Jvm.exec) (hby : c.code = bs) {x : Value} (hd : decode bs pc = .ok (.pop, 1)) (hc : x.category = 1) (pc' : Nat) (hp : pc + 1 = pc') (k : Go p e below G T (mkF m pc' Ls st)) : Go p e below G T (mkF m pc Ls (x :: st)) := by
  subst hp
  exact Go.by (fun t q => XS.pop X.here hx rfl (hb hby hd) rfl hc q) k
theorem own_dupX1 (X : Stand p l e R s m args below meth c T locs cells slots) (hx : p.tables.exec = Jvm.exec) (hby : c.code = bs) {x y : Value} (hd : decode bs pc = .ok (.dup_x1, 1)) (hc : x.category = 1) (hc2 : y.category = 1) (pc' : Nat) (hp : pc + 1 = pc') (k : Go p e below G T (mkF m pc' Ls (x :: y :: x :: st))) : Go p e below G T (mkF m pc Ls (x :: y :: st)) := by
  subst hp
  exact Go.by (fun t q => XS.dupX1 X.here hx rfl (hb hby hd) rfl hc hc2 q) k
theorem own_dup2 (X : Stand p l e R s m args below meth c T locs cells slots) (hx : p.tables.exec = Jvm.exec) (hby : c.code = bs) {x y : Value} (hd : decode bs pc = .ok (.dup2, 1)) (hc : x.category = 1) (hc2 : y.category = 1) (pc' : Nat) (hp : pc + 1 = pc') (k : Go p e below G T (mkF m pc' Ls (x :: y :: x :: y :: st))) : Go p e below G T (mkF m pc Ls (x :: y :: st)) := by
  subst hp
  exact Go.by (fun t q => XT.dup2 X.here hx rfl (hb hby hd) rfl hc hc2 q) k
theorem own_dup2L (X : Stand p l e R s m args below meth c T locs cells slots) (hx : p.tables.exec = Jvm.exec) (hby : c.code = bs) {x : Int64} (hd : decode bs pc = .ok (.dup2, 1))  (pc' : Nat) (hp : pc + 1 = pc') (k : Go p e below G T (mkF m pc' Ls (.long x :: .long x :: st))) : Go p e below G T (mkF m pc Ls (.long x :: st)) := by
  subst hp
  exact Go.by (fun t q => XT.dup2L X.here hx rfl (hb hby hd) rfl q) k
theorem own_goto (X : Stand p l e R s m args below meth c T locs cells slots) (hx : p.tables.exec = Jvm.exec) (hby : c.code = bs) {o : Int} (hd : decode bs pc = .ok (.goto o, 3)) (pc' : Nat) (hp : 0 ≤ (pc : Int) + o ∧ ((pc : Int) + o).toNat = pc') (k : Go p e below G T (mkF m pc' Ls st)) : Go p e below G T (mkF m pc Ls st) :=
  Go.by (fun t q => XS.goto X.here hx rfl rfl (hb hby hd) hp.1 hp.2 q) k
theorem own_top {v v' : Value} (q : v = v') (k : Go p e below G T (mkF m pc Ls (v' :: st))) : Go p e below G T (mkF m pc Ls (v :: st)) := q ▸ k
theorem own_icmp_eq (X : Stand p l e R s m args below meth c T locs cells slots) (hx : p.tables.exec = Jvm.exec) (hby : c.code = bs) {o : Int} {x y : Int32} (hd : decode bs pc = .ok (.if_icmp .eq o, 3)) (pT pF : Nat) (hp : 0 ≤ (pc : Int) + o ∧ ((pc : Int) + o).toNat = pT) (hpF : pc + 3 = pF) (kT : x = y → Go p e below G T (mkF m pT Ls st)) (kF : ¬ x = y → Go p e below G T (mkF m pF Ls st)) : Go p e below G T (mkF m pc Ls (.int y :: .int x :: st)) := by
  subst hpF
  by_cases q0 : x = y
  · have q := q0
    exact Go.by (fun t r => XS.icmpYes X.here hx rfl rfl (hb hby hd) rfl (teq q).1 hp.1 hp.2 r) (kT q0)
  · have q : ¬ x = y := by first | exact q0 | exact Classical.not_not.mp q0
    exact Go.by (fun t r => XS.icmpNo X.here hx rfl (hb hby hd) rfl (feq q).1 r) (kF q)
theorem own_if_eq (X : Stand p l e R s m args below meth c T locs cells slots) (hx : p.tables.exec = Jvm.exec) (hby : c.code = bs) {o : Int} {x : Int32} (hd : decode bs pc = .ok (.ifCond .eq o, 3)) (pT pF : Nat) (hp : 0 ≤ (pc : Int) + o ∧ ((pc : Int) + o).toNat = pT) (hpF : pc + 3 = pF) (kT : x = (0 : Int32) → Go p e below G T (mkF m pT Ls st)) (kF : ¬ x = (0 : Int32) → Go p e below G T (mkF m pF Ls st)) : Go p e below G T (mkF m pc Ls (.int x :: st)) := by
  subst hpF
  by_cases q0 : x = (0 : Int32)
  · have q := q0
    exact Go.by (fun t r => XS.ifYes X.here hx rfl rfl (hb hby hd) rfl ((if0 _ _).trans (teq q).1) hp.1 hp.2 r) (kT q0)
  · have q : ¬ x = (0 : Int32) := by first | exact q0 | exact Classical.not_not.mp q0
    exact Go.by (fun t r => XS.ifNo X.here hx rfl (hb hby hd) rfl ((if0 _ _).trans (feq q).1) r) (kF q)
theorem own_lcmp_eq (X : Stand p l e R s m args below meth c T locs cells slots) (hx : p.tables.exec = Jvm.exec) (hby : c.code = bs) {o : Int} {x y : Int64} (hd : decode bs pc = .ok (.lcmp, 1)) (hd2 : decode bs (pc + 1) = .ok (.ifCond .eq o, 3)) (pT pF : Nat) (hp : 0 ≤ ((pc + 1 : Nat) : Int) + o ∧ (((pc + 1 : Nat) : Int) + o).toNat = pT) (hpF : pc + 4 = pF) (kT : x = y → Go p e below G T (mkF m pT Ls st)) (kF : ¬ x = y → Go p e below G T (mkF m pF Ls st)) : Go p e below G T (mkF m pc Ls (.long y :: .long x :: st)) := by
  refine Go.by (fun t r => XS.lcmp X.here hx rfl (hb hby hd) rfl r) (g' := mkF m (pc + 1) Ls (.int (lcmpW x y) :: st)) ?_
  refine own_if_eq X hx hby hd2 pT pF hp (by omega) (fun q => kT ?_) (fun q => kF ?_)
  · exact (lw_eq x y).mp q
  · exact fun r => q ((lw_eq x y).mpr r)
theorem own_icmp_ne (X : Stand p l e R s m args below meth c T locs cells slots) (hx : p.tables.exec = Jvm.exec) (hby : c.code = bs) {o : Int} {x y : Int32} (hd : decode bs pc = .ok (.if_icmp .ne o, 3)) (pT pF : Nat) (hp : 0 ≤ (pc : Int) + o ∧ ((pc : Int) + o).toNat = pT) (hpF : pc + 3 = pF) (kT : ¬ x = y → Go p e below G T (mkF m pT Ls st)) (kF : x = y → Go p e below G T (mkF m pF Ls st)) : Go p e below G T (mkF m pc Ls (.int y :: .int x :: st)) := by
  subst hpF
  by_cases q0 : ¬ x = y
  · have q := q0
    exact Go.by (fun t r => XS.icmpYes X.here hx rfl rfl (hb hby hd) rfl (feq q).2 hp.1 hp.2 r) (kT q0)
  · have q : x = y := by first | exact q0 | exact Classical.not_not.mp q0
    exact Go.by (fun t r => XS.icmpNo X.here hx rfl (hb hby hd) rfl (teq q).2 r) (kF q)
theorem own_if_ne (X : Stand p l e R s m args below meth c T locs cells slots) (hx : p.tables.exec = Jvm.exec) (hby : c.code = bs) {o : Int} {x : Int32} (hd : decode bs pc = .ok (.ifCond .ne o, 3)) (pT pF : Nat) (hp : 0 ≤ (pc : Int) + o ∧ ((pc : Int) + o).toNat = pT) (hpF : pc + 3 = pF) (kT : ¬ x = (0 : Int32) → Go p e below G T (mkF m pT Ls st)) (kF : x = (0 : Int32) → Go p e below G T (mkF m pF Ls st)) : Go p e below G T (mkF m pc Ls (.int x :: st)) := by
  subst hpF
  by_cases q0 : ¬ x = (0 : Int32)
  · have q := q0
    exact Go.by (fun t r => XS.ifYes X.here hx rfl rfl (hb hby hd) rfl ((if0 _ _).trans (feq q).2) hp.1 hp.2 r) (kT q0)
  · have q : x = (0 : Int32) := by first | exact q0 | exact Classical.not_not.mp q0
    exact Go.by (fun t r => XS.ifNo X.here hx rfl (hb hby hd) rfl ((if0 _ _).trans (teq q).2) r) (kF q)
theorem own_lcmp_ne (X : Stand p l e R s m args below meth c T locs cells slots) (hx : p.tables.exec = Jvm.exec) (hby : c.code = bs) {o : Int} {x y : Int64} (hd : decode bs pc = .ok (.lcmp, 1)) (hd2 : decode bs (pc + 1) = .ok (.ifCond .ne o, 3)) (pT pF : Nat) (hp : 0 ≤ ((pc + 1 : Nat) : Int) + o ∧ (((pc + 1 : Nat) : Int) + o).toNat = pT) (hpF : pc + 4 = pF) (kT : ¬ x = y → Go p e below G T (mkF m pT Ls st)) (kF : x = y → Go p e below G T (mkF m pF Ls st)) : Go p e below G T (mkF m pc Ls (.long y :: .long x :: st)) := by
  refine Go.by (fun t r => XS.lcmp X.here hx rfl (hb hby hd) rfl r) (g' := mkF m (pc + 1) Ls (.int (lcmpW x y) :: st)) ?_
  refine own_if_ne X hx hby hd2 pT pF hp (by omega) (fun q => kT ?_) (fun q => kF ?_)
  · exact fun r => q ((lw_eq x y).mpr r)
  · exact (lw_eq x y).mp q
theorem own_icmp_lt (X : Stand p l e R s m args below meth c T locs cells slots) (hx : p.tables.exec = Jvm.exec) (hby : c.code = bs) {o : Int} {x y : Int32} (hd : decode bs pc = .ok (.if_icmp .lt o, 3)) (pT pF : Nat) (hp : 0 ≤ (pc : Int) + o ∧ ((pc : Int) + o).toNat = pT) (hpF : pc + 3 = pF) (kT : x < y → Go p e below G T (mkF m pT Ls st)) (kF : ¬ x < y → Go p e below G T (mkF m pF Ls st)) : Go p e below G T (mkF m pc Ls (.int y :: .int x :: st)) := by
  subst hpF
  by_cases q0 : x < y
  · have q := q0
    exact Go.by (fun t r => XS.icmpYes X.here hx rfl rfl (hb hby hd) rfl (tlt q).1 hp.1 hp.2 r) (kT q0)
  · have q : ¬ x < y := by first | exact q0 | exact Classical.not_not.mp q0
    exact Go.by (fun t r => XS.icmpNo X.here hx rfl (hb hby hd) rfl (flt q).1 r) (kF q)
theorem own_if_lt (X : Stand p l e R s m args below meth c T locs cells slots) (hx : p.tables.exec = Jvm.exec) (hby : c.code = bs) {o : Int} {x : Int32} (hd : decode bs pc = .ok (.ifCond .lt o, 3)) (pT pF : Nat) (hp : 0 ≤ (pc : Int) + o ∧ ((pc : Int) + o).toNat = pT) (hpF : pc + 3 = pF) (kT : x < (0 : Int32) → Go p e below G T (mkF m pT Ls st)) (kF : ¬ x < (0 : Int32) → Go p e below G T (mkF m pF Ls st)) : Go p e below G T (mkF m pc Ls (.int x :: st)) := by
  subst hpF
  by_cases q0 : x < (0 : Int32)
  · have q := q0
    exact Go.by (fun t r => XS.ifYes X.here hx rfl rfl (hb hby hd) rfl ((if0 _ _).trans (tlt q).1) hp.1 hp.2 r) (kT q0)
  · have q : ¬ x < (0 : Int32) := by first | exact q0 | exact Classical.not_not.mp q0
    exact Go.by (fun t r => XS.ifNo X.here hx rfl (hb hby hd) rfl ((if0 _ _).trans (flt q).1) r) (kF q)
theorem own_lcmp_lt (X : Stand p l e R s m args below meth c T locs cells slots) (hx : p.tables.exec = Jvm.exec) (hby : c.code = bs) {o : Int} {x y : Int64} (hd : decode bs pc = .ok (.lcmp, 1)) (hd2 : decode bs (pc + 1) = .ok (.ifCond .lt o, 3)) (pT pF : Nat) (hp : 0 ≤ ((pc + 1 : Nat) : Int) + o ∧ (((pc + 1 : Nat) : Int) + o).toNat = pT) (hpF : pc + 4 = pF) (kT : x < y → Go p e below G T (mkF m pT Ls st)) (kF : ¬ x < y → Go p e below G T (mkF m pF Ls st)) : Go p e below G T (mkF m pc Ls (.long y :: .long x :: st)) := by
  refine Go.by (fun t r => XS.lcmp X.here hx rfl (hb hby hd) rfl r) (g' := mkF m (pc + 1) Ls (.int (lcmpW x y) :: st)) ?_
  refine own_if_lt X hx hby hd2 pT pF hp (by omega) (fun q => kT ?_) (fun q => kF ?_)
  · exact (lw_lt x y).mp q
  · exact fun r => q ((lw_lt x y).mpr r)
theorem own_icmp_ge (X : Stand p l e R s m args below meth c T locs cells slots) (hx : p.tables.exec = Jvm.exec) (hby : c.code = bs) {o : Int} {x y : Int32} (hd : decode bs pc = .ok (.if_icmp .ge o, 3)) (pT pF : Nat) (hp : 0 ≤ (pc : Int) + o ∧ ((pc : Int) + o).toNat = pT) (hpF : pc + 3 = pF) (kT : ¬ x < y → Go p e below G T (mkF m pT Ls st)) (kF : x < y → Go p e below G T (mkF m pF Ls st)) : Go p e below G T (mkF m pc Ls (.int y :: .int x :: st)) := by
  subst hpF
  by_cases q0 : ¬ x < y
  · have q := q0
    exact Go.by (fun t r => XS.icmpYes X.here hx rfl rfl (hb hby hd) rfl (flt q).2.1 hp.1 hp.2 r) (kT q0)
  · have q : x < y := by first | exact q0 | exact Classical.not_not.mp q0
    exact Go.by (fun t r => XS.icmpNo X.here hx rfl (hb hby hd) rfl (tlt q).2.1 r) (kF q)
theorem own_if_ge (X : Stand p l e R s m args below meth c T locs cells slots) (hx : p.tables.exec = Jvm.exec) (hby : c.code = bs) {o : Int} {x : Int32} (hd : decode bs pc = .ok (.ifCond .ge o, 3)) (pT pF : Nat) (hp : 0 ≤ (pc : Int) + o ∧ ((pc : Int) + o).toNat = pT) (hpF : pc + 3 = pF) (kT : ¬ x < (0 : Int32) → Go p e below G T (mkF m pT Ls st)) (kF : x < (0 : Int32) → Go p e below G T (mkF m pF Ls st)) : Go p e below G T (mkF m pc Ls (.int x :: st)) := by
  subst hpF
  by_cases q0 : ¬ x < (0 : Int32)
  · have q := q0
    exact Go.by (fun t r => XS.ifYes X.here hx rfl rfl (hb hby hd) rfl ((if0 _ _).trans (flt q).2.1) hp.1 hp.2 r) (kT q0)
  · have q : x < (0 : Int32) := by first | exact q0 | exact Classical.not_not.mp q0
    exact Go.by (fun t r => XS.ifNo X.here hx rfl (hb hby hd) rfl ((if0 _ _).trans (tlt q).2.1) r) (kF q)
theorem own_lcmp_ge (X : Stand p l e R s m args below meth c T locs cells slots) (hx : p.tables.exec = Jvm.exec) (hby : c.code = bs) {o : Int} {x y : Int64} (hd : decode bs pc = .ok (.lcmp, 1)) (hd2 : decode bs (pc + 1) = .ok (.ifCond .ge o, 3)) (pT pF : Nat) (hp : 0 ≤ ((pc + 1 : Nat) : Int) + o ∧ (((pc + 1 : Nat) : Int) + o).toNat = pT) (hpF : pc + 4 = pF) (kT : ¬ x < y → Go p e below G T (mkF m pT Ls st)) (kF : x < y → Go p e below G T (mkF m pF Ls st)) : Go p e below G T (mkF m pc Ls (.long y :: .long x :: st)) := by
  refine Go.by (fun t r => XS.lcmp X.here hx rfl (hb hby hd) rfl r) (g' := mkF m (pc + 1) Ls (.int (lcmpW x y) :: st)) ?_
  refine own_if_ge X hx hby hd2 pT pF hp (by omega) (fun q => kT ?_) (fun q => kF ?_)
  · exact fun r => q ((lw_lt x y).mpr r)
  · exact (lw_lt x y).mp q
theorem own_icmp_gt (X : Stand p l e R s m args below meth c T locs cells slots) (hx : p.tables.exec = Jvm.exec) (hby : c.code = bs) {o : Int} {x y : Int32} (hd : decode bs pc = .ok (.if_icmp .gt o, 3)) (pT pF : Nat) (hp : 0 ≤ (pc : Int) + o ∧ ((pc : Int) + o).toNat = pT) (hpF : pc + 3 = pF) (kT : y < x → Go p e below G T (mkF m pT Ls st)) (kF : ¬ y < x → Go p e below G T (mkF m pF Ls st)) : Go p e below G T (mkF m pc Ls (.int y :: .int x :: st)) := by
  subst hpF
  by_cases q0 : y < x
  · have q := q0
    exact Go.by (fun t r => XS.icmpYes X.here hx rfl rfl (hb hby hd) rfl (tlt q).2.2.1 hp.1 hp.2 r) (kT q0)
  · have q : ¬ y < x := by first | exact q0 | exact Classical.not_not.mp q0
    exact Go.by (fun t r => XS.icmpNo X.here hx rfl (hb hby hd) rfl (flt q).2.2.1 r) (kF q)
theorem own_if_gt (X : Stand p l e R s m args below meth c T locs cells slots) (hx : p.tables.exec = Jvm.exec) (hby : c.code = bs) {o : Int} {x : Int32} (hd : decode bs pc = .ok (.ifCond .gt o, 3)) (pT pF : Nat) (hp : 0 ≤ (pc : Int) + o ∧ ((pc : Int) + o).toNat = pT) (hpF : pc + 3 = pF) (kT : (0 : Int32) < x → Go p e below G T (mkF m pT Ls st)) (kF : ¬ (0 : Int32) < x → Go p e below G T (mkF m pF Ls st)) : Go p e below G T (mkF m pc Ls (.int x :: st)) := by
  subst hpF
  by_cases q0 : (0 : Int32) < x
  · have q := q0
    exact Go.by (fun t r => XS.ifYes X.here hx rfl rfl (hb hby hd) rfl ((if0 _ _).trans (tlt q).2.2.1) hp.1 hp.2 r) (kT q0)
  · have q : ¬ (0 : Int32) < x := by first | exact q0 | exact Classical.not_not.mp q0
    exact Go.by (fun t r => XS.ifNo X.here hx rfl (hb hby hd) rfl ((if0 _ _).trans (flt q).2.2.1) r) (kF q)
theorem own_lcmp_gt (X : Stand p l e R s m args below meth c T locs cells slots) (hx : p.tables.exec = Jvm.exec) (hby : c.code = bs) {o : Int} {x y : Int64} (hd : decode bs pc = .ok (.lcmp, 1)) (hd2 : decode bs (pc + 1) = .ok (.ifCond .gt o, 3)) (pT pF : Nat) (hp : 0 ≤ ((pc + 1 : Nat) : Int) + o ∧ (((pc + 1 : Nat) : Int) + o).toNat = pT) (hpF : pc + 4 = pF) (kT : y < x → Go p e below G T (mkF m pT Ls st)) (kF : ¬ y < x → Go p e below G T (mkF m pF Ls st)) : Go p e below G T (mkF m pc Ls (.long y :: .long x :: st)) := by
  refine Go.by (fun t r => XS.lcmp X.here hx rfl (hb hby hd) rfl r) (g' := mkF m (pc + 1) Ls (.int (lcmpW x y) :: st)) ?_
  refine own_if_gt X hx hby hd2 pT pF hp (by omega) (fun q => kT ?_) (fun q => kF ?_)
  · exact (lw_gt x y).mp q
  · exact fun r => q ((lw_gt x y).mpr r)
theorem own_icmp_le (X : Stand p l e R s m args below meth c T locs cells slots) (hx : p.tables.exec = Jvm.exec) (hby : c.code = bs) {o : Int} {x y : Int32} (hd : decode bs pc = .ok (.if_icmp .le o, 3)) (pT pF : Nat) (hp : 0 ≤ (pc : Int) + o ∧ ((pc : Int) + o).toNat = pT) (hpF : pc + 3 = pF) (kT : ¬ y < x → Go p e below G T (mkF m pT Ls st)) (kF : y < x → Go p e below G T (mkF m pF Ls st)) : Go p e below G T (mkF m pc Ls (.int y :: .int x :: st)) := by
  subst hpF
  by_cases q0 : ¬ y < x
  · have q := q0
    exact Go.by (fun t r => XS.icmpYes X.here hx rfl rfl (hb hby hd) rfl (flt q).2.2.2 hp.1 hp.2 r) (kT q0)
  · have q : y < x := by first | exact q0 | exact Classical.not_not.mp q0
    exact Go.by (fun t r => XS.icmpNo X.here hx rfl (hb hby hd) rfl (tlt q).2.2.2 r) (kF q)
theorem own_if_le (X : Stand p l e R s m args below meth c T locs cells slots) (hx : p.tables.exec = Jvm.exec) (hby : c.code = bs) {o : Int} {x : Int32} (hd : decode bs pc = .ok (.ifCond .le o, 3)) (pT pF : Nat) (hp : 0 ≤ (pc : Int) + o ∧ ((pc : Int) + o).toNat = pT) (hpF : pc + 3 = pF) (kT : ¬ (0 : Int32) < x → Go p e below G T (mkF m pT Ls st)) (kF : (0 : Int32) < x → Go p e below G T (mkF m pF Ls st)) : Go p e below G T (mkF m pc Ls (.int x :: st)) := by
  subst hpF
  by_cases q0 : ¬ (0 : Int32) < x
  · have q := q0
    exact Go.by (fun t r => XS.ifYes X.here hx rfl rfl (hb hby hd) rfl ((if0 _ _).trans (flt q).2.2.2) hp.1 hp.2 r) (kT q0)
  · have q : (0 : Int32) < x := by first | exact q0 | exact Classical.not_not.mp q0
    exact Go.by (fun t r => XS.ifNo X.here hx rfl (hb hby hd) rfl ((if0 _ _).trans (tlt q).2.2.2) r) (kF q)
theorem own_lcmp_le (X : Stand p l e R s m args below meth c T locs cells slots) (hx : p.tables.exec = Jvm.exec) (hby : c.code = bs) {o : Int} {x y : Int64} (hd : decode bs pc = .ok (.lcmp, 1)) (hd2 : decode bs (pc + 1) = .ok (.ifCond .le o, 3)) (pT pF : Nat) (hp : 0 ≤ ((pc + 1 : Nat) : Int) + o ∧ (((pc + 1 : Nat) : Int) + o).toNat = pT) (hpF : pc + 4 = pF) (kT : ¬ y < x → Go p e below G T (mkF m pT Ls st)) (kF : y < x → Go p e below G T (mkF m pF Ls st)) : Go p e below G T (mkF m pc Ls (.long y :: .long x :: st)) := by
  refine Go.by (fun t r => XS.lcmp X.here hx rfl (hb hby hd) rfl r) (g' := mkF m (pc + 1) Ls (.int (lcmpW x y) :: st)) ?_
  refine own_if_le X hx hby hd2 pT pF hp (by omega) (fun q => kT ?_) (fun q => kF ?_)
  · exact fun r => q ((lw_gt x y).mpr r)
  · exact (lw_gt x y).mp q
theorem own_ifnullY (X : Stand p l e R s m args below meth c T locs cells slots) (hx : p.tables.exec = Jvm.exec) (hby : c.code = bs) {o : Int}  (hd : decode bs pc = .ok (.ifnull o, 3)) (pc' : Nat) (hp : 0 ≤ (pc : Int) + o ∧ ((pc : Int) + o).toNat = pc') (k : Go p e below G T (mkF m pc' Ls st)) : Go p e below G T (mkF m pc Ls (.null :: st)) :=
  Go.by (fun t q => XS.ifnullYes X.here hx rfl rfl (hb hby hd) rfl hp.1 hp.2 q) k
theorem own_ifnullN (X : Stand p l e R s m args below meth c T locs cells slots) (hx : p.tables.exec = Jvm.exec) (hby : c.code = bs) {o : Int} {b : Addr} (hd : decode bs pc = .ok (.ifnull o, 3)) (pc' : Nat) (hp : pc + 3 = pc') (k : Go p e below G T (mkF m pc' Ls st)) : Go p e below G T (mkF m pc Ls (.ref b :: st)) := by
  subst hp
  exact Go.by (fun t q => XS.ifnullNo X.here hx rfl (hb hby hd) rfl q) k
theorem own_ifnonnullY (X : Stand p l e R s m args below meth c T locs cells slots) (hx : p.tables.exec = Jvm.exec) (hby : c.code = bs) {o : Int} {b : Addr} (hd : decode bs pc = .ok (.ifnonnull o, 3)) (pc' : Nat) (hp : 0 ≤ (pc : Int) + o ∧ ((pc : Int) + o).toNat = pc') (k : Go p e below G T (mkF m pc' Ls st)) : Go p e below G T (mkF m pc Ls (.ref b :: st)) :=
  Go.by (fun t q => XS.ifnonnullYes X.here hx rfl rfl (hb hby hd) rfl hp.1 hp.2 q) k
theorem own_ifnonnullN (X : Stand p l e R s m args below meth c T locs cells slots) (hx : p.tables.exec = Jvm.exec) (hby : c.code = bs) {o : Int}  (hd : decode bs pc = .ok (.ifnonnull o, 3)) (pc' : Nat) (hp : pc + 3 = pc') (k : Go p e below G T (mkF m pc' Ls st)) : Go p e below G T (mkF m pc Ls (.null :: st)) := by
  subst hp
  exact Go.by (fun t q => XS.ifnonnullNo X.here hx rfl (hb hby hd) rfl q) k
theorem own_ldc (X : Stand p l e R s m args below meth c T locs cells slots) (hx : p.tables.exec = Jvm.exec) (hby : c.code = bs) (hZ : Z.Warmed39 s.vm) {own : String} {idx : Nat} (v : Int32) (hown : s.vm.findClass own = some m.cls) (w : (Jvm.Cond.constant own idx v).before a0 Z = true) (hd : decode bs pc = .ok (.ldc idx, 2)) (pc' : Nat) (hp : pc + 2 = pc') (k : Go p e below G T (mkF m pc' Ls (.int v :: st))) : Go p e below G T (mkF m pc Ls st) := by
  subst hp
  exact Go.by (fun t q => X.ldcInt hx hown (mvT hZ w) (g := mkF m pc Ls st) rfl (hb hby hd) t q) k
theorem own_ldc2 (X : Stand p l e R s m args below meth c T locs cells slots) (hx : p.tables.exec = Jvm.exec) (hby : c.code = bs) (hZ : Z.Warmed39 s.vm) {own : String} {idx : Nat} (v : Int64) (hown : s.vm.findClass own = some m.cls) (w : (Jvm.Cond.constantLong own idx v).before a0 Z = true) (hd : decode bs pc = .ok (.ldc2_w idx, 3)) (pc' : Nat) (hp : pc + 3 = pc') (k : Go p e below G T (mkF m pc' Ls (.long v :: st))) : Go p e below G T (mkF m pc Ls st) := by
  subst hp
  exact Go.by (fun t q => X.ldc2Long hx hown (mvT hZ w) (g := mkF m pc Ls st) rfl (hb hby hd) t q) k
theorem own_callS (X : Stand p l e R s m args below meth c T locs cells slots) (hx : p.tables.exec = Jvm.exec) (hby : c.code = bs) (hZ : Z.Warmed39 s.vm) {own : String} {idx : Nat} {y : MethodName} {yb : ByteArray} {yml : Nat} {yrt : Option FieldType} {rm : Room} {as : Array Value} {Qc : Option Value → Heap → List Loc → Prop} (argsL : List Value) (has : argsL.toArray = as) (hown : s.vm.findClass own = some m.cls) (w1 : (Jvm.Cond.methodLink own idx y).before a0 Z = true) (w2 : (Jvm.Cond.static y).before a0 Z = true) (w3 : (Jvm.Cond.initialized y.cls).before a0 Z = true) (w4 : (Jvm.Cond.code y yb yml yrt).before a0 Z = true) (hy : y.cls ≠ "java/lang/invoke/MethodHandle" ∧ y.cls ≠ "java/lang/invoke/VarHandle") (hd : decode bs pc = .ok (.invokestatic idx, 3)) (hM : Met1 l Z y yb yml yrt rm as h Qc) (eT : T.heap = h) {ps : List FieldType} {pr : Option FieldType} (hpd : parseMethodDescriptor y.desc = some ⟨ps, pr⟩) (hlen : argsL.length = ps.length) (hml : Ls.size = c.maxLocals) (hf : rm.frames + 1 ≤ R.frames) (W : Nat) (hW : (st.map fun v => v.category).sum = W) (hl : W + (yml + 11) + rm.locals ≤ R.locals) (hcl : cells + rm.cells ≤ R.cells) (hsl : slots + rm.slots ≤ R.slots) (pc' : Nat) (hp : pc + 3 = pc') (k : ∀ (T' : State) (L : List Loc) (v : Option Value), Stand p l e R s m args below meth c T' (locs ++ L) (cells + rm.cells) (slots + rm.slots) → Qc v T'.heap L → Go p e below G T' (mkF m pc' Ls (v.toList ++ st))) : Go p e below G T (mkF m pc Ls (argsL.reverse ++ st)) := by
  subst has
  subst hp
  obtain ⟨v, vm₁, ⟨T1, L1, k1, n1⟩, -, X1, ⟨Lc, hQ, l1, y1, z1⟩, st1⟩ := Jvm.LawKit.callS X hx (y := y) hown (mvT hZ w1) (mvT hZ w2) (mvT hZ w3) (mvT hZ w4) hy (backOf (W := W) (hM []) hZ w4 w3 hf hl) (g := mkF m pc Ls (argsL.reverse ++ st)) rfl hml (argsL := argsL) (rest := st) (lenOf hpd hlen) rfl (by show 2 * 0 + _ ≤ _; omega) (hb hby hd) (fun _ _ => ⟨rfl, eT, hcl, hsl⟩)
  dsimp only [Pt.U, Pt.locs, Pt.cells, Pt.slots] at X1 l1 y1 z1 st1 hQ
  subst l1 y1 z1
  exact Go.by (fun t q => st1 t q) (k T1 Lc v X1 hQ)
theorem own_callC (X : Stand p l e R s m args below meth c T locs cells slots) (hx : p.tables.exec = Jvm.exec) (hby : c.code = bs) (hZ : Z.Warmed39 s.vm) {own : String} {idx : Nat} {y : MethodName} {yb : ByteArray} {yml : Nat} {rm : Room} {as : Array Value} {Qc : Option Value → Heap → List Loc → Prop} {a : Addr} (argsL : List Value) (has : (.ref a :: argsL).toArray = as) (hy1 : y.name = "<init>") (hown : s.vm.findClass own = some m.cls) (w1 : (Jvm.Cond.methodLink own idx y).before a0 Z = true) (w2 : (Jvm.Cond.instanceMethod y).before a0 Z = true) (w3 : (Jvm.Cond.initialized y.cls).before a0 Z = true) (w4 : (Jvm.Cond.code y yb yml none).before a0 Z = true) (hy : y.cls ≠ "java/lang/invoke/MethodHandle" ∧ y.cls ≠ "java/lang/invoke/VarHandle") (hd : decode bs pc = .ok (.invokespecial idx, 3)) (hM : Met1 l Z y yb yml none rm as h Qc) (eT : T.heap = h) {ps : List FieldType} {pr : Option FieldType} (hpd : parseMethodDescriptor y.desc = some ⟨ps, pr⟩) (hlen : argsL.length = ps.length) (hml : Ls.size = c.maxLocals) (hf : rm.frames + 1 ≤ R.frames) (W : Nat) (hW : (st.map fun v => v.category).sum = W) (hl : W + (yml + 11) + rm.locals ≤ R.locals) (hcl : cells + rm.cells ≤ R.cells) (hsl : slots + rm.slots ≤ R.slots) (pc' : Nat) (hp : pc + 3 = pc') (k : ∀ (T' : State) (L : List Loc) (v : Option Value), Stand p l e R s m args below meth c T' (locs ++ L) (cells + rm.cells) (slots + rm.slots) → Qc v T'.heap L → Go p e below G T' (mkF m pc' Ls (v.toList ++ st))) : Go p e below G T (mkF m pc Ls (argsL.reverse ++ .ref a :: st)) := by
  subst has
  subst hp
  obtain ⟨v, vm₁, ⟨T1, L1, k1, n1⟩, -, X1, ⟨Lc, hQ, l1, y1, z1⟩, st1⟩ := X.specialBack hx (y := y) hy1 hown (mvT hZ w1) (mvT hZ w2) (mvT hZ w4) hy (backOf (W := W) (hM []) hZ w4 w3 hf hl) (g := mkF m pc Ls (argsL.reverse ++ .ref a :: st)) rfl hml (Steps.refl _) (a := a) (argsL := argsL) (rest := st) (lenOf hpd hlen) rfl (by show 2 * 0 + _ ≤ _; omega) (hb hby hd) (fun _ _ => ⟨rfl, eT, hcl, hsl⟩)
  dsimp only [Pt.U, Pt.locs, Pt.cells, Pt.slots] at X1 l1 y1 z1 st1 hQ
  subst l1 y1 z1
  exact Go.by (fun t q => st1.trans q) (k T1 Lc v X1 hQ)
theorem own_callV (X : Stand p l e R s m args below meth c T locs cells slots) (hx : p.tables.exec = Jvm.exec) (hby : c.code = bs) (hZ : Z.Warmed39 s.vm) {own : String} {idx : Nat} {y : MethodName} {yb : ByteArray} {yml : Nat} {yrt : Option FieldType} {rm : Room} {as : Array Value} {Qc : Option Value → Heap → List Loc → Prop} {a : Addr} {C : String} (argsL : List Value) (has : (.ref a :: argsL).toArray = as) (hown : s.vm.findClass own = some m.cls) (w1 : (Jvm.Cond.methodLink own idx y).before a0 Z = true) (w5 : (Jvm.Cond.declares y).before a0 Z = true) (w6 : (Jvm.Cond.selects C y y).before a0 Z = true) (w2 : (Jvm.Cond.instanceMethod y).before a0 Z = true) (w3 : (Jvm.Cond.initialized y.cls).before a0 Z = true) (w4 : (Jvm.Cond.code y yb yml yrt).before a0 Z = true) (E : Exa Z h a C) (hy : y.cls ≠ "java/lang/invoke/MethodHandle" ∧ y.cls ≠ "java/lang/invoke/VarHandle") (hd : decode bs pc = .ok (.invokevirtual idx, 3)) (hM : Met1 l Z y yb yml yrt rm as h Qc) (eT : T.heap = h) {ps : List FieldType} {pr : Option FieldType} (hpd : parseMethodDescriptor y.desc = some ⟨ps, pr⟩) (hlen : argsL.length = ps.length) (hml : Ls.size = c.maxLocals) (hf : rm.frames + 1 ≤ R.frames) (W : Nat) (hW : (st.map fun v => v.category).sum = W) (hl : W + (yml + 11) + rm.locals ≤ R.locals) (hcl : cells + rm.cells ≤ R.cells) (hsl : slots + rm.slots ≤ R.slots) (pc' : Nat) (hp : pc + 3 = pc') (k : ∀ (T' : State) (L : List Loc) (v : Option Value), Stand p l e R s m args below meth c T' (locs ++ L) (cells + rm.cells) (slots + rm.slots) → Qc v T'.heap L → Go p e below G T' (mkF m pc' Ls (v.toList ++ st))) : Go p e below G T (mkF m pc Ls (argsL.reverse ++ .ref a :: st)) := by
  subst has
  obtain ⟨cq, kq, qa, qb, qc⟩ := isOf hZ eT E
  subst hp
  obtain ⟨v, vm₁, ⟨T1, L1, k1, n1⟩, -, X1, ⟨Lc, hQ, l1, y1, z1⟩, st1⟩ := X.virtualBack hx (y := y) (z := y) hown (mvT hZ w1) (mvT hZ w5) (notFace_of_selects (args := #[]) (mvT hZ w6)) (mvT hZ w6) (mvT hZ w2) hy (backOf (W := W) (hM []) hZ w4 w3 hf hl) qa qc (g := mkF m pc Ls (argsL.reverse ++ .ref a :: st)) rfl hml (Steps.refl _) (argsL := argsL) (rest := st) (lenOf hpd hlen) rfl (by show 2 * 0 + _ ≤ _; omega) (hb hby hd) (fun _ _ => ⟨rfl, eT, hcl, hsl⟩)
  dsimp only [Pt.U, Pt.locs, Pt.cells, Pt.slots] at X1 l1 y1 z1 st1 hQ
  subst l1 y1 z1
  exact Go.by (fun t q => st1.trans q) (k T1 Lc v X1 hQ)
theorem own_getF (X : Stand p l e R s m args below meth c T locs cells slots) (hx : p.tables.exec = Jvm.exec) (hby : c.code = bs) (hZ : Z.Warmed39 s.vm) {own R0 O n d host : String} {idx : Nat} {a : Addr} {v : Value} (hown : s.vm.findClass own = some m.cls) (w : (Jvm.Cond.fieldLink own idx R0 n d).before a0 Z = true ∨ (Jvm.Cond.fieldLinkNest own idx R0 n d host).before a0 Z = true) (via : Via Z R0 O n d) (eT : T.heap = h) (F : Fld Z h a O n d v) (hd : decode bs pc = .ok (.getfield idx, 3)) (pc' : Nat) (hp : pc + 3 = pc') (k : ∀ T', Stand p l e R s m args below meth c T' locs cells slots → T'.heap = h → Go p e below G T' (mkF m pc' Ls (v :: st))) : Go p e below G T (mkF m pc Ls (.ref a :: st)) := by
  subst hp
  obtain ⟨T1, X1, e1, st1⟩ := getF X hx hZ hown w via eT F (g := mkF m pc Ls (.ref a :: st)) rfl rfl (hb hby hd)
  exact Go.by (fun t q => st1 t q) (k T1 X1 e1)
theorem own_putF (X : Stand p l e R s m args below meth c T locs cells slots) (hx : p.tables.exec = Jvm.exec) (hby : c.code = bs) (hZ : Z.Warmed39 s.vm) {own R0 O n d host C : String} {idx kk : Nat} {a : Addr} {v old : Value} {ty : FieldType} (hown : s.vm.findClass own = some m.cls) (w : (Jvm.Cond.fieldLink own idx R0 n d).before a0 Z = true ∨ (Jvm.Cond.fieldLinkNest own idx R0 n d host).before a0 Z = true) (via : Via Z R0 O n d) (eT : T.heap = h) (F : Fld Z h a O n d old) (E : Exa Z h a C) (lw : (Jvm.Cond.lays C O n d).before a0 Z = true ∨ ((Jvm.Cond.laysFinal C O n d).before a0 Z = true ∧ own = O ∧ meth.name = "<init>")) (wi : (Jvm.Cond.instantiable C kk).before a0 Z = true) (hty : parseFieldDescriptor d = some ty) (hn : narrow ty v = v) (hf : fits ty v = true) (hd : decode bs pc = .ok (.putfield idx, 3)) (pc' : Nat) (hp : pc + 3 = pc') (k : ∀ T' h', Stand p l e R s m args below meth c T' (locs ++ [⟨a, Jvm.RoadKit.slotOf Z O n d⟩]) cells slots → T'.heap = h' → Wr h h' a (Jvm.RoadKit.slotOf Z O n d) v → Go p e below G T' (mkF m pc' Ls st)) : Go p e below G T (mkF m pc Ls (v :: .ref a :: st)) := by
  subst hp
  obtain ⟨T1, h1, X1, e1, W1, st1⟩ := putF X hx hZ hown w via eT F E lw wi hty hn hf (g := mkF m pc Ls (v :: .ref a :: st)) rfl rfl (hb hby hd)
  exact Go.by (fun t q => st1 t q) (k T1 h1 X1 e1 W1)
theorem own_new (X : Stand p l e R s m args below meth c T locs cells slots) (hx : p.tables.exec = Jvm.exec) (hby : c.code = bs) (hZ : Z.Warmed39 s.vm) {own C : String} {idx n : Nat} (hown : s.vm.findClass own = some m.cls) (w : (Jvm.Cond.classLink own idx C).before a0 Z = true) (wi : (Jvm.Cond.instantiable C n).before a0 Z = true) (wz : (Jvm.Cond.initialized C).before a0 Z = true) (eT : T.heap = h) (hd : decode bs pc = .ok (.new idx, 3)) (hcl : cells + 1 ≤ R.cells) (hsl : slots + n ≤ R.slots) (pc' : Nat) (hp : pc + 3 = pc') (k : ∀ T' h' (b : Addr), b = h.size → Stand p l e R s m args below meth c T' locs (cells + 1) (slots + n) → T'.heap = h' → Ext h h' → Exa Z h' b C → (∀ {O nm d : String} {ty : FieldType}, Laid Z a0 C O nm d → parseFieldDescriptor d = some ty → Fld Z h' b O nm d (defaultValue ty)) → Go p e below G T' (mkF m pc' Ls (.ref b :: st))) : Go p e below G T (mkF m pc Ls st) := by
  subst hp
  obtain ⟨T1, h1, X1, e1, E1, A1, D1, -, st1⟩ := newO X hx hZ hown w wi wz eT (g := mkF m pc Ls st) rfl (hb hby hd) hcl hsl
  exact Go.by (fun t q => st1 t q) (k T1 h1 _ rfl X1 e1 E1 A1 D1)
theorem own_initO (X : Stand p l e R s m args below meth c T locs cells slots) (hx : p.tables.exec = Jvm.exec) (hby : c.code = bs) (hZ : Z.Warmed39 s.vm) {own : String} {idx : Nat} {a : Addr} (hown : s.vm.findClass own = some m.cls) (w1 : (Jvm.Cond.methodLink own idx Lib.objectInit).before a0 Z = true) (w2 : (Jvm.Cond.instanceMethod Lib.objectInit).before a0 Z = true) (w3 : (Jvm.Cond.code Lib.objectInit ⟨#[0xb1]⟩ 1 none).before a0 Z = true) (eT : T.heap = h) (hml : Ls.size = c.maxLocals) (hd : decode bs pc = .ok (.invokespecial idx, 3)) (hf : 1 ≤ R.frames) (W : Nat) (hW : (st.map fun v => v.category).sum = W) (hl : W + 12 ≤ R.locals) (pc' : Nat) (hp : pc + 3 = pc') (k : ∀ T', Stand p l e R s m args below meth c T' locs cells slots → T'.heap = h → Go p e below G T' (mkF m pc' Ls st)) : Go p e below G T (mkF m pc Ls (.ref a :: st)) := by
  subst hp
  obtain ⟨T1, X1, e1, st1⟩ := initO X hx hZ hown w1 w2 w3 eT (g := mkF m pc Ls (.ref a :: st)) rfl hml rfl (hb hby hd) hf (W := W) (by show 2 * 0 + _ ≤ _; omega) hl
  exact Go.by (fun t q => st1 t q) (k T1 X1 e1)
theorem own_putFN (X : Stand p l e R s m args below meth c T locs cells slots) (hx : p.tables.exec = Jvm.exec) (hby : c.code = bs) (hZ : Z.Warmed39 s.vm) {own R0 O n d C : String} {idx kk : Nat} {a : Addr} {v v' old : Value} {ty : FieldType} (hown : s.vm.findClass own = some m.cls) (w : (Jvm.Cond.fieldLink own idx R0 n d).before a0 Z = true) (via : Via Z R0 O n d) (eT : T.heap = h) (F : Fld Z h a O n d old) (E : Exa Z h a C) (lw : (Jvm.Cond.lays C O n d).before a0 Z = true ∨ ((Jvm.Cond.laysFinal C O n d).before a0 Z = true ∧ own = O ∧ meth.name = "<init>")) (wi : (Jvm.Cond.instantiable C kk).before a0 Z = true) (hty : parseFieldDescriptor d = some ty) (hn : narrow ty v = v') (hf : fits ty v' = true) (hd : decode bs pc = .ok (.putfield idx, 3)) (pc' : Nat) (hp : pc + 3 = pc') (k : ∀ T' h', Stand p l e R s m args below meth c T' (locs ++ [⟨a, Jvm.RoadKit.slotOf Z O n d⟩]) cells slots → T'.heap = h' → Wr h h' a (Jvm.RoadKit.slotOf Z O n d) v' → Go p e below G T' (mkF m pc' Ls st)) : Go p e below G T (mkF m pc Ls (v :: .ref a :: st)) := by
  subst hp
  obtain ⟨T1, h1, X1, e1, W1, st1⟩ := putFN X hx hZ hown w via eT F E lw wi hty hn hf (g := mkF m pc Ls (v :: .ref a :: st)) rfl rfl (hb hby hd)
  exact Go.by (fun t q => st1 t q) (k T1 h1 X1 e1 W1)
theorem own_callP (X : Stand p l e R s m args below meth c T locs cells slots) (hx : p.tables.exec = Jvm.exec) (hby : c.code = bs) (hZ : Z.Warmed39 s.vm) {own : String} {idx : Nat} {y : MethodName} {yb : ByteArray} {yml : Nat} {yrt : Option FieldType} {rm : Room} {as : Array Value} {Qc : Option Value → Heap → List Loc → Prop} {a : Addr} {C : String} (argsL : List Value) (has : (.ref a :: argsL).toArray = as) (hown : s.vm.findClass own = some m.cls) (w1 : (Jvm.Cond.methodLink own idx y).before a0 Z = true) (w2 : (Jvm.Cond.instanceMethod y).before a0 Z = true) {kk : Nat} (w6 : (Jvm.Cond.instantiable y.cls kk).before a0 Z = true) (w7 : (Jvm.Cond.privateMethod y).before a0 Z = true) (w3 : (Jvm.Cond.initialized y.cls).before a0 Z = true) (w4 : (Jvm.Cond.code y yb yml yrt).before a0 Z = true) (E : Exa Z h a C) (hy : y.cls ≠ "java/lang/invoke/MethodHandle" ∧ y.cls ≠ "java/lang/invoke/VarHandle") (hd : decode bs pc = .ok (.invokevirtual idx, 3)) (hM : Met1 l Z y yb yml yrt rm as h Qc) (eT : T.heap = h) {ps : List FieldType} {pr : Option FieldType} (hpd : parseMethodDescriptor y.desc = some ⟨ps, pr⟩) (hlen : argsL.length = ps.length) (hml : Ls.size = c.maxLocals) (hf : rm.frames + 1 ≤ R.frames) (W : Nat) (hW : (st.map fun v => v.category).sum = W) (hl : W + (yml + 11) + rm.locals ≤ R.locals) (hcl : cells + rm.cells ≤ R.cells) (hsl : slots + rm.slots ≤ R.slots) (pc' : Nat) (hp : pc + 3 = pc') (k : ∀ (T' : State) (L : List Loc) (v : Option Value), Stand p l e R s m args below meth c T' (locs ++ L) (cells + rm.cells) (slots + rm.slots) → Qc v T'.heap L → Go p e below G T' (mkF m pc' Ls (v.toList ++ st))) : Go p e below G T (mkF m pc Ls (argsL.reverse ++ .ref a :: st)) := by
  subst has
  obtain ⟨cq, q1, q2⟩ := E.cell
  have pv := Cond.privateMethod_at (mvP hZ w7 (args := #[]))
  have sel : (Jvm.Cond.selects y.cls y y).before args s = true := by
    obtain ⟨c1, k1, r1, r2, -, r3, -, -⟩ := Cond.instantiable_spec (mvT (args := args) hZ w6)
    exact selects_self_of_private r1 r2 (Bool.or_eq_false_iff.mp r3).1 pv (mvT hZ w2) hy
  subst hp
  obtain ⟨v, vm₁, ⟨T1, L1, k1, n1⟩, -, X1, ⟨Lc, hQ, l1, y1, z1⟩, st1⟩ := X.privateBack hx (y := y) hown (mvT hZ w1) (mvT hZ w2) sel pv (mvT hZ w4) hy (backOf (W := W) (hM []) hZ w4 w3 hf hl) (g := mkF m pc Ls (argsL.reverse ++ .ref a :: st)) rfl hml (Steps.refl _) (a := a) (by rw [eT]; exact q1) q2 (argsL := argsL) (rest := st) (lenOf hpd hlen) rfl (by show 2 * 0 + _ ≤ _; omega) (hb hby hd) (fun _ _ => ⟨rfl, eT, hcl, hsl⟩)
  dsimp only [Pt.U, Pt.locs, Pt.cells, Pt.slots] at X1 l1 y1 z1 st1 hQ
  subst l1 y1 z1
  exact Go.by (fun t q => st1.trans q) (k T1 Lc v X1 hQ)
theorem own_instY (X : Stand p l e R s m args below meth c T locs cells slots) (hx : p.tables.exec = Jvm.exec) (hby : c.code = bs) (hZ : Z.Warmed39 s.vm) {own K : String} {idx : Nat} {a : Addr} (hown : s.vm.findClass own = some m.cls) (w : (Jvm.Cond.classLink own idx K).before a0 Z = true) (eT : T.heap = h) (F : Ins Z h a K true) (hd : decode bs pc = .ok (.instanceof idx, 3)) (pc' : Nat) (hp : pc + 3 = pc') (k : ∀ T', Stand p l e R s m args below meth c T' locs cells slots → T'.heap = h → Go p e below G T' (mkF m pc' Ls (.int 1 :: st))) : Go p e below G T (mkF m pc Ls (.ref a :: st)) := by
  subst hp
  obtain ⟨T1, X1, e1, st1⟩ := instY X hx hZ hown w eT F (g := mkF m pc Ls (.ref a :: st)) rfl rfl (hb hby hd)
  exact Go.by (fun t q => st1 t q) (k T1 X1 e1)
theorem own_instNo (X : Stand p l e R s m args below meth c T locs cells slots) (hx : p.tables.exec = Jvm.exec) (hby : c.code = bs) (hZ : Z.Warmed39 s.vm) {own K : String} {idx : Nat} {a : Addr} (hown : s.vm.findClass own = some m.cls) (w : (Jvm.Cond.classLink own idx K).before a0 Z = true) (eT : T.heap = h) {C : String} (E : Exa Z h a C) (F : ∃ c t, Z.vm.findClass C = some c ∧ Z.vm.findClass K = some t ∧ Z.vm.assignable c t = false) (hd : decode bs pc = .ok (.instanceof idx, 3)) (pc' : Nat) (hp : pc + 3 = pc') (k : ∀ T', Stand p l e R s m args below meth c T' locs cells slots → T'.heap = h → Go p e below G T' (mkF m pc' Ls (.int 0 :: st))) : Go p e below G T (mkF m pc Ls (.ref a :: st)) := by
  subst hp
  obtain ⟨T1, X1, e1, st1⟩ := instNo X hx hZ hown w eT E F (g := mkF m pc Ls (.ref a :: st)) rfl rfl (hb hby hd)
  exact Go.by (fun t q => st1 t q) (k T1 X1 e1)
theorem own_castY (X : Stand p l e R s m args below meth c T locs cells slots) (hx : p.tables.exec = Jvm.exec) (hby : c.code = bs) (hZ : Z.Warmed39 s.vm) {own K : String} {idx : Nat} {a : Addr} (hown : s.vm.findClass own = some m.cls) (w : (Jvm.Cond.classLink own idx K).before a0 Z = true) (eT : T.heap = h) (F : Ins Z h a K true) (hd : decode bs pc = .ok (.checkcast idx, 3)) (pc' : Nat) (hp : pc + 3 = pc') (k : ∀ T', Stand p l e R s m args below meth c T' locs cells slots → T'.heap = h → Go p e below G T' (mkF m pc' Ls (.ref a :: st))) : Go p e below G T (mkF m pc Ls (.ref a :: st)) := by
  subst hp
  obtain ⟨T1, X1, e1, st1⟩ := castY X hx hZ hown w eT F (g := mkF m pc Ls (.ref a :: st)) rfl rfl (hb hby hd)
  exact Go.by (fun t q => st1 t q) (k T1 X1 e1)
theorem own_instNull (X : Stand p l e R s m args below meth c T locs cells slots) (hx : p.tables.exec = Jvm.exec) (hby : c.code = bs) {idx : Nat} (hd : decode bs pc = .ok (.instanceof idx, 3)) (pc' : Nat) (hp : pc + 3 = pc') (k : Go p e below G T (mkF m pc' Ls (.int 0 :: st))) : Go p e below G T (mkF m pc Ls (.null :: st)) := by
  subst hp
  exact Go.by (fun t q => X.instanceofNull hx (g := mkF m pc Ls (.null :: st)) rfl rfl (hb hby hd) t q) k
theorem own_castNull (X : Stand p l e R s m args below meth c T locs cells slots) (hx : p.tables.exec = Jvm.exec) (hby : c.code = bs) {idx : Nat} (hd : decode bs pc = .ok (.checkcast idx, 3)) (pc' : Nat) (hp : pc + 3 = pc') (k : Go p e below G T (mkF m pc' Ls (.null :: st))) : Go p e below G T (mkF m pc Ls (.null :: st)) := by
  subst hp
  exact Go.by (fun t q => X.checkcastNull hx (g := mkF m pc Ls (.null :: st)) rfl rfl (hb hby hd) t q) k
theorem own_acmp (X : Stand p l e R s m args below meth c T locs cells slots) (hx : p.tables.exec = Jvm.exec) (hby : c.code = bs) {cd : ACond} {o : Int} {x y : Value} (same : Bool) (hd : decode bs pc = .ok (.if_acmp cd o, 3)) (h1 : x.isRef = true) (h2 : y.isRef = true) (hq : decide (x = y) = same) (ho : 0 ≤ (pc : Int) + o) (pc' : Nat) (hp : pc' = if acV cd same = true then ((pc : Int) + o).toNat else pc + 3) (k : Go p e below G T (mkF m pc' Ls st)) : Go p e below G T (mkF m pc Ls (y :: x :: st)) :=
  Go.by (fun t q => Jvm.RoadKit.acmp (g := mkF m pc Ls (y :: x :: st)) X hx rfl h1 h2 (pc0 := pc) (pc' := pc') (same := same) rfl (hb hby hd) rfl hq ho hp q) k
theorem own_getS (X : Stand p l e R s m args below meth c T locs cells slots) (hx : p.tables.exec = Jvm.exec) (hby : c.code = bs) (hZ : Z.Warmed39 s.vm) {own R0 O n d host : String} {idx : Nat} {v : Value} (hown : s.vm.findClass own = some m.cls) (w : (Jvm.Cond.fieldLink own idx R0 n d).before a0 Z = true ∨ (Jvm.Cond.fieldLinkNest own idx R0 n d host).before a0 Z = true) (via : Via Z R0 O n d) (eT : T.heap = h) (F : Sta Z h O n d v) (hd : decode bs pc = .ok (.getstatic idx, 3)) (pc' : Nat) (hp : pc + 3 = pc') (k : ∀ T', Stand p l e R s m args below meth c T' locs cells slots → T'.heap = h → Go p e below G T' (mkF m pc' Ls (v :: st))) : Go p e below G T (mkF m pc Ls st) := by
  subst hp
  obtain ⟨T1, X1, e1, st1⟩ := getS2 X hx hZ hown w via eT F (g := mkF m pc Ls st) rfl (hb hby hd)
  exact Go.by (fun t q => st1 t q) (k T1 X1 e1)
/-- an array of n places that hold what f says -/
def Afn (Z : State) (h : Heap) (a : Addr) (ty : FieldType) (n : Nat) (f : Nat → Value) : Prop := ∃ cl : Cell, Arr Z h a cl ty ∧ cl.slots.size = n ∧ ∀ i, i < n → cl.slots[i]? = some (f i) ∧ fits ty (f i) = true
def upd (f : Nat → Value) (i : Nat) (v : Value) : Nat → Value := fun j => if j = i then v else f j
theorem Afn.lt {a : Addr} {ty : FieldType} {n : Nat} {f : Nat → Value} (F : Afn Z h a ty n f) : a < h.size := by obtain ⟨cl, A, -⟩ := F; exact A.lt
theorem Afn.ext {h' : Heap} {a : Addr} {ty : FieldType} {n : Nat} {f : Nat → Value} (F : Afn Z h a ty n f) (E : Ext h h') : Afn Z h' a ty n f := by obtain ⟨cl, A, r⟩ := F; exact ⟨cl, A.ext E, r⟩
theorem Afn.other {h' : Heap} {a b : Addr} {sl : Nat} {v : Value} {ty : FieldType} {n : Nat} {f : Nat → Value} (F : Afn Z h b ty n f) (W : Wr h h' a sl v) (q : b ≠ a) : Afn Z h' b ty n f := by obtain ⟨cl, A, r⟩ := F; exact ⟨cl, A.other W q, r⟩
theorem Afn.keep {h' : Heap} {a : Addr} {ws : List Addr} {ty : FieldType} {n : Nat} {f : Nat → Value} (F : Afn Z h a ty n f) (K : Keep h h' ws) (q : a ∉ ws) : Afn Z h' a ty n f := by obtain ⟨cl, A, r⟩ := F; exact ⟨cl, ⟨K.2.1 a cl A.1 q, A.2⟩, r⟩
theorem Afn.to {a : Addr} {ty : FieldType} {n : Nat} {f f' : Nat → Value} (F : Afn Z h a ty n f) (q : ∀ i, i < n → f i = f' i) : Afn Z h a ty n f' := by obtain ⟨cl, A, S, H⟩ := F; exact ⟨cl, A, S, fun i hi => q i hi ▸ H i hi⟩
theorem Afn.new {a : Addr} {k : ClassId} {ty : FieldType} {z : Int32} {n : Nat} (A : Arr Z h a (newA k ty z) ty) (q : z.toNatClampNeg = n) : Afn Z h a ty n (fun _ => defaultValue ty) := by
  refine ⟨_, A, by rw [sz_new]; exact q, fun i hi => ⟨?_, by cases ty <;> rfl⟩⟩
  subst q
  show (Array.replicate z.toNatClampNeg (defaultValue ty))[i]? = _
  rw [Array.getElem?_replicate, if_pos hi]
theorem Afn.set {h' : Heap} {a : Addr} {ty : FieldType} {n i : Nat} {v : Value} {f : Nat → Value} (F : Afn Z h a ty n f) (W : Wr h h' a i v) (hi : i < n) (hv : fits ty v = true) : Afn Z h' a ty n (upd f i v) := by
  obtain ⟨cl, A, S, H⟩ := F
  refine ⟨cl.setSlot i v, A.same W, by rw [sz_set]; exact S, fun j hj => ?_⟩
  unfold upd
  by_cases q : j = i
  · subst q
    rw [if_pos rfl]
    refine ⟨?_, hv⟩
    show (cl.slots.setIfInBounds j v)[j]? = some v
    rw [Array.getElem?_setIfInBounds_self_of_lt (by rw [S]; exact hj)]
  · rw [if_neg q]
    refine ⟨?_, (H j hj).2⟩
    rw [← (H j hj).1]
    exact Array.getElem?_setIfInBounds_ne (Ne.symm q)
theorem own_in {j : Int32} {n : Nat} (h0 : 0 ≤ j.toInt) (h1 : j.toInt < n) : ¬ (j < 0 ∨ n ≤ j.toNatClampNeg) := by
  simp only [Int32.lt_iff_toInt_lt, Int32.toNatClampNeg, Int32.reduceToInt]; omega
/-- an array of ints (bytes, chars, shorts): n places that hold what g says -/
def Afi (Z : State) (h : Heap) (a : Addr) (ty : FieldType) (n : Nat) (g : Nat → Int32) : Prop := Afn Z h a ty n (fun i => .int (g i))
def updI (g : Nat → Int32) (i : Nat) (v : Int32) : Nat → Int32 := fun j => if j = i then v else g j
theorem Afi.lt {a : Addr} {ty : FieldType} {n : Nat} {g : Nat → Int32} (F : Afi Z h a ty n g) : a < h.size := Afn.lt F
theorem Afi.ext {h' : Heap} {a : Addr} {ty : FieldType} {n : Nat} {g : Nat → Int32} (F : Afi Z h a ty n g) (E : Ext h h') : Afi Z h' a ty n g := Afn.ext F E
theorem Afi.other {h' : Heap} {a b : Addr} {sl : Nat} {v : Value} {ty : FieldType} {n : Nat} {g : Nat → Int32} (F : Afi Z h b ty n g) (W : Wr h h' a sl v) (q : b ≠ a) : Afi Z h' b ty n g := Afn.other F W q
theorem Afi.keep {h' : Heap} {a : Addr} {ws : List Addr} {ty : FieldType} {n : Nat} {g : Nat → Int32} (F : Afi Z h a ty n g) (K : Keep h h' ws) (q : a ∉ ws) : Afi Z h' a ty n g := Afn.keep F K q
theorem Afi.to {a : Addr} {ty : FieldType} {n : Nat} {g g' : Nat → Int32} (F : Afi Z h a ty n g) (q : ∀ i, i < n → g i = g' i) : Afi Z h a ty n g' := Afn.to F fun i hi => congrArg Value.int (q i hi)
theorem Afi.set {h' : Heap} {a : Addr} {ty : FieldType} {n i : Nat} {v : Int32} {g : Nat → Int32} (F : Afi Z h a ty n g) (W : Wr h h' a i (.int v)) (hi : i < n) (hv : fits ty (.int v) = true) : Afi Z h' a ty n (updI g i v) :=
  (Afn.set F W hi hv).to fun j _ => by
    unfold upd updI
    by_cases q : j = i
    · rw [if_pos q, if_pos q]
    · rw [if_neg q, if_neg q]
theorem own_iaload (X : Stand p l e R s m args below meth c T locs cells slots) (hx : p.tables.exec = Jvm.exec) (hby : c.code = bs) (hZ : Z.Warmed39 s.vm) {a : Addr} {j : Int32} {n : Nat} {g : Nat → Int32} (v : Int32) (eT : T.heap = h) (F : Afi Z h a .int n g) (hj : ¬ (j < 0 ∨ n ≤ j.toNatClampNeg)) (hv : g j.toNatClampNeg = v) (hd : decode bs pc = .ok (.iaload, 1)) (pc' : Nat) (hp : pc + 1 = pc') (k : Go p e below G T (mkF m pc' Ls (.int v :: st))) : Go p e below G T (mkF m pc Ls (.int j :: .ref a :: st)) := by
  subst hp
  subst hv
  obtain ⟨cl, A, S, H⟩ := F
  subst S
  exact Go.by (fun t q => X.iaload hx (j := j) (v := .int (g j.toNatClampNeg)) (by rw [eT]; exact A.1) (State.isArrayOf_alike hZ.alike A.2.1) A.2.2 hj (H _ (Nat.lt_of_not_le fun q => hj (Or.inr q))).1 (g := mkF m pc Ls (.int j :: .ref a :: st)) rfl rfl (hb hby hd) t q) k
theorem own_baload (X : Stand p l e R s m args below meth c T locs cells slots) (hx : p.tables.exec = Jvm.exec) (hby : c.code = bs) (hZ : Z.Warmed39 s.vm) {a : Addr} {j : Int32} {n : Nat} {g : Nat → Int32} (v : Int32) (eT : T.heap = h) (F : Afi Z h a .byte n g) (hj : ¬ (j < 0 ∨ n ≤ j.toNatClampNeg)) (hv : g j.toNatClampNeg = v) (hd : decode bs pc = .ok (.baload, 1)) (pc' : Nat) (hp : pc + 1 = pc') (k : Go p e below G T (mkF m pc' Ls (.int v :: st))) : Go p e below G T (mkF m pc Ls (.int j :: .ref a :: st)) := by
  subst hp
  subst hv
  obtain ⟨cl, A, S, H⟩ := F
  subst S
  exact Go.by (fun t q => X.baloadBytes hx (j := j) (v := .int (g j.toNatClampNeg)) (by rw [eT]; exact A.1) (State.isArrayOf_alike hZ.alike A.2.1) A.2.2 hj (H _ (Nat.lt_of_not_le fun q => hj (Or.inr q))).1 (g := mkF m pc Ls (.int j :: .ref a :: st)) rfl rfl (hb hby hd) t q) k
theorem own_caload (X : Stand p l e R s m args below meth c T locs cells slots) (hx : p.tables.exec = Jvm.exec) (hby : c.code = bs) (hZ : Z.Warmed39 s.vm) {a : Addr} {j : Int32} {n : Nat} {g : Nat → Int32} (v : Int32) (eT : T.heap = h) (F : Afi Z h a .char n g) (hj : ¬ (j < 0 ∨ n ≤ j.toNatClampNeg)) (hv : g j.toNatClampNeg = v) (hd : decode bs pc = .ok (.caload, 1)) (pc' : Nat) (hp : pc + 1 = pc') (k : Go p e below G T (mkF m pc' Ls (.int v :: st))) : Go p e below G T (mkF m pc Ls (.int j :: .ref a :: st)) := by
  subst hp
  subst hv
  obtain ⟨cl, A, S, H⟩ := F
  subst S
  exact Go.by (fun t q => X.caload hx (j := j) (v := .int (g j.toNatClampNeg)) (by rw [eT]; exact A.1) (State.isArrayOf_alike hZ.alike A.2.1) A.2.2 hj (H _ (Nat.lt_of_not_le fun q => hj (Or.inr q))).1 (g := mkF m pc Ls (.int j :: .ref a :: st)) rfl rfl (hb hby hd) t q) k
theorem own_saload (X : Stand p l e R s m args below meth c T locs cells slots) (hx : p.tables.exec = Jvm.exec) (hby : c.code = bs) (hZ : Z.Warmed39 s.vm) {a : Addr} {j : Int32} {n : Nat} {g : Nat → Int32} (v : Int32) (eT : T.heap = h) (F : Afi Z h a .short n g) (hj : ¬ (j < 0 ∨ n ≤ j.toNatClampNeg)) (hv : g j.toNatClampNeg = v) (hd : decode bs pc = .ok (.saload, 1)) (pc' : Nat) (hp : pc + 1 = pc') (k : Go p e below G T (mkF m pc' Ls (.int v :: st))) : Go p e below G T (mkF m pc Ls (.int j :: .ref a :: st)) := by
  subst hp
  subst hv
  obtain ⟨cl, A, S, H⟩ := F
  subst S
  exact Go.by (fun t q => X.saload hx (j := j) (v := .int (g j.toNatClampNeg)) (by rw [eT]; exact A.1) (State.isArrayOf_alike hZ.alike A.2.1) A.2.2 hj (H _ (Nat.lt_of_not_le fun q => hj (Or.inr q))).1 (g := mkF m pc Ls (.int j :: .ref a :: st)) rfl rfl (hb hby hd) t q) k
theorem own_aaload (X : Stand p l e R s m args below meth c T locs cells slots) (hx : p.tables.exec = Jvm.exec) (hby : c.code = bs) (hZ : Z.Warmed39 s.vm) {a : Addr} {j : Int32} {n : Nat} {ty : FieldType} {f : Nat → Value} (v : Value) (eT : T.heap = h) (F : Afn Z h a ty n f) (hty : ty.isReference = true) (hj : ¬ (j < 0 ∨ n ≤ j.toNatClampNeg)) (hv : f j.toNatClampNeg = v) (hd : decode bs pc = .ok (.aaload, 1)) (pc' : Nat) (hp : pc + 1 = pc') (k : Go p e below G T (mkF m pc' Ls (v :: st))) : Go p e below G T (mkF m pc Ls (.int j :: .ref a :: st)) := by
  subst hp
  subst hv
  obtain ⟨cl, A, S, H⟩ := F
  subst S
  exact Go.by (fun t q => X.aaload hx (j := j) (v := f j.toNatClampNeg) (by rw [eT]; exact A.1) (State.isArrayOf_alike hZ.alike A.2.1) hty A.2.2 hj (H _ (Nat.lt_of_not_le fun q => hj (Or.inr q))).1 (g := mkF m pc Ls (.int j :: .ref a :: st)) rfl rfl (hb hby hd) t q) k
theorem own_arraylength (X : Stand p l e R s m args below meth c T locs cells slots) (hx : p.tables.exec = Jvm.exec) (hby : c.code = bs) (hZ : Z.Warmed39 s.vm) {a : Addr} {ty : FieldType} {n : Nat} {f : Nat → Value} (z : Int32) (eT : T.heap = h) (F : Afn Z h a ty n f) (hz : n.toInt32 = z) (hd : decode bs pc = .ok (.arraylength, 1)) (pc' : Nat) (hp : pc + 1 = pc') (k : Go p e below G T (mkF m pc' Ls (.int z :: st))) : Go p e below G T (mkF m pc Ls (.ref a :: st)) := by
  subst hp
  subst hz
  obtain ⟨cl, A, S, H⟩ := F
  subst S
  exact Go.by (fun t q => X.arraylength hx (by rw [eT]; exact A.1) (State.isArrayOf_alike hZ.alike A.2.1) (g := mkF m pc Ls (.ref a :: st)) rfl rfl (hb hby hd) t q) k
theorem own_iastore (X : Stand p l e R s m args below meth c T locs cells slots) (hx : p.tables.exec = Jvm.exec) (hby : c.code = bs) (hZ : Z.Warmed39 s.vm) {a : Addr} {j x : Int32} {n : Nat} {g : Nat → Int32} (eT : T.heap = h) (F : Afi Z h a .int n g) (hj : ¬ (j < 0 ∨ n ≤ j.toNatClampNeg)) (hd : decode bs pc = .ok (.iastore, 1)) (pc' : Nat) (hp : pc + 1 = pc') (k : ∀ T' h', Stand p l e R s m args below meth c T' (locs ++ [⟨a, j.toNatClampNeg⟩]) cells slots → T'.heap = h' → Wr h h' a j.toNatClampNeg (.int x) → Afi Z h' a .int n (updI g j.toNatClampNeg x) → Go p e below G T' (mkF m pc' Ls st)) : Go p e below G T (mkF m pc Ls (.int x :: .int j :: .ref a :: st)) := by
  subst hp
  have F0 := F
  obtain ⟨cl, A, S, H⟩ := F
  obtain ⟨T1, h1, X1, e1, W1, st1⟩ := stI X hx hZ eT A (j := j) (x := x) (by rw [S]; exact hj) (g := mkF m pc Ls (.int x :: .int j :: .ref a :: st)) rfl rfl (hb hby hd)
  exact Go.by (fun t q => st1 t q) (k T1 h1 X1 e1 W1 (F0.set W1 (Nat.lt_of_not_le fun q => hj (Or.inr q)) rfl))
theorem own_bastore (X : Stand p l e R s m args below meth c T locs cells slots) (hx : p.tables.exec = Jvm.exec) (hby : c.code = bs) (hZ : Z.Warmed39 s.vm) {a : Addr} {j x : Int32} {n : Nat} {g : Nat → Int32} (eT : T.heap = h) (F : Afi Z h a .byte n g) (hj : ¬ (j < 0 ∨ n ≤ j.toNatClampNeg)) (hd : decode bs pc = .ok (.bastore, 1)) (pc' : Nat) (hp : pc + 1 = pc') (k : ∀ T' h', Stand p l e R s m args below meth c T' (locs ++ [⟨a, j.toNatClampNeg⟩]) cells slots → T'.heap = h' → Wr h h' a j.toNatClampNeg (.int (nar .byte x)) → Afi Z h' a .byte n (updI g j.toNatClampNeg (nar .byte x)) → Go p e below G T' (mkF m pc' Ls st)) : Go p e below G T (mkF m pc Ls (.int x :: .int j :: .ref a :: st)) := by
  subst hp
  have F0 := F
  obtain ⟨cl, A, S, H⟩ := F
  obtain ⟨T1, h1, X1, e1, W1, st1⟩ := stB X hx hZ eT A (j := j) (x := x) (by rw [S]; exact hj) (g := mkF m pc Ls (.int x :: .int j :: .ref a :: st)) rfl rfl (hb hby hd)
  exact Go.by (fun t q => st1 t q) (k T1 h1 X1 e1 W1 (F0.set W1 (Nat.lt_of_not_le fun q => hj (Or.inr q)) (fits_nar_byte x)))
theorem own_castore (X : Stand p l e R s m args below meth c T locs cells slots) (hx : p.tables.exec = Jvm.exec) (hby : c.code = bs) (hZ : Z.Warmed39 s.vm) {a : Addr} {j x : Int32} {n : Nat} {g : Nat → Int32} (eT : T.heap = h) (F : Afi Z h a .char n g) (hj : ¬ (j < 0 ∨ n ≤ j.toNatClampNeg)) (hd : decode bs pc = .ok (.castore, 1)) (pc' : Nat) (hp : pc + 1 = pc') (k : ∀ T' h', Stand p l e R s m args below meth c T' (locs ++ [⟨a, j.toNatClampNeg⟩]) cells slots → T'.heap = h' → Wr h h' a j.toNatClampNeg (.int (nar .char x)) → Afi Z h' a .char n (updI g j.toNatClampNeg (nar .char x)) → Go p e below G T' (mkF m pc' Ls st)) : Go p e below G T (mkF m pc Ls (.int x :: .int j :: .ref a :: st)) := by
  subst hp
  have F0 := F
  obtain ⟨cl, A, S, H⟩ := F
  obtain ⟨T1, h1, X1, e1, W1, st1⟩ := stC X hx hZ eT A (j := j) (x := x) (by rw [S]; exact hj) (g := mkF m pc Ls (.int x :: .int j :: .ref a :: st)) rfl rfl (hb hby hd)
  exact Go.by (fun t q => st1 t q) (k T1 h1 X1 e1 W1 (F0.set W1 (Nat.lt_of_not_le fun q => hj (Or.inr q)) (fits_nar_char x)))
theorem own_sastore (X : Stand p l e R s m args below meth c T locs cells slots) (hx : p.tables.exec = Jvm.exec) (hby : c.code = bs) (hZ : Z.Warmed39 s.vm) {a : Addr} {j x : Int32} {n : Nat} {g : Nat → Int32} (eT : T.heap = h) (F : Afi Z h a .short n g) (hj : ¬ (j < 0 ∨ n ≤ j.toNatClampNeg)) (hd : decode bs pc = .ok (.sastore, 1)) (pc' : Nat) (hp : pc + 1 = pc') (k : ∀ T' h', Stand p l e R s m args below meth c T' (locs ++ [⟨a, j.toNatClampNeg⟩]) cells slots → T'.heap = h' → Wr h h' a j.toNatClampNeg (.int (nar .short x)) → Afi Z h' a .short n (updI g j.toNatClampNeg (nar .short x)) → Go p e below G T' (mkF m pc' Ls st)) : Go p e below G T (mkF m pc Ls (.int x :: .int j :: .ref a :: st)) := by
  subst hp
  have F0 := F
  obtain ⟨cl, A, S, H⟩ := F
  obtain ⟨T1, h1, X1, e1, W1, st1⟩ := stS X hx hZ eT A (j := j) (x := x) (by rw [S]; exact hj) (g := mkF m pc Ls (.int x :: .int j :: .ref a :: st)) rfl rfl (hb hby hd)
  exact Go.by (fun t q => st1 t q) (k T1 h1 X1 e1 W1 (F0.set W1 (Nat.lt_of_not_le fun q => hj (Or.inr q)) (fits_nar_short x)))
theorem own_aastore (X : Stand p l e R s m args below meth c T locs cells slots) (hx : p.tables.exec = Jvm.exec) (hby : c.code = bs) (hZ : Z.Warmed39 s.vm) {a : Addr} {j : Int32} {v : Value} {n : Nat} {ty : FieldType} {f : Nat → Value} (eT : T.heap = h) (F : Afn Z h a ty n f) (hj : ¬ (j < 0 ∨ n ≤ j.toNatClampNeg)) (hty : ty.isReference = true) (hfv : fits ty v = true) (So : Sto Z h a v) (hd : decode bs pc = .ok (.aastore, 1)) (pc' : Nat) (hp : pc + 1 = pc') (k : ∀ T' h', Stand p l e R s m args below meth c T' (locs ++ [⟨a, j.toNatClampNeg⟩]) cells slots → T'.heap = h' → Wr h h' a j.toNatClampNeg v → Afn Z h' a ty n (upd f j.toNatClampNeg v) → Go p e below G T' (mkF m pc' Ls st)) : Go p e below G T (mkF m pc Ls (v :: .int j :: .ref a :: st)) := by
  subst hp
  have F0 := F
  obtain ⟨cl, A, S, H⟩ := F
  obtain ⟨T1, h1, X1, e1, W1, st1⟩ := stR X hx hZ eT A (j := j) (by rw [S]; exact hj) hty So (g := mkF m pc Ls (v :: .int j :: .ref a :: st)) rfl rfl (hb hby hd)
  exact Go.by (fun t q => st1 t q) (k T1 h1 X1 e1 W1 (F0.set W1 (Nat.lt_of_not_le fun q => hj (Or.inr q)) hfv))
theorem own_newarray (X : Stand p l e R s m args below meth c T locs cells slots) (hx : p.tables.exec = Jvm.exec) (hby : c.code = bs) (hZ : Z.Warmed39 s.vm) {aty : ArrayType} {z : Int32} {n cap : Nat} {ad : String} (w : (Jvm.Cond.arrayClass (newarray.typeOf aty)).before a0 Z = true) (eT : T.heap = h) (hd : decode bs pc = .ok (.newarray aty, 2)) (hz : ¬ z < 0) (hn : z.toNatClampNeg = n) (hcap : n ≤ cap) (hb8 : cap * 8 ≤ 536870912) (hcl : cells + 1 ≤ R.cells) (hsl : slots + cap ≤ R.slots) (had : "[" ++ (newarray.typeOf aty).toString = ad) (pc' : Nat) (hp : pc + 2 = pc') (k : ∀ T' h' (b : Addr), b = h.size → Stand p l e R s m args below meth c T' locs (cells + 1) (slots + cap) → T'.heap = h' → Ext h h' → Afn Z h' b (newarray.typeOf aty) n (fun _ => defaultValue (newarray.typeOf aty)) → Exa Z h' b ad → Go p e below G T' (mkF m pc' Ls (.ref b :: st))) : Go p e below G T (mkF m pc Ls (.int z :: st)) := by
  subst hp
  obtain ⟨T1, h1, cA, X1, e1, E1, A1, Ex1, st1⟩ := newPE X hx hZ w eT (g := mkF m pc Ls (.int z :: st)) rfl (hb hby hd) rfl hz (cap := cap) (by rw [hn]; exact hcap) hb8 hcl hsl had
  exact Go.by (fun t q => st1 t q) (k T1 h1 _ rfl X1 e1 E1 (Afn.new A1 hn) Ex1)
theorem own_anewarray (X : Stand p l e R s m args below meth c T locs cells slots) (hx : p.tables.exec = Jvm.exec) (hby : c.code = bs) (hZ : Z.Warmed39 s.vm) {own C : String} {idx : Nat} {z : Int32} {n cap : Nat} {ad : String} (hown : s.vm.findClass own = some m.cls) (w1 : (Jvm.Cond.classLink own idx C).before a0 Z = true) (w2 : (Jvm.Cond.arrayOver (.object C)).before a0 Z = true) (eT : T.heap = h) (hd : decode bs pc = .ok (.anewarray idx, 3)) (hz : ¬ z < 0) (hn : z.toNatClampNeg = n) (hcap : n ≤ cap) (hb8 : cap * 8 ≤ 536870912) (hcl : cells + 1 ≤ R.cells) (hsl : slots + cap ≤ R.slots) (had : "[" ++ (FieldType.object C).toString = ad) (pc' : Nat) (hp : pc + 3 = pc') (k : ∀ T' h' (b : Addr) cA, b = h.size → Stand p l e R s m args below meth c T' locs (cells + 1) (slots + cap) → T'.heap = h' → Ext h h' → Afn Z h' b (.object C) n (fun _ => .null) → Exa Z h' b ad → Arr Z h' b (newA cA (.object C) z) (.object C) → Ovr Z cA C → Go p e below G T' (mkF m pc' Ls (.ref b :: st))) : Go p e below G T (mkF m pc Ls (.int z :: st)) := by
  subst hp
  obtain ⟨T1, h1, cA, X1, e1, E1, A1, Ex1, O1, st1⟩ := newRE X hx hZ hown w1 w2 eT (g := mkF m pc Ls (.int z :: st)) rfl (hb hby hd) rfl hz (cap := cap) (by rw [hn]; exact hcap) hb8 hcl hsl had
  exact Go.by (fun t q => st1 t q) (k T1 h1 _ cA rfl X1 e1 E1 (Afn.new A1 hn) Ex1 A1 O1)
theorem own_lremV (x y : Int64) : 0 ≤ x.toInt → 0 < y.toInt → 0 ≤ (x % y).toInt ∧ (x % y).toInt < y.toInt := by
  intro h1 h2
  rw [Int64.toInt_mod, (tr x.toInt y.toInt).1 h1]
  exact ⟨Int.emod_nonneg _ (by omega), Int.emod_lt_of_pos _ h2⟩
theorem own_NSroot {O K : String} {n : Nat} (w : (Jvm.Cond.noSuperclass O).before a0 Z = true) (wk : (Jvm.Cond.instantiable K n).before a0 Z = true) (hn : O ≠ K) : NS Z O K := by
  obtain ⟨c, k, h1, h2, h3, -, -⟩ := Cond.noSuperclass_spec w
  obtain ⟨t, k2, g1, -⟩ := Cond.instantiable_spec wk
  have ne := ids_ne h1 g1 hn
  refine ⟨c, t, h1, g1, fun fuel => ?_⟩
  cases fuel with
  | zero => rfl
  | succ f => simp [Vm.isSubclassAux, ne, h2, h3]
theorem own_NSno {C S K : String} {n : Nat} (w : (Jvm.Cond.superclass C S).before a0 Z = true) (wk : (Jvm.Cond.instantiable K n).before a0 Z = true) (nn : NS Z C K) (hn : C ≠ K) : ∃ c t, Z.vm.findClass C = some c ∧ Z.vm.findClass K = some t ∧ Z.vm.assignable c t = false := by
  obtain ⟨c, t, h0, g0, n3⟩ := nn
  obtain ⟨p, k, kp, h1, h2, h3, h4, h5, -, h7⟩ := Cond.superclass_spec h0 w
  obtain ⟨t', k', g1, g2, g5, g6, -, -⟩ := Cond.instantiable_spec wk
  cases g0.symm.trans g1
  have ne := ids_ne h0 g0 hn
  have g7 : k'.isInterface = false := (Bool.or_eq_false_iff.mp g6).1
  refine ⟨c, t, h0, g0, ?_⟩
  show Z.vm.assignableAux (255 + 1) c t = false
  simp [Vm.assignableAux, ne, h2, g2, h5, g5, g7, Vm.isSubclass, n3]
theorem own_ext0 {h0 : Heap} (K : Keep h0 h []) : Ext h0 h := ⟨K.1, fun a c q => K.2.1 a c q nin0⟩
/-- an array of references over the class C takes objects of C -/
def Orr (Z : State) (h : Heap) (b : Addr) (C : String) : Prop := ∃ (c : Cell) (cA : ClassId), Arr Z h b c (.object C) ∧ c.cls = cA ∧ Ovr Z cA C
theorem Orr.lt {b : Addr} {C : String} (F : Orr Z h b C) : b < h.size := by obtain ⟨c, cA, A, -⟩ := F; exact A.lt
theorem Orr.ext {h' : Heap} {b : Addr} {C : String} (F : Orr Z h b C) (E : Ext h h') : Orr Z h' b C := by obtain ⟨c, cA, A, r⟩ := F; exact ⟨c, cA, A.ext E, r⟩
theorem Orr.wr {h' : Heap} {a b : Addr} {C : String} {sl : Nat} {v : Value} (F : Orr Z h b C) (W : Wr h h' a sl v) : Orr Z h' b C := by
  obtain ⟨c, cA, A, q, O⟩ := F
  by_cases e : b = a
  · subst e; exact ⟨_, cA, A.same W, q, O⟩
  · exact ⟨c, cA, A.other W e, q, O⟩
theorem Orr.sto {b y : Addr} {C : String} (F : Orr Z h b C) (I : Ins Z h y C true) : Sto Z h b (.ref y) := by
  obtain ⟨c, cA, A, q, O⟩ := F
  exact Sto.ofV A q O I
theorem own_clone (X : Stand p l e R s m args below meth c T locs cells slots) (hx : p.tables.exec = Jvm.exec) (hby : c.code = bs) (hZ : Z.Warmed39 s.vm) {own ad : String} {idx : Nat} {a : Addr} {ty : FieldType} {n cap : Nat} {g : Nat → Int32} (hown : s.vm.findClass own = some m.cls) (w1 : (Jvm.Cond.methodLink own idx ⟨ad, "clone", "()Ljava/lang/Object;"⟩).before a0 Z = true) (w2 : (Jvm.Cond.sameMethod ad "java/lang/Object" "clone" "()Ljava/lang/Object;").before a0 Z = true) (w3 : (Jvm.Cond.native ⟨"java/lang/Object", "clone", "()Ljava/lang/Object;"⟩).before a0 Z = true)
    (w4 : (Jvm.Cond.instanceMethod ⟨"java/lang/Object", "clone", "()Ljava/lang/Object;"⟩).before a0 Z = true) (w5 : (Jvm.Cond.selects ad ⟨ad, "clone", "()Ljava/lang/Object;"⟩ ⟨"java/lang/Object", "clone", "()Ljava/lang/Object;"⟩).before a0 Z = true) (w6 : (Jvm.Cond.castable ad "java/lang/Cloneable").before a0 Z = true)
    (eT : T.heap = h) (F : Afi Z h a ty n g) (E : Exa Z h a ad) (hml : Ls.size = c.maxLocals) (hd : decode bs pc = .ok (.invokevirtual idx, 3)) (hf : 1 ≤ R.frames) (W : Nat) (hW : (st.map fun v => v.category).sum = W) (hl : W + 14 ≤ R.locals) (hcap : n ≤ cap) (hcl : cells + 1 ≤ R.cells) (hsl : slots + cap ≤ R.slots) (pc' : Nat) (hp : pc + 3 = pc')
    (k : ∀ T' h' (b : Addr), b = h.size → Stand p l e R s m args below meth c T' locs (cells + 1) (slots + cap) → T'.heap = h' → Ext h h' → Afi Z h' b ty n g → Exa Z h' b ad → Go p e below G T' (mkF m pc' Ls (.ref b :: st))) : Go p e below G T (mkF m pc Ls (.ref a :: st)) := by
  subst hp
  obtain ⟨cl, A, S, H⟩ := F
  have FC : FitC Z cl := fitC_of A fun i hi v hv => by rw [(H i (S ▸ hi)).1] at hv; cases hv; exact (H i (S ▸ hi)).2
  obtain ⟨T1, h1, X1, e1, E1, A1, Ex1, st1⟩ := cloneA X hx hZ hown w1 w2 w3 w4 w5 w6 eT A E FC (g := mkF m pc Ls (.ref a :: st)) rfl hml rfl (hb hby hd) hf (W := W) (by show 2 * 0 + _ ≤ _; omega) hl (cap := cap) (by rw [S]; exact hcap) hcl hsl
  exact Go.by (fun t q => st1 t q) (k T1 h1 _ rfl X1 e1 E1 ⟨_, A1, S, H⟩ Ex1)
theorem own_fld_start {t : Term} {C n d : String} {k : Int32} {a : Addr} (ev : t.eval args Z none [] Z = some (.ref a)) (hh : (Jvm.Cond.eq (.field t C n d) (.int k)).value args Z none Z [] = some true) : Fld Z Z.heap a C n d (.int k) := by
  obtain ⟨x, y, h1, h2, h3, h4⟩ := cmp_v (Or.inl hh)
  have h2' : y = .int k := (Option.some.inj h2).symm
  subst h2'
  obtain ⟨z, rfl⟩ := h4
  have q : z = k := by
    simp only [Cond.value, h1, h2] at hh
    exact of_decide_eq_true (Option.some.inj hh)
  subst q
  rw [fld_at ev] at h1
  exact Fld.start h1
end OwnGo

theorem d1_0 : decode prog_10_method_1_code 0 = .ok (.aload_n 0, 1) := by decide +kernel
theorem d1_1 : decode prog_10_method_1_code 1 = .ok (.invokespecial 1, 3) := by decide +kernel
theorem d1_4 : decode prog_10_method_1_code 4 = .ok (.aload_n 0, 1) := by decide +kernel
theorem d1_5 : decode prog_10_method_1_code 5 = .ok (.iload_n 1, 1) := by decide +kernel
theorem d1_6 : decode prog_10_method_1_code 6 = .ok (.newarray .byte, 2) := by decide +kernel
theorem d1_8 : decode prog_10_method_1_code 8 = .ok (.putfield 7, 3) := by decide +kernel
theorem d1_11 : decode prog_10_method_1_code 11 = .ok (.return_, 1) := by decide +kernel
theorem pn_1 : plainName "com/example/daylily/daylily/engine/ByteWriter" = true := by first | (simp [plainName, overriddenIn]; done) | decide +kernel
theorem d5_0 : decode jdk_29_method_65_code 0 = .ok (.iload_n 0, 1) := by decide +kernel
theorem d5_1 : decode jdk_29_method_65_code 1 = .ok (.iload_n 1, 1) := by decide +kernel
theorem d5_2 : decode jdk_29_method_65_code 2 = .ok (.if_icmp .lt 7, 3) := by decide +kernel
theorem d5_5 : decode jdk_29_method_65_code 5 = .ok (.iload_n 0, 1) := by decide +kernel
theorem d5_6 : decode jdk_29_method_65_code 6 = .ok (.goto 4, 3) := by decide +kernel
theorem d5_9 : decode jdk_29_method_65_code 9 = .ok (.iload_n 1, 1) := by decide +kernel
theorem d5_10 : decode jdk_29_method_65_code 10 = .ok (.ireturn, 1) := by decide +kernel
theorem d7_0 : decode jdk_29_method_69_code 0 = .ok (.iload_n 0, 1) := by decide +kernel
theorem d7_1 : decode jdk_29_method_69_code 1 = .ok (.iload_n 1, 1) := by decide +kernel
theorem d7_2 : decode jdk_29_method_69_code 2 = .ok (.if_icmp .gt 7, 3) := by decide +kernel
theorem d7_5 : decode jdk_29_method_69_code 5 = .ok (.iload_n 0, 1) := by decide +kernel
theorem d7_6 : decode jdk_29_method_69_code 6 = .ok (.goto 4, 3) := by decide +kernel
theorem d7_9 : decode jdk_29_method_69_code 9 = .ok (.iload_n 1, 1) := by decide +kernel
theorem d7_10 : decode jdk_29_method_69_code 10 = .ok (.ireturn, 1) := by decide +kernel
theorem d6_0 : decode jdk_65_method_121_code 0 = .ok (.iload_n 1, 1) := by decide +kernel
theorem d6_1 : decode jdk_65_method_121_code 1 = .ok (.aload_n 0, 1) := by decide +kernel
theorem d6_2 : decode jdk_65_method_121_code 2 = .ok (.arraylength, 1) := by decide +kernel
theorem d6_3 : decode jdk_65_method_121_code 3 = .ok (.if_icmp .ne 11, 3) := by decide +kernel
theorem d6_6 : decode jdk_65_method_121_code 6 = .ok (.aload_n 0, 1) := by decide +kernel
theorem d6_7 : decode jdk_65_method_121_code 7 = .ok (.invokevirtual 310, 3) := by decide +kernel
theorem d6_10 : decode jdk_65_method_121_code 10 = .ok (.checkcast 311, 3) := by decide +kernel
theorem d6_13 : decode jdk_65_method_121_code 13 = .ok (.areturn, 1) := by decide +kernel
theorem pn_6 : plainName "java/util/Arrays" = true := by first | (simp [plainName, overriddenIn]; done) | decide +kernel
theorem d6_14 : decode jdk_65_method_121_code 14 = .ok (.iload_n 1, 1) := by decide +kernel
theorem d6_15 : decode jdk_65_method_121_code 15 = .ok (.newarray .byte, 2) := by decide +kernel
theorem d6_17 : decode jdk_65_method_121_code 17 = .ok (.astore_n 2, 1) := by decide +kernel
theorem d6_18 : decode jdk_65_method_121_code 18 = .ok (.aload_n 0, 1) := by decide +kernel
theorem d6_19 : decode jdk_65_method_121_code 19 = .ok (.iconst 0, 1) := by decide +kernel
theorem d6_20 : decode jdk_65_method_121_code 20 = .ok (.aload_n 2, 1) := by decide +kernel
theorem d6_21 : decode jdk_65_method_121_code 21 = .ok (.iconst 0, 1) := by decide +kernel
theorem d6_22 : decode jdk_65_method_121_code 22 = .ok (.aload_n 0, 1) := by decide +kernel
theorem d6_23 : decode jdk_65_method_121_code 23 = .ok (.arraylength, 1) := by decide +kernel
theorem d6_24 : decode jdk_65_method_121_code 24 = .ok (.iload_n 1, 1) := by decide +kernel
theorem d6_25 : decode jdk_65_method_121_code 25 = .ok (.invokestatic 304, 3) := by decide +kernel
theorem d6_28 : decode jdk_65_method_121_code 28 = .ok (.invokestatic 150, 3) := by decide +kernel
theorem d6_31 : decode jdk_65_method_121_code 31 = .ok (.aload_n 2, 1) := by decide +kernel
theorem d6_32 : decode jdk_65_method_121_code 32 = .ok (.areturn, 1) := by decide +kernel
theorem pd_5 : parseMethodDescriptor "(II)I" = some ⟨[.int, .int], some .int⟩ := by decide +kernel
theorem d4_0 : decode prog_10_method_15_code 0 = .ok (.aload_n 0, 1) := by decide +kernel
theorem d4_1 : decode prog_10_method_15_code 1 = .ok (.getfield 13, 3) := by decide +kernel
theorem d4_4 : decode prog_10_method_15_code 4 = .ok (.iload_n 1, 1) := by decide +kernel
theorem d4_5 : decode prog_10_method_15_code 5 = .ok (.iadd, 1) := by decide +kernel
theorem d4_6 : decode prog_10_method_15_code 6 = .ok (.aload_n 0, 1) := by decide +kernel
theorem d4_7 : decode prog_10_method_15_code 7 = .ok (.getfield 7, 3) := by decide +kernel
theorem d4_10 : decode prog_10_method_15_code 10 = .ok (.arraylength, 1) := by decide +kernel
theorem d4_11 : decode prog_10_method_15_code 11 = .ok (.if_icmp .le 30, 3) := by decide +kernel
theorem d4_41 : decode prog_10_method_15_code 41 = .ok (.return_, 1) := by decide +kernel
theorem d4_14 : decode prog_10_method_15_code 14 = .ok (.aload_n 0, 1) := by decide +kernel
theorem d4_15 : decode prog_10_method_15_code 15 = .ok (.aload_n 0, 1) := by decide +kernel
theorem d4_16 : decode prog_10_method_15_code 16 = .ok (.getfield 7, 3) := by decide +kernel
theorem d4_19 : decode prog_10_method_15_code 19 = .ok (.iconst 2, 1) := by decide +kernel
theorem d4_20 : decode prog_10_method_15_code 20 = .ok (.aload_n 0, 1) := by decide +kernel
theorem d4_21 : decode prog_10_method_15_code 21 = .ok (.getfield 7, 3) := by decide +kernel
theorem d4_24 : decode prog_10_method_15_code 24 = .ok (.arraylength, 1) := by decide +kernel
theorem d4_25 : decode prog_10_method_15_code 25 = .ok (.imul, 1) := by decide +kernel
theorem d4_26 : decode prog_10_method_15_code 26 = .ok (.aload_n 0, 1) := by decide +kernel
theorem d4_27 : decode prog_10_method_15_code 27 = .ok (.getfield 13, 3) := by decide +kernel
theorem d4_30 : decode prog_10_method_15_code 30 = .ok (.iload_n 1, 1) := by decide +kernel
theorem d4_31 : decode prog_10_method_15_code 31 = .ok (.iadd, 1) := by decide +kernel
theorem d4_32 : decode prog_10_method_15_code 32 = .ok (.invokestatic 59, 3) := by decide +kernel
theorem d4_35 : decode prog_10_method_15_code 35 = .ok (.invokestatic 17, 3) := by decide +kernel
theorem d4_38 : decode prog_10_method_15_code 38 = .ok (.putfield 7, 3) := by decide +kernel
theorem pd_8 : parseMethodDescriptor "([BI)[B" = some ⟨[(.array .byte), .int], some (.array .byte)⟩ := by decide +kernel
theorem d3_0 : decode prog_10_method_7_code 0 = .ok (.aload_n 0, 1) := by decide +kernel
theorem d3_1 : decode prog_10_method_7_code 1 = .ok (.iconst 4, 1) := by decide +kernel
theorem d3_2 : decode prog_10_method_7_code 2 = .ok (.invokevirtual 23, 3) := by decide +kernel
theorem d3_5 : decode prog_10_method_7_code 5 = .ok (.bipush 24, 2) := by decide +kernel
theorem d3_7 : decode prog_10_method_7_code 7 = .ok (.istore_n 2, 1) := by decide +kernel
theorem d3_8 : decode prog_10_method_7_code 8 = .ok (.iload_n 2, 1) := by decide +kernel
theorem d3_9 : decode prog_10_method_7_code 9 = .ok (.ifCond .lt 29, 3) := by decide +kernel
theorem d3_12 : decode prog_10_method_7_code 12 = .ok (.aload_n 0, 1) := by decide +kernel
theorem d3_13 : decode prog_10_method_7_code 13 = .ok (.getfield 7, 3) := by decide +kernel
theorem d3_16 : decode prog_10_method_7_code 16 = .ok (.aload_n 0, 1) := by decide +kernel
theorem d3_17 : decode prog_10_method_7_code 17 = .ok (.dup, 1) := by decide +kernel
theorem d3_18 : decode prog_10_method_7_code 18 = .ok (.getfield 13, 3) := by decide +kernel
theorem d3_21 : decode prog_10_method_7_code 21 = .ok (.dup_x1, 1) := by decide +kernel
theorem d3_22 : decode prog_10_method_7_code 22 = .ok (.iconst 1, 1) := by decide +kernel
theorem d3_23 : decode prog_10_method_7_code 23 = .ok (.iadd, 1) := by decide +kernel
theorem d3_24 : decode prog_10_method_7_code 24 = .ok (.putfield 13, 3) := by decide +kernel
theorem d3_27 : decode prog_10_method_7_code 27 = .ok (.iload_n 1, 1) := by decide +kernel
theorem d3_28 : decode prog_10_method_7_code 28 = .ok (.iload_n 2, 1) := by decide +kernel
theorem d3_29 : decode prog_10_method_7_code 29 = .ok (.iushr, 1) := by decide +kernel
theorem d3_30 : decode prog_10_method_7_code 30 = .ok (.i2b, 1) := by decide +kernel
theorem d3_31 : decode prog_10_method_7_code 31 = .ok (.bastore, 1) := by decide +kernel
theorem d3_32 : decode prog_10_method_7_code 32 = .ok (.iinc 2 (-8), 3) := by decide +kernel
theorem d3_35 : decode prog_10_method_7_code 35 = .ok (.goto (-27), 3) := by decide +kernel
theorem d3_38 : decode prog_10_method_7_code 38 = .ok (.return_, 1) := by decide +kernel
theorem pd_4 : parseMethodDescriptor "(I)V" = some ⟨[.int], none⟩ := by decide +kernel
theorem d8_0 : decode prog_10_method_13_code 0 = .ok (.bipush 24, 2) := by decide +kernel
theorem d8_2 : decode prog_10_method_13_code 2 = .ok (.istore_n 3, 1) := by decide +kernel
theorem d8_3 : decode prog_10_method_13_code 3 = .ok (.iload_n 1, 1) := by decide +kernel
theorem d8_4 : decode prog_10_method_13_code 4 = .ok (.istore 4, 2) := by decide +kernel
theorem d8_6 : decode prog_10_method_13_code 6 = .ok (.iload_n 3, 1) := by decide +kernel
theorem d8_7 : decode prog_10_method_13_code 7 = .ok (.ifCond .lt 23, 3) := by decide +kernel
theorem d8_10 : decode prog_10_method_13_code 10 = .ok (.aload_n 0, 1) := by decide +kernel
theorem d8_11 : decode prog_10_method_13_code 11 = .ok (.getfield 7, 3) := by decide +kernel
theorem d8_14 : decode prog_10_method_13_code 14 = .ok (.iload 4, 2) := by decide +kernel
theorem d8_16 : decode prog_10_method_13_code 16 = .ok (.iinc 4 1, 3) := by decide +kernel
theorem d8_19 : decode prog_10_method_13_code 19 = .ok (.iload_n 2, 1) := by decide +kernel
theorem d8_20 : decode prog_10_method_13_code 20 = .ok (.iload_n 3, 1) := by decide +kernel
theorem d8_21 : decode prog_10_method_13_code 21 = .ok (.iushr, 1) := by decide +kernel
theorem d8_22 : decode prog_10_method_13_code 22 = .ok (.i2b, 1) := by decide +kernel
theorem d8_23 : decode prog_10_method_13_code 23 = .ok (.bastore, 1) := by decide +kernel
theorem d8_24 : decode prog_10_method_13_code 24 = .ok (.iinc 3 (-8), 3) := by decide +kernel
theorem d8_27 : decode prog_10_method_13_code 27 = .ok (.goto (-21), 3) := by decide +kernel
theorem d8_30 : decode prog_10_method_13_code 30 = .ok (.return_, 1) := by decide +kernel
theorem d9_0 : decode prog_10_method_3_code 0 = .ok (.aload_n 0, 1) := by decide +kernel
theorem d9_1 : decode prog_10_method_3_code 1 = .ok (.getfield 13, 3) := by decide +kernel
theorem d9_4 : decode prog_10_method_3_code 4 = .ok (.ireturn, 1) := by decide +kernel
theorem d10_0 : decode prog_10_method_4_code 0 = .ok (.aload_n 0, 1) := by decide +kernel
theorem d10_1 : decode prog_10_method_4_code 1 = .ok (.getfield 7, 3) := by decide +kernel
theorem d10_4 : decode prog_10_method_4_code 4 = .ok (.aload_n 0, 1) := by decide +kernel
theorem d10_5 : decode prog_10_method_4_code 5 = .ok (.getfield 13, 3) := by decide +kernel
theorem d10_8 : decode prog_10_method_4_code 8 = .ok (.invokestatic 17, 3) := by decide +kernel
theorem d10_11 : decode prog_10_method_4_code 11 = .ok (.areturn, 1) := by decide +kernel
theorem d11_0 : decode method_3_code 0 = .ok (.iload_n 1, 1) := by decide +kernel
theorem d11_1 : decode method_3_code 1 = .ok (.iload_n 2, 1) := by decide +kernel
theorem d11_2 : decode method_3_code 2 = .ok (.if_icmp .lt 28, 3) := by decide +kernel
theorem d11_5 : decode method_3_code 5 = .ok (.iload_n 1, 1) := by decide +kernel
theorem d11_6 : decode method_3_code 6 = .ok (.iload_n 2, 1) := by decide +kernel
theorem d11_7 : decode method_3_code 7 = .ok (.iconst 4, 1) := by decide +kernel
theorem d11_8 : decode method_3_code 8 = .ok (.iadd, 1) := by decide +kernel
theorem d11_9 : decode method_3_code 9 = .ok (.if_icmp .ge 21, 3) := by decide +kernel
theorem d11_12 : decode method_3_code 12 = .ok (.iload 5, 2) := by decide +kernel
theorem d11_14 : decode method_3_code 14 = .ok (.bipush 24, 2) := by decide +kernel
theorem d11_16 : decode method_3_code 16 = .ok (.bipush 8, 2) := by decide +kernel
theorem d11_18 : decode method_3_code 18 = .ok (.iload_n 1, 1) := by decide +kernel
theorem d11_19 : decode method_3_code 19 = .ok (.iload_n 2, 1) := by decide +kernel
theorem d11_20 : decode method_3_code 20 = .ok (.isub, 1) := by decide +kernel
theorem d11_21 : decode method_3_code 21 = .ok (.imul, 1) := by decide +kernel
theorem d11_22 : decode method_3_code 22 = .ok (.isub, 1) := by decide +kernel
theorem d11_23 : decode method_3_code 23 = .ok (.iushr, 1) := by decide +kernel
theorem d11_24 : decode method_3_code 24 = .ok (.i2b, 1) := by decide +kernel
theorem d11_25 : decode method_3_code 25 = .ok (.istore 6, 2) := by decide +kernel
theorem d11_27 : decode method_3_code 27 = .ok (.goto 36, 3) := by decide +kernel
theorem d11_30 : decode method_3_code 30 = .ok (.iload_n 1, 1) := by decide +kernel
theorem d11_31 : decode method_3_code 31 = .ok (.iconst 4, 1) := by decide +kernel
theorem d11_32 : decode method_3_code 32 = .ok (.if_icmp .ge 18, 3) := by decide +kernel
theorem d11_35 : decode method_3_code 35 = .ok (.iload_n 3, 1) := by decide +kernel
theorem d11_36 : decode method_3_code 36 = .ok (.bipush 24, 2) := by decide +kernel
theorem d11_38 : decode method_3_code 38 = .ok (.bipush 8, 2) := by decide +kernel
theorem d11_40 : decode method_3_code 40 = .ok (.iload_n 1, 1) := by decide +kernel
theorem d11_41 : decode method_3_code 41 = .ok (.imul, 1) := by decide +kernel
theorem d11_42 : decode method_3_code 42 = .ok (.isub, 1) := by decide +kernel
theorem d11_43 : decode method_3_code 43 = .ok (.iushr, 1) := by decide +kernel
theorem d11_44 : decode method_3_code 44 = .ok (.i2b, 1) := by decide +kernel
theorem d11_45 : decode method_3_code 45 = .ok (.istore 6, 2) := by decide +kernel
theorem d11_47 : decode method_3_code 47 = .ok (.goto 16, 3) := by decide +kernel
theorem d11_50 : decode method_3_code 50 = .ok (.iload 4, 2) := by decide +kernel
theorem d11_52 : decode method_3_code 52 = .ok (.bipush 56, 2) := by decide +kernel
theorem d11_54 : decode method_3_code 54 = .ok (.bipush 8, 2) := by decide +kernel
theorem d11_56 : decode method_3_code 56 = .ok (.iload_n 1, 1) := by decide +kernel
theorem d11_57 : decode method_3_code 57 = .ok (.imul, 1) := by decide +kernel
theorem d11_58 : decode method_3_code 58 = .ok (.isub, 1) := by decide +kernel
theorem d11_59 : decode method_3_code 59 = .ok (.iushr, 1) := by decide +kernel
theorem d11_60 : decode method_3_code 60 = .ok (.i2b, 1) := by decide +kernel
theorem d11_61 : decode method_3_code 61 = .ok (.istore 6, 2) := by decide +kernel
theorem d11_63 : decode method_3_code 63 = .ok (.aload_n 0, 1) := by decide +kernel
theorem d11_64 : decode method_3_code 64 = .ok (.iload_n 1, 1) := by decide +kernel
theorem d11_65 : decode method_3_code 65 = .ok (.baload, 1) := by decide +kernel
theorem d11_66 : decode method_3_code 66 = .ok (.iload 6, 2) := by decide +kernel
theorem d11_68 : decode method_3_code 68 = .ok (.if_icmp .ne 7, 3) := by decide +kernel
theorem d11_71 : decode method_3_code 71 = .ok (.iconst 1, 1) := by decide +kernel
theorem d11_72 : decode method_3_code 72 = .ok (.goto 4, 3) := by decide +kernel
theorem d11_75 : decode method_3_code 75 = .ok (.iconst 0, 1) := by decide +kernel
theorem d11_76 : decode method_3_code 76 = .ok (.ireturn, 1) := by decide +kernel
theorem pn_11 : plainName "com/example/daylily/daylily/engine/ByteWriterSetIntPinLaw" = true := by first | (simp [plainName, overriddenIn]; done) | decide +kernel
theorem pd_6 : parseMethodDescriptor "(II)V" = some ⟨[.int, .int], none⟩ := by decide +kernel
theorem pd_0 : parseMethodDescriptor "()I" = some ⟨[], some .int⟩ := by decide +kernel
theorem pd_3 : parseMethodDescriptor "()[B" = some ⟨[], some (.array .byte)⟩ := by decide +kernel
theorem pd_9 : parseMethodDescriptor "([BIIIII)Z" = some ⟨[(.array .byte), .int, .int, .int, .int, .int], some .boolean⟩ := by decide +kernel
section OwnCopy
variable {p : Program} {l : Launch} {e : Env} {R : Room} {s : State} {m : MethodId} {args : Array Value} {below : List Frame} {meth : Method} {c : Code} {T T' : State} {locs : List Loc} {cells slots : Nat} {G : State → Outcome → Prop} {Ls : Array Slot} {st : List Value} {pc : Nat} {bs : ByteArray} {Z : State} {a0 : Array Value} {h : Heap}
theorem own_ofN {n : Nat} (hn : n < 2147483648) : (Int32.ofNat n).toNatClampNeg = n ∧ ¬ Int32.ofNat n < 0 ∧ (Int32.ofNat n).toInt = n := by
  have h1 : (Int32.ofNat n).toInt = n := Int32.toInt_ofNat_of_lt hn
  refine ⟨Int32.toNatClampNeg_ofNat_of_lt hn, ?_, h1⟩
  rw [Int32.lt_iff_toInt_lt, h1]
  have h2 : (0 : Int32).toInt = 0 := rfl
  omega
theorem own_gd {n i : Nat} {f : Nat → Value} {d : Value} (hi : i < n) : ((List.range n).map f).getD i d = f i := by
  rw [List.getD_eq_getElem?_getD, List.getElem?_map, List.getElem?_range hi]
  rfl
theorem own_toArv {a : Addr} {ty : FieldType} {n : Nat} {f : Nat → Value} (F : Afn Z h a ty n f) (hn : n < 2147483648) : ∃ k, Arv Z h a k ty (Int32.ofNat n) ((List.range n).map f) .null := by
  obtain ⟨cl, A, S, H⟩ := F
  refine ⟨cl.cls, cl, A, rfl, by rw [S, (own_ofN hn).1], (own_ofN hn).2.1, fun i hi => ?_, fun i hi => ?_⟩
  · rw [own_gd (S ▸ hi)]; exact (H i (S ▸ hi)).1
  · rw [own_gd (S ▸ hi)]; exact (H i (S ▸ hi)).2
theorem own_ofArv {a : Addr} {ty : FieldType} {k : ClassId} {z : Int32} {vs : List Value} {d : Value} (F : Arv Z h a k ty z vs d) {n : Nat} (q : z.toNatClampNeg = n) : Afn Z h a ty n (fun i => vs.getD i d) := by
  obtain ⟨cl, A, -, S, -, H, Gf⟩ := F
  subst q
  exact ⟨cl, A, S, fun i hi => ⟨H i (by rw [S]; exact hi), Gf i (by rw [S]; exact hi)⟩⟩
/-- what stands in an array behind a copy of k first places -/
def own_cp (f : Nat → Int32) (k : Nat) : Nat → Int32 := fun i => if i < k then f i else 0
theorem own_acopy (X : Stand p l e R s m args below meth c T locs cells slots) (hx : p.tables.exec = Jvm.exec) (hby : c.code = bs) (hZ : Z.Warmed39 s.vm) {own : String} {idx : Nat} {a b : Addr} {ty : FieldType} {n n' : Nat} {g : Nat → Int32} {nn : Int32} {n0 : Nat} (hown : s.vm.findClass own = some m.cls)
    (w1 : (Jvm.Cond.methodLink own idx Jvm.Stand.acN).before a0 Z = true) (w2 : (Jvm.Cond.native Jvm.Stand.acN).before a0 Z = true) (w3 : (Jvm.Cond.static Jvm.Stand.acN).before a0 Z = true) (w4 : (Jvm.Cond.initialized "java/lang/System").before a0 Z = true) (eT : T.heap = h)
    (A : Afi Z h a ty n g) (B : Afi Z h b ty n' (fun _ => 0)) (hty : refKind ty = false) (hn : n < 2147483648) (hn' : n' < 2147483648) (h0 : ¬ nn < 0) (h4 : nn.toNatClampNeg ≤ n) (h5 : nn.toNatClampNeg ≤ n') (N : Fr n0 locs) (ge : n0 ≤ b) (hml : Ls.size = c.maxLocals) (hd : decode bs pc = .ok (.invokestatic idx, 3)) (hf : 1 ≤ R.frames) (W : Nat) (hW : (st.map fun v => v.category).sum = W) (hlo : W + 18 ≤ R.locals) (pc' : Nat) (hp : pc + 3 = pc')
    (k : ∀ T' h' L, Stand p l e R s m args below meth c T' L cells slots → T'.heap = h' → Fr n0 L → Keep h h' [b] → Afi Z h' b ty n' (own_cp g nn.toNatClampNeg) → Go p e below G T' (mkF m pc' Ls st)) : Go p e below G T (mkF m pc Ls (.int nn :: .int 0 :: .ref b :: .int 0 :: .ref a :: st)) := by
  subst hp
  obtain ⟨ka, A1⟩ := own_toArv A hn
  obtain ⟨kb, B1⟩ := own_toArv B hn'
  have z0 : (0 : Int32).toNatClampNeg = 0 := rfl
  obtain ⟨T1, h1, L1, X1, e1, N1, K1, C1, st1⟩ := cpA X hx hZ hown w1 w2 w3 w4 eT (sp := 0) (dp := 0) (nn := nn) A1 B1 (Or.inl ⟨rfl, hty⟩) (by decide) (by decide) h0 (by rw [z0, (own_ofN hn).1]; omega) (by rw [z0, (own_ofN hn').1]; omega) rfl (by rw [z0, List.length_map, List.length_range]; omega) N ge (g := mkF m pc Ls (.int nn :: .int 0 :: .ref b :: .int 0 :: .ref a :: st)) rfl hml (rest := st) rfl (hb hby hd) hf (W := W) (by show 2 * 0 + _ ≤ _; omega) (by show W + (5 + 2 + 11) ≤ _; omega)
  refine Go.by (fun t q => st1 t q) (k T1 h1 L1 X1 e1 N1 K1 ?_)
  refine (own_ofArv C1 (own_ofN hn').1).to fun i hi => ?_
  rw [z0]
  show List.getD _ i _ = Value.int (own_cp g nn.toNatClampNeg i)
  unfold own_cp
  rw [List.take_zero, List.nil_append, Nat.zero_add, List.getD_eq_getElem?_getD]
  by_cases q : i < nn.toNatClampNeg
  · rw [if_pos q, List.getElem?_append_left (by rw [List.length_map, List.length_range]; exact q), List.getElem?_map, List.getElem?_range q]
    show List.getD _ (0 + i) _ = _
    rw [Nat.zero_add, own_gd (by omega)]
  · rw [if_neg q, List.getElem?_append_right (by rw [List.length_map, List.length_range]; omega), List.length_map, List.length_range, List.getElem?_drop, List.getElem?_map, List.getElem?_range (by omega)]
    rfl
end OwnCopy

theorem own_nn {x : Int32} (h : 0 ≤ x.toInt) : ¬ x < 0 := by
  rw [Int32.lt_iff_toInt_lt]
  have q : (0 : Int32).toInt = 0 := rfl
  omega
theorem own_cap {x : Int32} (h : 0 ≤ x.toInt ∧ x.toInt < 16) : x.toNatClampNeg ≤ 15 := by
  simp only [Int32.toNatClampNeg]
  omega
theorem own_cap2 {x : Int32} (h : 0 ≤ x.toInt ∧ x.toInt < 16) : x.toNatClampNeg < 2147483648 := Nat.lt_of_le_of_lt (own_cap h) (by decide)
theorem own_s31 {n : Nat} (h : n < 16) : n < 2147483648 := Nat.lt_trans h (by decide)
theorem own_bnd {n : Nat} {j : Int32} (h : Int32.toNatClampNeg j < n) (h0 : ¬ j < 0) : ¬ (j < 0 ∨ n ≤ Int32.toNatClampNeg j) := by
  intro q
  rcases q with q | q
  · exact h0 q
  · omega
theorem own_lt {n k : Nat} (hn : n < 16) (hk : k < 16) : Int32.ofNat n < Int32.ofNat k ↔ n < k := by
  rw [Int32.lt_iff_toInt_lt, (own_ofN (own_s31 hn)).2.2, (own_ofN (own_s31 hk)).2.2]
  omega
theorem ef_1 (a1 : Addr) (p2 : Int32) (m : MethodId) : entryFrame m #[(.ref a1), (.int p2)] 2 = mkF m 0 #[.val (.ref a1), .val (.int p2)] [] := by first | (simp [entryFrame, mkF, argsToLocals, Value.category]; done) | rfl
def Q1 (Z : State) (a1 : Addr) (p2 : Int32) (h0 : Heap) (n0 : Nat) (v : Option Value) (h : Heap) (L : List Loc) : Prop := ∃ (b6 : Addr), v = none ∧ Fr n0 L ∧ Keep h0 h [a1] ∧ h0.size ≤ b6 ∧ Exa Z h a1 "com/example/daylily/daylily/engine/ByteWriter" ∧ Fld Z h a1 "com/example/daylily/daylily/engine/ByteWriter" "bytes" "[B" (.ref b6) ∧ Fld Z h a1 "com/example/daylily/daylily/engine/ByteWriter" "length" "I" (.int (0 : Int32)) ∧ Afi Z h b6 .byte (Int32.toNatClampNeg p2) (fun _ => (0 : Int32)) ∧ Exa Z h b6 "[B"
set_option maxRecDepth 65536 in
set_option maxHeartbeats 40000000 in
theorem rm1 (l : Launch) (Z : State) (a0 : Array Value) (hw : ∀ d ∈ tables_1, d.before a0 Z = true) (a1 : Addr) (p2 : Int32) (h0 : Heap) (n0 : Nat) (Zs : n0 ≤ h0.size) (hb : 0 ≤ p2.toInt ∧ p2.toInt < 16) (E_a1 : Exa Z h0 a1 "com/example/daylily/daylily/engine/ByteWriter") (F_bytes_a1 : Fld Z h0 a1 "com/example/daylily/daylily/engine/ByteWriter" "bytes" "[B" .null) (F_length_a1 : Fld Z h0 a1 "com/example/daylily/daylily/engine/ByteWriter" "length" "I" (.int (0 : Int32))) (g_a1 : n0 ≤ a1) :
    Met1 l Z (⟨"com/example/daylily/daylily/engine/ByteWriter", "<init>", "(I)V"⟩ : MethodName) prog_10_method_1_code 2 none ({ frames := 1, cells := 1, slots := 15, locals := 12 } : Room) #[(.ref a1), (.int p2)] h0 (Q1 Z a1 p2 h0 n0) := by
  refine own_met_of (plainFor_of_name pn_1) (ef_1 a1 p2) ?_
  intro p e s m below meth c s₁ X hx hby hml hZ hown hnm hret hlk eT
  have hown : s.vm.findClass "com/example/daylily/daylily/engine/ByteWriter" = some m.cls := hown
  have N := Fr.nil n0
  have K := Keep.refl h0 [a1]
  refine own_aloadN X hx hby (.ref a1) d1_0 rfl rfl 1 rfl ?_
  refine own_initO X hx hby hZ hown (hw _ (List.mem_of_getElem? (i := 6) rfl)) (hw _ (List.mem_of_getElem? (i := 7) rfl)) (hw _ (List.mem_of_getElem? (i := 8) rfl)) eT (by rw [hml]; rfl) d1_1 (by decide) 0 rfl (by decide) 4 rfl ?_
  intro T1 X eT
  refine own_aloadN X hx hby (.ref a1) d1_4 rfl rfl 5 rfl ?_
  refine own_iloadN X hx hby p2 d1_5 rfl 6 rfl ?_
  refine own_newarray X hx hby hZ (hw _ (List.mem_of_getElem? (i := 9) rfl)) eT d1_6 (z := p2) (own_nn hb.1) (n := (Int32.toNatClampNeg p2)) rfl (cap := 15) (own_cap hb) (by decide) (by decide) (by decide) (ad := "[B") rfl 8 rfl ?_
  intro T6 h6 b6 gb6 X eT Ex A A2
  have g_b6 : n0 ≤ b6 := by rw [gb6]; exact Zs
  have sz_b6 : h0.size ≤ b6 := by rw [gb6]; exact K.1
  have ne_a1_b6 : a1 ≠ b6 := Nat.ne_of_lt (by rw [gb6]; exact E_a1.lt)
  have E_a1 := E_a1.ext Ex
  have F_bytes_a1 := F_bytes_a1.ext Ex
  have F_length_a1 := F_length_a1.ext Ex
  have A_b6 : Afi Z h6 b6 .byte (Int32.toNatClampNeg p2) (fun _ => (0 : Int32)) := A
  have E_b6 := A2
  have K := K.ext Ex
  have Zs := Nat.le_trans Zs Ex.1
  refine own_putF X hx hby hZ hown (host := "") (Or.inl (hw _ (List.mem_of_getElem? (i := 10) rfl))) Via.refl eT F_bytes_a1 E_a1 (Or.inl (hw _ (List.mem_of_getElem? (i := 11) rfl))) (hw _ (List.mem_of_getElem? (i := 1) rfl)) (ty := (.array .byte)) (by decide) rfl rfl d1_8 11 rfl ?_
  intro T8 h8 X eT W
  have E_a1 := E_a1.wr W
  have F_bytes_a1 := F_bytes_a1.same W
  have F_length_a1 := F_length_a1.other W (Or.inr (slot_ne (Or.inl (hw _ (List.mem_of_getElem? (i := 22) rfl))) (Or.inl (hw _ (List.mem_of_getElem? (i := 11) rfl))) (by decide) (t := .int) (t' := (.array .byte)) (by decide) (by decide)))
  have A_b6 := A_b6.other W (Ne.symm ne_a1_b6)
  have E_b6 := E_b6.wr W
  have N := Fr.snoc X N g_a1
  have K := K.wr W (Or.inl (List.mem_of_getElem? (i := 0) rfl))
  have Zs := Nat.le_trans Zs (Keep.of_wr W).1
  refine own_ret X hx hby hret hlk d1_11 (by decide) (by decide) ?_
  rw [eT]
  exact ⟨b6, rfl, N, K, sz_b6, E_a1, F_bytes_a1, F_length_a1, A_b6, E_b6⟩
theorem ef_5 (p1 : Int32) (p2 : Int32) (m : MethodId) : entryFrame m #[(.int p1), (.int p2)] 2 = mkF m 0 #[.val (.int p1), .val (.int p2)] [] := by first | (simp [entryFrame, mkF, argsToLocals, Value.category]; done) | rfl
def f5 (p1 : Int32) (p2 : Int32) : Int32 := (if p1 < p2 then p2 else p1)
def Q5 (Z : State) (p1 : Int32) (p2 : Int32) (h0 : Heap) (n0 : Nat) (v : Option Value) (h : Heap) (L : List Loc) : Prop := v = some (.int (f5 p1 p2)) ∧ Fr n0 L ∧ h = h0
set_option maxRecDepth 65536 in
set_option maxHeartbeats 40000000 in
theorem rm5 (l : Launch) (Z : State) (a0 : Array Value) (hw : ∀ d ∈ tables_1, d.before a0 Z = true) (p1 : Int32) (p2 : Int32) (h0 : Heap) (n0 : Nat) (Zs : n0 ≤ h0.size) :
    Met1 l Z (⟨"java/lang/Math", "max", "(II)I"⟩ : MethodName) jdk_29_method_65_code 2 (some .int) ({ frames := 0, cells := 0, slots := 0, locals := 0 } : Room) #[(.int p1), (.int p2)] h0 (Q5 Z p1 p2 h0 n0) := by
  refine own_met_of (Jvm.Free.JP.mathPlain rfl (by decide +kernel)) (ef_5 p1 p2) ?_
  intro p e s m below meth c s₁ X hx hby hml hZ hown hnm hret hlk eT
  have hown : s.vm.findClass "java/lang/Math" = some m.cls := hown
  have N := Fr.nil n0
  refine own_iloadN X hx hby p1 d5_0 rfl 1 rfl ?_
  refine own_iloadN X hx hby p2 d5_1 rfl 2 rfl ?_
  refine own_icmp_lt X hx hby d5_2 9 5 (by decide) rfl (fun c2 => ?_) (fun c2 => ?_)
  · skip
    refine own_iloadN X hx hby p2 d5_9 rfl 10 rfl ?_
    refine own_retI X hx hby hret hlk d5_10 (by decide) (by decide) ?_
    rw [eT]
    exact ⟨congrArg (fun z => some (Value.int z)) (by unfold f5; rw [if_pos c2]), N, rfl⟩
  · skip
    refine own_iloadN X hx hby p1 d5_5 rfl 6 rfl ?_
    refine own_goto X hx hby d5_6 10 (by decide) ?_
    refine own_retI X hx hby hret hlk d5_10 (by decide) (by decide) ?_
    rw [eT]
    exact ⟨congrArg (fun z => some (Value.int z)) (by unfold f5; rw [if_neg c2]), N, rfl⟩
theorem ef_7 (p1 : Int32) (p2 : Int32) (m : MethodId) : entryFrame m #[(.int p1), (.int p2)] 2 = mkF m 0 #[.val (.int p1), .val (.int p2)] [] := by first | (simp [entryFrame, mkF, argsToLocals, Value.category]; done) | rfl
def f7 (p1 : Int32) (p2 : Int32) : Int32 := (if p2 < p1 then p2 else p1)
def Q7 (Z : State) (p1 : Int32) (p2 : Int32) (h0 : Heap) (n0 : Nat) (v : Option Value) (h : Heap) (L : List Loc) : Prop := v = some (.int (f7 p1 p2)) ∧ Fr n0 L ∧ h = h0
set_option maxRecDepth 65536 in
set_option maxHeartbeats 40000000 in
theorem rm7 (l : Launch) (Z : State) (a0 : Array Value) (hw : ∀ d ∈ tables_1, d.before a0 Z = true) (p1 : Int32) (p2 : Int32) (h0 : Heap) (n0 : Nat) (Zs : n0 ≤ h0.size) :
    Met1 l Z (⟨"java/lang/Math", "min", "(II)I"⟩ : MethodName) jdk_29_method_69_code 2 (some .int) ({ frames := 0, cells := 0, slots := 0, locals := 0 } : Room) #[(.int p1), (.int p2)] h0 (Q7 Z p1 p2 h0 n0) := by
  refine own_met_of (Jvm.Free.JP.mathPlain rfl (by decide +kernel)) (ef_7 p1 p2) ?_
  intro p e s m below meth c s₁ X hx hby hml hZ hown hnm hret hlk eT
  have hown : s.vm.findClass "java/lang/Math" = some m.cls := hown
  have N := Fr.nil n0
  refine own_iloadN X hx hby p1 d7_0 rfl 1 rfl ?_
  refine own_iloadN X hx hby p2 d7_1 rfl 2 rfl ?_
  refine own_icmp_gt X hx hby d7_2 9 5 (by decide) rfl (fun c2 => ?_) (fun c2 => ?_)
  · skip
    refine own_iloadN X hx hby p2 d7_9 rfl 10 rfl ?_
    refine own_retI X hx hby hret hlk d7_10 (by decide) (by decide) ?_
    rw [eT]
    exact ⟨congrArg (fun z => some (Value.int z)) (by unfold f7; rw [if_pos c2]), N, rfl⟩
  · skip
    refine own_iloadN X hx hby p1 d7_5 rfl 6 rfl ?_
    refine own_goto X hx hby d7_6 10 (by decide) ?_
    refine own_retI X hx hby hret hlk d7_10 (by decide) (by decide) ?_
    rw [eT]
    exact ⟨congrArg (fun z => some (Value.int z)) (by unfold f7; rw [if_neg c2]), N, rfl⟩
theorem own_max {n k : Nat} (hn : n < 8) (hk : k < 16) : (f5 ((2 : Int32) * Int32.ofNat n) (Int32.ofNat k)).toInt = if 2 * n < k then k else 2 * n := by
  have h1 := c_imul (2 : Int32) (Int32.ofNat n)
  have h2 := rng32 ((2 : Int32) * Int32.ofNat n)
  have h3 := (own_ofN (n := n) (Nat.lt_trans hn (by decide))).2.2
  have h4 := (own_ofN (own_s31 hk)).2.2
  have q : (2 : Int32).toInt = 2 := rfl
  rw [q, h3] at h1
  have h5 : ((2 : Int32) * Int32.ofNat n).toInt = 2 * n := by omega
  unfold f5
  simp only [Int32.lt_iff_toInt_lt, h5, h4]
  repeat' split
  all_goals first | (rw [h5]; omega) | (rw [h4]; omega) | omega
theorem own_min {n : Nat} (hn : n < 16) (z : Int32) (h0 : 0 ≤ z.toInt) : (f7 (Int32.ofNat n) z).toInt = if (n : Int) ≤ z.toInt then (n : Int) else z.toInt := by
  have h4 := (own_ofN (own_s31 hn)).2.2
  unfold f7
  simp only [Int32.lt_iff_toInt_lt, h4]
  repeat' split
  all_goals first | (rw [h4]; omega) | omega
theorem own_mn {n : Nat} (hn : n < 16) {z : Int32} (h0 : 0 ≤ z.toInt ∧ z.toInt < 16) : ¬ (f7 (Int32.ofNat n) z) < 0 ∧ (f7 (Int32.ofNat n) z).toNatClampNeg ≤ n ∧ (f7 (Int32.ofNat n) z).toNatClampNeg ≤ z.toNatClampNeg := by
  have h := own_min hn z h0.1
  refine ⟨own_nn (by split at h <;> omega), ?_, ?_⟩ <;> simp only [Int32.toNatClampNeg] <;> split at h <;> omega
theorem ef_6_c (a1 : Addr) (m : MethodId) : entryFrame m #[(.ref a1), (.int (8 : Int32))] 3 = mkF m 0 #[.val (.ref a1), .val (.int (8 : Int32)), .unset] [] := by first | (simp [entryFrame, mkF, argsToLocals, Value.category]; done) | rfl
def Q6_c (Z : State) (a1 : Addr) (ar_a1 : Nat → Int32) (h0 : Heap) (n0 : Nat) (v : Option Value) (h : Heap) (L : List Loc) : Prop := ∃ (b7 : Addr), v = some (.ref b7) ∧ Fr n0 L ∧ Keep h0 h [] ∧ h0.size ≤ b7 ∧ Afi Z h b7 .byte 8 ar_a1 ∧ Exa Z h b7 "[B"
set_option maxRecDepth 65536 in
set_option maxHeartbeats 40000000 in
theorem rm6_c (l : Launch) (Z : State) (a0 : Array Value) (hw : ∀ d ∈ tables_1, d.before a0 Z = true) (a1 : Addr) (ar_a1 : Nat → Int32) (h0 : Heap) (n0 : Nat) (Zs : n0 ≤ h0.size) (A_a1 : Afi Z h0 a1 .byte 8 ar_a1) (E_a1 : Exa Z h0 a1 "[B") :
    Met1 l Z (⟨"java/util/Arrays", "copyOf", "([BI)[B"⟩ : MethodName) jdk_65_method_121_code 3 (some (.array .byte)) ({ frames := 1, cells := 1, slots := 8, locals := 14 } : Room) #[(.ref a1), (.int (8 : Int32))] h0 (Q6_c Z a1 ar_a1 h0 n0) := by
  refine own_met_of (plainFor_of_name pn_6) (ef_6_c a1) ?_
  intro p e s m below meth c s₁ X hx hby hml hZ hown hnm hret hlk eT
  have hown : s.vm.findClass "java/util/Arrays" = some m.cls := hown
  have N := Fr.nil n0
  have K := Keep.refl h0 []
  refine own_iloadN X hx hby (8 : Int32) d6_0 rfl 1 rfl ?_
  refine own_aloadN X hx hby (.ref a1) d6_1 rfl rfl 2 rfl ?_
  refine own_arraylength X hx hby hZ (8 : Int32) eT A_a1 rfl d6_2 3 rfl ?_
  have c3 : (8 : Int32) = (8 : Int32) := by decide
  refine own_icmp_ne X hx hby d6_3 14 6 (by decide) rfl (fun q => absurd c3 q) (fun _ => ?_)
  refine own_aloadN X hx hby (.ref a1) d6_6 rfl rfl 7 rfl ?_
  refine own_clone X hx hby hZ hown (hw _ (List.mem_of_getElem? (i := 54) rfl)) (hw _ (List.mem_of_getElem? (i := 55) rfl)) (hw _ (List.mem_of_getElem? (i := 59) rfl)) (hw _ (List.mem_of_getElem? (i := 57) rfl)) (hw _ (List.mem_of_getElem? (i := 58) rfl)) (hw _ (List.mem_of_getElem? (i := 60) rfl)) eT A_a1 E_a1 (by rw [hml]; rfl) d6_7 (by decide) 0 rfl (by decide) (cap := 8) (by decide) (by decide) (by decide) 10 rfl ?_
  intro T7 h7 b7 gb7 X eT Ex A A2
  have g_b7 : n0 ≤ b7 := by rw [gb7]; exact Zs
  have sz_b7 : h0.size ≤ b7 := by rw [gb7]; exact K.1
  have ne_a1_b7 : a1 ≠ b7 := Nat.ne_of_lt (by rw [gb7]; exact A_a1.lt)
  have A_a1 := A_a1.ext Ex
  have E_a1 := E_a1.ext Ex
  have A_b7 : Afi Z h7 b7 .byte 8 ar_a1 := A
  have E_b7 := A2
  have K := K.ext Ex
  have Zs := Nat.le_trans Zs Ex.1
  refine own_castY X hx hby hZ hown (hw _ (List.mem_of_getElem? (i := 61) rfl)) eT (Ins.self E_b7) d6_10 13 rfl ?_
  intro T10 X eT
  refine own_retA X hx hby hret hlk rfl rfl rfl d6_13 (by decide) (by decide) ?_
  rw [eT]
  exact ⟨b7, rfl, N, K, sz_b7, A_b7, E_b7⟩
theorem ef_6_n (a1 : Addr) (p2 : Int32) (m : MethodId) : entryFrame m #[(.ref a1), (.int p2)] 3 = mkF m 0 #[.val (.ref a1), .val (.int p2), .unset] [] := by first | (simp [entryFrame, mkF, argsToLocals, Value.category]; done) | rfl
def Q6_n (Z : State) (a1 : Addr) (p2 : Int32) (ar_a1 : Nat → Int32) (n1 : Nat) (h0 : Heap) (n0 : Nat) (v : Option Value) (h : Heap) (L : List Loc) : Prop := ∃ (b15 : Addr), v = some (.ref b15) ∧ Fr n0 L ∧ Keep h0 h [] ∧ h0.size ≤ b15 ∧ Afi Z h b15 .byte (Int32.toNatClampNeg p2) (own_cp ar_a1 (Int32.toNatClampNeg (f7 (Int32.ofNat n1) p2))) ∧ Exa Z h b15 "[B"
set_option maxRecDepth 65536 in
set_option maxHeartbeats 40000000 in
theorem rm6_n (l : Launch) (Z : State) (a0 : Array Value) (hw : ∀ d ∈ tables_1, d.before a0 Z = true) (a1 : Addr) (p2 : Int32) (ar_a1 : Nat → Int32) (n1 : Nat) (h0 : Heap) (n0 : Nat) (Zs : n0 ≤ h0.size) (hne : ¬ p2 = (Int32.ofNat n1)) (hb : 0 ≤ p2.toInt ∧ p2.toInt < 16) (hn : n1 < 16) (A_a1 : Afi Z h0 a1 .byte n1 ar_a1) (E_a1 : Exa Z h0 a1 "[B") :
    Met1 l Z (⟨"java/util/Arrays", "copyOf", "([BI)[B"⟩ : MethodName) jdk_65_method_121_code 3 (some (.array .byte)) ({ frames := 1, cells := 1, slots := 15, locals := 18 } : Room) #[(.ref a1), (.int p2)] h0 (Q6_n Z a1 p2 ar_a1 n1 h0 n0) := by
  refine own_met_of (plainFor_of_name pn_6) (ef_6_n a1 p2) ?_
  intro p e s m below meth c s₁ X hx hby hml hZ hown hnm hret hlk eT
  have hown : s.vm.findClass "java/util/Arrays" = some m.cls := hown
  have N := Fr.nil n0
  have K := Keep.refl h0 []
  refine own_iloadN X hx hby p2 d6_0 rfl 1 rfl ?_
  refine own_aloadN X hx hby (.ref a1) d6_1 rfl rfl 2 rfl ?_
  refine own_arraylength X hx hby hZ (Int32.ofNat n1) eT A_a1 rfl d6_2 3 rfl ?_
  have c3 : ¬ p2 = (Int32.ofNat n1) := hne
  refine own_icmp_ne X hx hby d6_3 14 6 (by decide) rfl (fun _ => ?_) (fun q => absurd q c3)
  refine own_iloadN X hx hby p2 d6_14 rfl 15 rfl ?_
  refine own_newarray X hx hby hZ (hw _ (List.mem_of_getElem? (i := 9) rfl)) eT d6_15 (z := p2) (own_nn hb.1) (n := (Int32.toNatClampNeg p2)) rfl (cap := 15) (own_cap hb) (by decide) (by decide) (by decide) (ad := "[B") rfl 17 rfl ?_
  intro T15 h15 b15 gb15 X eT Ex A A2
  have g_b15 : n0 ≤ b15 := by rw [gb15]; exact Zs
  have sz_b15 : h0.size ≤ b15 := by rw [gb15]; exact K.1
  have ne_a1_b15 : a1 ≠ b15 := Nat.ne_of_lt (by rw [gb15]; exact A_a1.lt)
  have A_a1 := A_a1.ext Ex
  have E_a1 := E_a1.ext Ex
  have A_b15 : Afi Z h15 b15 .byte (Int32.toNatClampNeg p2) (fun _ => (0 : Int32)) := A
  have E_b15 := A2
  have K := K.ext Ex
  have Zs := Nat.le_trans Zs Ex.1
  refine own_astoreN X hx hby d6_17 rfl (l' := #[.val (.ref a1), .val (.int p2), .val (.ref b15)]) rfl 18 rfl ?_
  refine own_aloadN X hx hby (.ref a1) d6_18 rfl rfl 19 rfl ?_
  refine own_iconst X hx hby (0 : Int32) d6_19 rfl 20 rfl ?_
  refine own_aloadN X hx hby (.ref b15) d6_20 rfl rfl 21 rfl ?_
  refine own_iconst X hx hby (0 : Int32) d6_21 rfl 22 rfl ?_
  refine own_aloadN X hx hby (.ref a1) d6_22 rfl rfl 23 rfl ?_
  refine own_arraylength X hx hby hZ (Int32.ofNat n1) eT A_a1 rfl d6_23 24 rfl ?_
  refine own_iloadN X hx hby p2 d6_24 rfl 25 rfl ?_
  refine own_callS X hx hby hZ (st := [(.int (0 : Int32)), (.ref b15), (.int (0 : Int32)), (.ref a1)]) [(.int (Int32.ofNat n1)), (.int p2)] rfl hown (hw _ (List.mem_of_getElem? (i := 31) rfl)) (hw _ (List.mem_of_getElem? (i := 32) rfl)) (hw _ (List.mem_of_getElem? (i := 25) rfl)) (hw _ (List.mem_of_getElem? (i := 33) rfl)) (by decide) d6_25 (rm7 l Z a0 hw (Int32.ofNat n1) p2 h15 n0 Zs ) eT pd_5 rfl (by rw [hml]; rfl) (by decide) 4 rfl (by decide) (by decide) (by decide) 28 rfl ?_
  intro T25 L9 v9 X hQ
  obtain ⟨rfl, N9, eT⟩ := hQ
  have N := Fr.app N N9
  show Go p e below _ T25 (mkF m 28 #[.val (.ref a1), .val (.int p2), .val (.ref b15)] [(.int (f7 (Int32.ofNat n1) p2)), (.int (0 : Int32)), (.ref b15), (.int (0 : Int32)), (.ref a1)])
  refine own_acopy X hx hby hZ hown (hw _ (List.mem_of_getElem? (i := 34) rfl)) (hw _ (List.mem_of_getElem? (i := 37) rfl)) (hw _ (List.mem_of_getElem? (i := 35) rfl)) (hw _ (List.mem_of_getElem? (i := 36) rfl)) eT A_a1 A_b15 rfl (own_s31 hn) (own_cap2 hb) (own_mn hn hb).1 (own_mn hn hb).2.1 (own_mn hn hb).2.2 N g_b15 (by rw [hml]; rfl) d6_28 (by decide) 0 rfl (by decide) 31 rfl ?_
  intro T28 h28 L9 X eT N Kc A
  have A_a1 := A_a1.keep Kc (ninS ne_a1_b15 nin0)
  have E_a1 := E_a1.keep Kc
  have E_b15 := E_b15.keep Kc
  have A_b15 : Afi Z h28 b15 .byte (Int32.toNatClampNeg p2) (own_cp ar_a1 (Int32.toNatClampNeg (f7 (Int32.ofNat n1) p2))) := A
  have K := K.trans Kc (allS (Or.inr sz_b15) all0)
  have Zs := Nat.le_trans Zs Kc.1
  refine own_aloadN X hx hby (.ref b15) d6_31 rfl rfl 32 rfl ?_
  refine own_retA X hx hby hret hlk rfl rfl rfl d6_32 (by decide) (by decide) ?_
  rw [eT]
  exact ⟨b15, rfl, N, K, sz_b15, A_b15, E_b15⟩
theorem own_g1 {n : Nat} (k : Nat) (hk : n < k) (hn : n < 8) (h16 : k < 16) (h0 : 0 < k) : ¬ (f5 ((2 : Int32) * Int32.ofNat n) (Int32.ofNat k)) = Int32.ofNat n := by
  intro q
  have h1 := own_max hn h16
  rw [q, (own_ofN (n := n) (Nat.lt_trans hn (by decide))).2.2] at h1
  split at h1 <;> omega
theorem own_g2 {n : Nat} (k : Nat) (hn : n < 8) (h16 : k < 16) : 0 ≤ (f5 ((2 : Int32) * Int32.ofNat n) (Int32.ofNat k)).toInt ∧ (f5 ((2 : Int32) * Int32.ofNat n) (Int32.ofNat k)).toInt < 16 := by
  have h1 := own_max hn h16
  split at h1 <;> omega
theorem own_g3 {n : Nat} (k : Nat) (hn : n < 8) (h16 : k < 16) : k ≤ (f5 ((2 : Int32) * Int32.ofNat n) (Int32.ofNat k)).toNatClampNeg ∧ (f5 ((2 : Int32) * Int32.ofNat n) (Int32.ofNat k)).toNatClampNeg < 16 ∧ (n < 4 → k < 8 → (f5 ((2 : Int32) * Int32.ofNat n) (Int32.ofNat k)).toNatClampNeg < 8) := by
  have h1 := own_max hn h16
  simp only [Int32.toNatClampNeg]
  split at h1 <;> omega
theorem ef_4_0s (a1 : Addr) (m : MethodId) : entryFrame m #[(.ref a1), (.int (4 : Int32))] 2 = mkF m 0 #[.val (.ref a1), .val (.int (4 : Int32))] [] := by first | (simp [entryFrame, mkF, argsToLocals, Value.category]; done) | rfl
def Q4_0s (Z : State) (a1 : Addr) (r1 : Addr) (ar_r1 : Nat → Int32) (n1 : Nat) (h0 : Heap) (n0 : Nat) (v : Option Value) (h : Heap) (L : List Loc) : Prop := v = none ∧ Fr n0 L ∧ h = h0
set_option maxRecDepth 65536 in
set_option maxHeartbeats 40000000 in
theorem rm4_0s (l : Launch) (Z : State) (a0 : Array Value) (hw : ∀ d ∈ tables_1, d.before a0 Z = true) (a1 : Addr) (r1 : Addr) (ar_r1 : Nat → Int32) (n1 : Nat) (h0 : Heap) (n0 : Nat) (Zs : n0 ≤ h0.size) (hk : ¬ (Int32.ofNat n1) < (4 : Int32)) (A_r1 : Afi Z h0 r1 .byte n1 ar_r1) (E_r1 : Exa Z h0 r1 "[B") (F_length_a1 : Fld Z h0 a1 "com/example/daylily/daylily/engine/ByteWriter" "length" "I" (.int (0 : Int32))) (F_bytes_a1 : Fld Z h0 a1 "com/example/daylily/daylily/engine/ByteWriter" "bytes" "[B" (.ref r1)) :
    Met1 l Z (⟨"com/example/daylily/daylily/engine/ByteWriter", "room", "(I)V"⟩ : MethodName) prog_10_method_15_code 2 none ({ frames := 0, cells := 0, slots := 0, locals := 0 } : Room) #[(.ref a1), (.int (4 : Int32))] h0 (Q4_0s Z a1 r1 ar_r1 n1 h0 n0) := by
  refine own_met_of (plainFor_of_name pn_1) (ef_4_0s a1) ?_
  intro p e s m below meth c s₁ X hx hby hml hZ hown hnm hret hlk eT
  have hown : s.vm.findClass "com/example/daylily/daylily/engine/ByteWriter" = some m.cls := hown
  have N := Fr.nil n0
  refine own_aloadN X hx hby (.ref a1) d4_0 rfl rfl 1 rfl ?_
  refine own_getF X hx hby hZ hown (host := "") (Or.inl (hw _ (List.mem_of_getElem? (i := 21) rfl))) Via.refl eT F_length_a1 d4_1 4 rfl ?_
  intro T1 X eT
  refine own_iloadN X hx hby (4 : Int32) d4_4 rfl 5 rfl ?_
  refine own_iadd X hx hby d4_5 6 rfl ?_
  refine own_top (v' := (.int (4 : Int32))) (congrArg Value.int (by decide)) ?_
  refine own_aloadN X hx hby (.ref a1) d4_6 rfl rfl 7 rfl ?_
  refine own_getF X hx hby hZ hown (host := "") (Or.inl (hw _ (List.mem_of_getElem? (i := 10) rfl))) Via.refl eT F_bytes_a1 d4_7 10 rfl ?_
  intro T7 X eT
  refine own_arraylength X hx hby hZ (Int32.ofNat n1) eT A_r1 rfl d4_10 11 rfl ?_
  have c11 : ¬ (Int32.ofNat n1) < (4 : Int32) := hk
  refine own_icmp_le X hx hby d4_11 41 14 (by decide) rfl (fun _ => ?_) (fun q => absurd q c11)
  refine own_ret X hx hby hret hlk d4_41 (by decide) (by decide) ?_
  rw [eT]
  exact ⟨rfl, N, rfl⟩
theorem ef_4_0g (a1 : Addr) (m : MethodId) : entryFrame m #[(.ref a1), (.int (4 : Int32))] 2 = mkF m 0 #[.val (.ref a1), .val (.int (4 : Int32))] [] := by first | (simp [entryFrame, mkF, argsToLocals, Value.category]; done) | rfl
def Q4_0g (Z : State) (a1 : Addr) (r1 : Addr) (ar_r1 : Nat → Int32) (n1 : Nat) (h0 : Heap) (n0 : Nat) (v : Option Value) (h : Heap) (L : List Loc) : Prop := ∃ (b35b15 : Addr), v = none ∧ Fr n0 L ∧ Keep h0 h [a1] ∧ h0.size ≤ b35b15 ∧ Exa Z h a1 "com/example/daylily/daylily/engine/ByteWriter" ∧ Fld Z h a1 "com/example/daylily/daylily/engine/ByteWriter" "bytes" "[B" (.ref b35b15) ∧ Fld Z h a1 "com/example/daylily/daylily/engine/ByteWriter" "length" "I" (.int (0 : Int32)) ∧ Afi Z h b35b15 .byte (Int32.toNatClampNeg (f5 ((2 : Int32) * (Int32.ofNat n1)) (4 : Int32))) (own_cp ar_r1 (Int32.toNatClampNeg (f7 (Int32.ofNat n1) (f5 ((2 : Int32) * (Int32.ofNat n1)) (4 : Int32))))) ∧ Exa Z h b35b15 "[B"
set_option maxRecDepth 65536 in
set_option maxHeartbeats 40000000 in
theorem rm4_0g (l : Launch) (Z : State) (a0 : Array Value) (hw : ∀ d ∈ tables_1, d.before a0 Z = true) (a1 : Addr) (r1 : Addr) (ar_r1 : Nat → Int32) (n1 : Nat) (h0 : Heap) (n0 : Nat) (Zs : n0 ≤ h0.size) (hk : (Int32.ofNat n1) < (4 : Int32)) (hn : n1 < 8) (A_r1 : Afi Z h0 r1 .byte n1 ar_r1) (E_r1 : Exa Z h0 r1 "[B") (E_a1 : Exa Z h0 a1 "com/example/daylily/daylily/engine/ByteWriter") (F_bytes_a1 : Fld Z h0 a1 "com/example/daylily/daylily/engine/ByteWriter" "bytes" "[B" (.ref r1)) (F_length_a1 : Fld Z h0 a1 "com/example/daylily/daylily/engine/ByteWriter" "length" "I" (.int (0 : Int32))) (g_a1 : n0 ≤ a1) :
    Met1 l Z (⟨"com/example/daylily/daylily/engine/ByteWriter", "room", "(I)V"⟩ : MethodName) prog_10_method_15_code 2 none ({ frames := 2, cells := 1, slots := 15, locals := 33 } : Room) #[(.ref a1), (.int (4 : Int32))] h0 (Q4_0g Z a1 r1 ar_r1 n1 h0 n0) := by
  refine own_met_of (plainFor_of_name pn_1) (ef_4_0g a1) ?_
  intro p e s m below meth c s₁ X hx hby hml hZ hown hnm hret hlk eT
  have hown : s.vm.findClass "com/example/daylily/daylily/engine/ByteWriter" = some m.cls := hown
  have N := Fr.nil n0
  have K := Keep.refl h0 [a1]
  have ne_r1_a1 : r1 ≠ a1 := ne_exa E_r1 E_a1 (by decide)
  refine own_aloadN X hx hby (.ref a1) d4_0 rfl rfl 1 rfl ?_
  refine own_getF X hx hby hZ hown (host := "") (Or.inl (hw _ (List.mem_of_getElem? (i := 21) rfl))) Via.refl eT F_length_a1 d4_1 4 rfl ?_
  intro T1 X eT
  refine own_iloadN X hx hby (4 : Int32) d4_4 rfl 5 rfl ?_
  refine own_iadd X hx hby d4_5 6 rfl ?_
  refine own_top (v' := (.int (4 : Int32))) (congrArg Value.int (by decide)) ?_
  refine own_aloadN X hx hby (.ref a1) d4_6 rfl rfl 7 rfl ?_
  refine own_getF X hx hby hZ hown (host := "") (Or.inl (hw _ (List.mem_of_getElem? (i := 10) rfl))) Via.refl eT F_bytes_a1 d4_7 10 rfl ?_
  intro T7 X eT
  refine own_arraylength X hx hby hZ (Int32.ofNat n1) eT A_r1 rfl d4_10 11 rfl ?_
  have c11 : (Int32.ofNat n1) < (4 : Int32) := hk
  refine own_icmp_le X hx hby d4_11 41 14 (by decide) rfl (fun q => absurd c11 q) (fun _ => ?_)
  refine own_aloadN X hx hby (.ref a1) d4_14 rfl rfl 15 rfl ?_
  refine own_aloadN X hx hby (.ref a1) d4_15 rfl rfl 16 rfl ?_
  refine own_getF X hx hby hZ hown (host := "") (Or.inl (hw _ (List.mem_of_getElem? (i := 10) rfl))) Via.refl eT F_bytes_a1 d4_16 19 rfl ?_
  intro T16 X eT
  refine own_iconst X hx hby (2 : Int32) d4_19 rfl 20 rfl ?_
  refine own_aloadN X hx hby (.ref a1) d4_20 rfl rfl 21 rfl ?_
  refine own_getF X hx hby hZ hown (host := "") (Or.inl (hw _ (List.mem_of_getElem? (i := 10) rfl))) Via.refl eT F_bytes_a1 d4_21 24 rfl ?_
  intro T21 X eT
  refine own_arraylength X hx hby hZ (Int32.ofNat n1) eT A_r1 rfl d4_24 25 rfl ?_
  refine own_imul X hx hby d4_25 26 rfl ?_
  refine own_aloadN X hx hby (.ref a1) d4_26 rfl rfl 27 rfl ?_
  refine own_getF X hx hby hZ hown (host := "") (Or.inl (hw _ (List.mem_of_getElem? (i := 21) rfl))) Via.refl eT F_length_a1 d4_27 30 rfl ?_
  intro T27 X eT
  refine own_iloadN X hx hby (4 : Int32) d4_30 rfl 31 rfl ?_
  refine own_iadd X hx hby d4_31 32 rfl ?_
  refine own_top (v' := (.int (4 : Int32))) (congrArg Value.int (by decide)) ?_
  refine own_callS X hx hby hZ (st := [(.ref r1), (.ref a1)]) [(.int ((2 : Int32) * (Int32.ofNat n1))), (.int (4 : Int32))] rfl hown (hw _ (List.mem_of_getElem? (i := 23) rfl)) (hw _ (List.mem_of_getElem? (i := 24) rfl)) (hw _ (List.mem_of_getElem? (i := 25) rfl)) (hw _ (List.mem_of_getElem? (i := 26) rfl)) (by decide) d4_32 (rm5 l Z a0 hw ((2 : Int32) * (Int32.ofNat n1)) (4 : Int32) h0 n0 Zs ) eT pd_5 rfl (by rw [hml]; rfl) (by decide) 2 rfl (by decide) (by decide) (by decide) 35 rfl ?_
  intro T32 L9 v9 X hQ
  obtain ⟨rfl, N9, eT⟩ := hQ
  have N := Fr.app N N9
  show Go p e below _ T32 (mkF m 35 #[.val (.ref a1), .val (.int (4 : Int32))] [(.int (f5 ((2 : Int32) * (Int32.ofNat n1)) (4 : Int32))), (.ref r1), (.ref a1)])
  refine own_callS X hx hby hZ (st := [(.ref a1)]) [(.ref r1), (.int (f5 ((2 : Int32) * (Int32.ofNat n1)) (4 : Int32)))] rfl hown (hw _ (List.mem_of_getElem? (i := 27) rfl)) (hw _ (List.mem_of_getElem? (i := 28) rfl)) (hw _ (List.mem_of_getElem? (i := 29) rfl)) (hw _ (List.mem_of_getElem? (i := 30) rfl)) (by decide) d4_35 (rm6_n l Z a0 hw r1 (f5 ((2 : Int32) * (Int32.ofNat n1)) (4 : Int32)) ar_r1 n1 h0 n0 Zs (own_g1 4 ((own_lt (Nat.lt_trans hn (by decide)) (by decide)).mp hk) hn (by decide) (by decide)) (own_g2 4 hn (by decide)) (Nat.lt_trans hn (by decide)) A_r1 E_r1) eT pd_8 rfl (by rw [hml]; rfl) (by decide) 1 rfl (by decide) (by decide) (by decide) 38 rfl ?_
  intro T35 L9 v9 X hQ
  obtain ⟨h35, eT⟩ : ∃ z, T35.heap = z := ⟨_, rfl⟩
  rw [eT] at hQ
  have lt_a1 := E_a1.lt
  have lt_r1 := A_r1.lt
  obtain ⟨b35b15, rfl, N9, Kc, hs_b35b15, A_b35b15, E_b35b15⟩ := hQ
  have g_b35b15 : n0 ≤ b35b15 := Nat.le_trans Zs hs_b35b15
  have sz_b35b15 : h0.size ≤ b35b15 := Nat.le_trans K.1 hs_b35b15
  have ne_a1_b35b15 : a1 ≠ b35b15 := Nat.ne_of_lt (Nat.lt_of_lt_of_le lt_a1 hs_b35b15)
  have ne_r1_b35b15 : r1 ≠ b35b15 := Nat.ne_of_lt (Nat.lt_of_lt_of_le lt_r1 hs_b35b15)
  have A_r1 := A_r1.keep Kc nin0
  have E_r1 := E_r1.keep Kc
  have E_a1 := E_a1.keep Kc
  have F_bytes_a1 := F_bytes_a1.keep Kc nin0
  have F_length_a1 := F_length_a1.keep Kc nin0
  have K := K.trans Kc all0
  have Zs := Nat.le_trans Zs Kc.1
  have N := Fr.app N N9
  show Go p e below _ T35 (mkF m 38 #[.val (.ref a1), .val (.int (4 : Int32))] [(.ref b35b15), (.ref a1)])
  refine own_putF X hx hby hZ hown (host := "") (Or.inl (hw _ (List.mem_of_getElem? (i := 10) rfl))) Via.refl eT F_bytes_a1 E_a1 (Or.inl (hw _ (List.mem_of_getElem? (i := 11) rfl))) (hw _ (List.mem_of_getElem? (i := 1) rfl)) (ty := (.array .byte)) (by decide) rfl rfl d4_38 41 rfl ?_
  intro T38 h38 X eT W
  have A_r1 := A_r1.other W ne_r1_a1
  have E_r1 := E_r1.wr W
  have E_a1 := E_a1.wr W
  have F_bytes_a1 := F_bytes_a1.same W
  have F_length_a1 := F_length_a1.other W (Or.inr (slot_ne (Or.inl (hw _ (List.mem_of_getElem? (i := 22) rfl))) (Or.inl (hw _ (List.mem_of_getElem? (i := 11) rfl))) (by decide) (t := .int) (t' := (.array .byte)) (by decide) (by decide)))
  have A_b35b15 := A_b35b15.other W (Ne.symm ne_a1_b35b15)
  have E_b35b15 := E_b35b15.wr W
  have N := Fr.snoc X N g_a1
  have K := K.wr W (Or.inl (List.mem_of_getElem? (i := 0) rfl))
  have Zs := Nat.le_trans Zs (Keep.of_wr W).1
  refine own_ret X hx hby hret hlk d4_41 (by decide) (by decide) ?_
  rw [eT]
  exact ⟨b35b15, rfl, N, K, sz_b35b15, E_a1, F_bytes_a1, F_length_a1, A_b35b15, E_b35b15⟩
theorem ef_3_0s (a1 : Addr) (p2 : Int32) (m : MethodId) : entryFrame m #[(.ref a1), (.int p2)] 3 = mkF m 0 #[.val (.ref a1), .val (.int p2), .unset] [] := by first | (simp [entryFrame, mkF, argsToLocals, Value.category]; done) | rfl
def Q3_0s (Z : State) (a1 : Addr) (p2 : Int32) (r1 : Addr) (ar_r1 : Nat → Int32) (n1 : Nat) (h0 : Heap) (n0 : Nat) (v : Option Value) (h : Heap) (L : List Loc) : Prop := v = none ∧ Fr n0 L ∧ Keep h0 h [a1, r1] ∧ Exa Z h a1 "com/example/daylily/daylily/engine/ByteWriter" ∧ Fld Z h a1 "com/example/daylily/daylily/engine/ByteWriter" "bytes" "[B" (.ref r1) ∧ Fld Z h a1 "com/example/daylily/daylily/engine/ByteWriter" "length" "I" (.int (4 : Int32)) ∧ Afi Z h r1 .byte n1 (updI (updI (updI (updI ar_r1 0 (nar .byte (((p2.toUInt32 >>> ((24 : Int32) &&& 31).toUInt32).toInt32).toInt8.toInt32))) 1 (nar .byte (((p2.toUInt32 >>> ((16 : Int32) &&& 31).toUInt32).toInt32).toInt8.toInt32))) 2 (nar .byte (((p2.toUInt32 >>> ((8 : Int32) &&& 31).toUInt32).toInt32).toInt8.toInt32))) 3 (nar .byte (((p2.toUInt32 >>> ((0 : Int32) &&& 31).toUInt32).toInt32).toInt8.toInt32))) ∧ Exa Z h r1 "[B"
set_option maxRecDepth 65536 in
set_option maxHeartbeats 40000000 in
theorem rm3_0s (l : Launch) (Z : State) (a0 : Array Value) (hw : ∀ d ∈ tables_1, d.before a0 Z = true) (a1 : Addr) (p2 : Int32) (r1 : Addr) (ar_r1 : Nat → Int32) (n1 : Nat) (h0 : Heap) (n0 : Nat) (Zs : n0 ≤ h0.size) (hk : ¬ (Int32.ofNat n1) < (4 : Int32)) (hn : n1 < 16) (A_r1 : Afi Z h0 r1 .byte n1 ar_r1) (E_r1 : Exa Z h0 r1 "[B") (g_r1 : n0 ≤ r1) (E_a1 : Exa Z h0 a1 "com/example/daylily/daylily/engine/ByteWriter") (F_bytes_a1 : Fld Z h0 a1 "com/example/daylily/daylily/engine/ByteWriter" "bytes" "[B" (.ref r1)) (F_length_a1 : Fld Z h0 a1 "com/example/daylily/daylily/engine/ByteWriter" "length" "I" (.int (0 : Int32))) (g_a1 : n0 ≤ a1) :
    Met1 l Z (⟨"com/example/daylily/daylily/engine/ByteWriter", "writeInt", "(I)V"⟩ : MethodName) prog_10_method_7_code 3 none ({ frames := 1, cells := 0, slots := 0, locals := 13 } : Room) #[(.ref a1), (.int p2)] h0 (Q3_0s Z a1 p2 r1 ar_r1 n1 h0 n0) := by
  refine own_met_of (plainFor_of_name pn_1) (ef_3_0s a1 p2) ?_
  intro p e s m below meth c s₁ X hx hby hml hZ hown hnm hret hlk eT
  have hown : s.vm.findClass "com/example/daylily/daylily/engine/ByteWriter" = some m.cls := hown
  have N := Fr.nil n0
  have K := Keep.refl h0 [a1, r1]
  have ne_r1_a1 : r1 ≠ a1 := ne_exa E_r1 E_a1 (by decide)
  refine own_aloadN X hx hby (.ref a1) d3_0 rfl rfl 1 rfl ?_
  refine own_iconst X hx hby (4 : Int32) d3_1 rfl 2 rfl ?_
  refine own_callP X hx hby hZ (st := []) [(.int (4 : Int32))] rfl hown (hw _ (List.mem_of_getElem? (i := 17) rfl)) (hw _ (List.mem_of_getElem? (i := 18) rfl)) (hw _ (List.mem_of_getElem? (i := 1) rfl)) (hw _ (List.mem_of_getElem? (i := 19) rfl)) (hw _ (List.mem_of_getElem? (i := 2) rfl)) (hw _ (List.mem_of_getElem? (i := 20) rfl)) E_a1 (by decide) d3_2 (rm4_0s l Z a0 hw a1 r1 ar_r1 n1 h0 n0 Zs hk A_r1 E_r1 F_length_a1 F_bytes_a1) eT pd_4 rfl (by rw [hml]; rfl) (by decide) 0 rfl (by decide) (by decide) (by decide) 5 rfl ?_
  intro T2 L9 v9 X hQ
  obtain ⟨rfl, N9, eT⟩ := hQ
  have N := Fr.app N N9
  show Go p e below _ T2 (mkF m 5 #[.val (.ref a1), .val (.int p2), .unset] [])
  refine own_bipush X hx hby (24 : Int32) d3_5 rfl 7 rfl ?_
  refine own_istoreN X hx hby d3_7 rfl (l' := #[.val (.ref a1), .val (.int p2), .val (.int (24 : Int32))]) rfl 8 rfl ?_
  refine own_iloadN X hx hby (24 : Int32) d3_8 rfl 9 rfl ?_
  have c9 : ¬ (24 : Int32) < (0 : Int32) := by decide
  refine own_if_lt X hx hby d3_9 38 12 (by decide) rfl (fun q => absurd q c9) (fun _ => ?_)
  refine own_aloadN X hx hby (.ref a1) d3_12 rfl rfl 13 rfl ?_
  refine own_getF X hx hby hZ hown (host := "") (Or.inl (hw _ (List.mem_of_getElem? (i := 10) rfl))) Via.refl eT F_bytes_a1 d3_13 16 rfl ?_
  intro T13 X eT
  refine own_aloadN X hx hby (.ref a1) d3_16 rfl rfl 17 rfl ?_
  refine own_dup X hx hby d3_17 rfl 18 rfl ?_
  refine own_getF X hx hby hZ hown (host := "") (Or.inl (hw _ (List.mem_of_getElem? (i := 21) rfl))) Via.refl eT F_length_a1 d3_18 21 rfl ?_
  intro T18 X eT
  refine own_dupX1 X hx hby d3_21 rfl rfl 22 rfl ?_
  refine own_iconst X hx hby (1 : Int32) d3_22 rfl 23 rfl ?_
  refine own_iadd X hx hby d3_23 24 rfl ?_
  refine own_top (v' := (.int (1 : Int32))) (congrArg Value.int (by decide)) ?_
  refine own_putF X hx hby hZ hown (host := "") (Or.inl (hw _ (List.mem_of_getElem? (i := 21) rfl))) Via.refl eT F_length_a1 E_a1 (Or.inl (hw _ (List.mem_of_getElem? (i := 22) rfl))) (hw _ (List.mem_of_getElem? (i := 1) rfl)) (ty := .int) (by decide) rfl rfl d3_24 27 rfl ?_
  intro T24 h24 X eT W
  have A_r1 := A_r1.other W ne_r1_a1
  have E_r1 := E_r1.wr W
  have E_a1 := E_a1.wr W
  have F_bytes_a1 := F_bytes_a1.other W (Or.inr (slot_ne (Or.inl (hw _ (List.mem_of_getElem? (i := 11) rfl))) (Or.inl (hw _ (List.mem_of_getElem? (i := 22) rfl))) (by decide) (t := (.array .byte)) (t' := .int) (by decide) (by decide)))
  have F_length_a1 := F_length_a1.same W
  have N := Fr.snoc X N g_a1
  have K := K.wr W (Or.inl (List.mem_of_getElem? (i := 0) rfl))
  have Zs := Nat.le_trans Zs (Keep.of_wr W).1
  refine own_iloadN X hx hby p2 d3_27 rfl 28 rfl ?_
  refine own_iloadN X hx hby (24 : Int32) d3_28 rfl 29 rfl ?_
  refine own_iushr X hx hby d3_29 30 rfl ?_
  refine own_i2b X hx hby d3_30 31 rfl ?_
  refine own_bastore X hx hby hZ eT A_r1 (own_bnd (Nat.lt_of_lt_of_le (by decide) (Nat.not_lt.mp fun q => hk ((own_lt hn (by decide)).mpr q))) (by decide)) d3_31 32 rfl ?_
  intro T31 h31 X eT W A
  have E_r1 := E_r1.wr W
  have E_a1 := E_a1.wr W
  have F_bytes_a1 := F_bytes_a1.other W (Or.inl (Ne.symm ne_r1_a1))
  have F_length_a1 := F_length_a1.other W (Or.inl (Ne.symm ne_r1_a1))
  have A_r1 : Afi Z h31 r1 .byte n1 (updI ar_r1 0 (nar .byte (((p2.toUInt32 >>> ((24 : Int32) &&& 31).toUInt32).toInt32).toInt8.toInt32))) := A
  have N := Fr.snoc X N g_r1
  have K := K.wr W (Or.inl (List.mem_of_getElem? (i := 1) rfl))
  have Zs := Nat.le_trans Zs (Keep.of_wr W).1
  refine own_iinc X hx hby d3_32 (x := (24 : Int32)) rfl (by decide) (l' := #[.val (.ref a1), .val (.int p2), .val (.int (16 : Int32))]) rfl 35 rfl ?_
  refine own_goto X hx hby d3_35 8 (by decide) ?_
  refine own_iloadN X hx hby (16 : Int32) d3_8 rfl 9 rfl ?_
  have c9_2 : ¬ (16 : Int32) < (0 : Int32) := by decide
  refine own_if_lt X hx hby d3_9 38 12 (by decide) rfl (fun q => absurd q c9_2) (fun _ => ?_)
  refine own_aloadN X hx hby (.ref a1) d3_12 rfl rfl 13 rfl ?_
  refine own_getF X hx hby hZ hown (host := "") (Or.inl (hw _ (List.mem_of_getElem? (i := 10) rfl))) Via.refl eT F_bytes_a1 d3_13 16 rfl ?_
  intro T13 X eT
  refine own_aloadN X hx hby (.ref a1) d3_16 rfl rfl 17 rfl ?_
  refine own_dup X hx hby d3_17 rfl 18 rfl ?_
  refine own_getF X hx hby hZ hown (host := "") (Or.inl (hw _ (List.mem_of_getElem? (i := 21) rfl))) Via.refl eT F_length_a1 d3_18 21 rfl ?_
  intro T18 X eT
  refine own_dupX1 X hx hby d3_21 rfl rfl 22 rfl ?_
  refine own_iconst X hx hby (1 : Int32) d3_22 rfl 23 rfl ?_
  refine own_iadd X hx hby d3_23 24 rfl ?_
  refine own_top (v' := (.int (2 : Int32))) (congrArg Value.int (by decide)) ?_
  refine own_putF X hx hby hZ hown (host := "") (Or.inl (hw _ (List.mem_of_getElem? (i := 21) rfl))) Via.refl eT F_length_a1 E_a1 (Or.inl (hw _ (List.mem_of_getElem? (i := 22) rfl))) (hw _ (List.mem_of_getElem? (i := 1) rfl)) (ty := .int) (by decide) rfl rfl d3_24 27 rfl ?_
  intro T24 h24 X eT W
  have A_r1 := A_r1.other W ne_r1_a1
  have E_r1 := E_r1.wr W
  have E_a1 := E_a1.wr W
  have F_bytes_a1 := F_bytes_a1.other W (Or.inr (slot_ne (Or.inl (hw _ (List.mem_of_getElem? (i := 11) rfl))) (Or.inl (hw _ (List.mem_of_getElem? (i := 22) rfl))) (by decide) (t := (.array .byte)) (t' := .int) (by decide) (by decide)))
  have F_length_a1 := F_length_a1.same W
  have N := Fr.snoc X N g_a1
  have K := K.wr W (Or.inl (List.mem_of_getElem? (i := 0) rfl))
  have Zs := Nat.le_trans Zs (Keep.of_wr W).1
  refine own_iloadN X hx hby p2 d3_27 rfl 28 rfl ?_
  refine own_iloadN X hx hby (16 : Int32) d3_28 rfl 29 rfl ?_
  refine own_iushr X hx hby d3_29 30 rfl ?_
  refine own_i2b X hx hby d3_30 31 rfl ?_
  refine own_bastore X hx hby hZ eT A_r1 (own_bnd (Nat.lt_of_lt_of_le (by decide) (Nat.not_lt.mp fun q => hk ((own_lt hn (by decide)).mpr q))) (by decide)) d3_31 32 rfl ?_
  intro T31 h31 X eT W A
  have E_r1 := E_r1.wr W
  have E_a1 := E_a1.wr W
  have F_bytes_a1 := F_bytes_a1.other W (Or.inl (Ne.symm ne_r1_a1))
  have F_length_a1 := F_length_a1.other W (Or.inl (Ne.symm ne_r1_a1))
  have A_r1 : Afi Z h31 r1 .byte n1 (updI (updI ar_r1 0 (nar .byte (((p2.toUInt32 >>> ((24 : Int32) &&& 31).toUInt32).toInt32).toInt8.toInt32))) 1 (nar .byte (((p2.toUInt32 >>> ((16 : Int32) &&& 31).toUInt32).toInt32).toInt8.toInt32))) := A
  have N := Fr.snoc X N g_r1
  have K := K.wr W (Or.inl (List.mem_of_getElem? (i := 1) rfl))
  have Zs := Nat.le_trans Zs (Keep.of_wr W).1
  refine own_iinc X hx hby d3_32 (x := (16 : Int32)) rfl (by decide) (l' := #[.val (.ref a1), .val (.int p2), .val (.int (8 : Int32))]) rfl 35 rfl ?_
  refine own_goto X hx hby d3_35 8 (by decide) ?_
  refine own_iloadN X hx hby (8 : Int32) d3_8 rfl 9 rfl ?_
  have c9_3 : ¬ (8 : Int32) < (0 : Int32) := by decide
  refine own_if_lt X hx hby d3_9 38 12 (by decide) rfl (fun q => absurd q c9_3) (fun _ => ?_)
  refine own_aloadN X hx hby (.ref a1) d3_12 rfl rfl 13 rfl ?_
  refine own_getF X hx hby hZ hown (host := "") (Or.inl (hw _ (List.mem_of_getElem? (i := 10) rfl))) Via.refl eT F_bytes_a1 d3_13 16 rfl ?_
  intro T13 X eT
  refine own_aloadN X hx hby (.ref a1) d3_16 rfl rfl 17 rfl ?_
  refine own_dup X hx hby d3_17 rfl 18 rfl ?_
  refine own_getF X hx hby hZ hown (host := "") (Or.inl (hw _ (List.mem_of_getElem? (i := 21) rfl))) Via.refl eT F_length_a1 d3_18 21 rfl ?_
  intro T18 X eT
  refine own_dupX1 X hx hby d3_21 rfl rfl 22 rfl ?_
  refine own_iconst X hx hby (1 : Int32) d3_22 rfl 23 rfl ?_
  refine own_iadd X hx hby d3_23 24 rfl ?_
  refine own_top (v' := (.int (3 : Int32))) (congrArg Value.int (by decide)) ?_
  refine own_putF X hx hby hZ hown (host := "") (Or.inl (hw _ (List.mem_of_getElem? (i := 21) rfl))) Via.refl eT F_length_a1 E_a1 (Or.inl (hw _ (List.mem_of_getElem? (i := 22) rfl))) (hw _ (List.mem_of_getElem? (i := 1) rfl)) (ty := .int) (by decide) rfl rfl d3_24 27 rfl ?_
  intro T24 h24 X eT W
  have A_r1 := A_r1.other W ne_r1_a1
  have E_r1 := E_r1.wr W
  have E_a1 := E_a1.wr W
  have F_bytes_a1 := F_bytes_a1.other W (Or.inr (slot_ne (Or.inl (hw _ (List.mem_of_getElem? (i := 11) rfl))) (Or.inl (hw _ (List.mem_of_getElem? (i := 22) rfl))) (by decide) (t := (.array .byte)) (t' := .int) (by decide) (by decide)))
  have F_length_a1 := F_length_a1.same W
  have N := Fr.snoc X N g_a1
  have K := K.wr W (Or.inl (List.mem_of_getElem? (i := 0) rfl))
  have Zs := Nat.le_trans Zs (Keep.of_wr W).1
  refine own_iloadN X hx hby p2 d3_27 rfl 28 rfl ?_
  refine own_iloadN X hx hby (8 : Int32) d3_28 rfl 29 rfl ?_
  refine own_iushr X hx hby d3_29 30 rfl ?_
  refine own_i2b X hx hby d3_30 31 rfl ?_
  refine own_bastore X hx hby hZ eT A_r1 (own_bnd (Nat.lt_of_lt_of_le (by decide) (Nat.not_lt.mp fun q => hk ((own_lt hn (by decide)).mpr q))) (by decide)) d3_31 32 rfl ?_
  intro T31 h31 X eT W A
  have E_r1 := E_r1.wr W
  have E_a1 := E_a1.wr W
  have F_bytes_a1 := F_bytes_a1.other W (Or.inl (Ne.symm ne_r1_a1))
  have F_length_a1 := F_length_a1.other W (Or.inl (Ne.symm ne_r1_a1))
  have A_r1 : Afi Z h31 r1 .byte n1 (updI (updI (updI ar_r1 0 (nar .byte (((p2.toUInt32 >>> ((24 : Int32) &&& 31).toUInt32).toInt32).toInt8.toInt32))) 1 (nar .byte (((p2.toUInt32 >>> ((16 : Int32) &&& 31).toUInt32).toInt32).toInt8.toInt32))) 2 (nar .byte (((p2.toUInt32 >>> ((8 : Int32) &&& 31).toUInt32).toInt32).toInt8.toInt32))) := A
  have N := Fr.snoc X N g_r1
  have K := K.wr W (Or.inl (List.mem_of_getElem? (i := 1) rfl))
  have Zs := Nat.le_trans Zs (Keep.of_wr W).1
  refine own_iinc X hx hby d3_32 (x := (8 : Int32)) rfl (by decide) (l' := #[.val (.ref a1), .val (.int p2), .val (.int (0 : Int32))]) rfl 35 rfl ?_
  refine own_goto X hx hby d3_35 8 (by decide) ?_
  refine own_iloadN X hx hby (0 : Int32) d3_8 rfl 9 rfl ?_
  have c9_4 : ¬ (0 : Int32) < (0 : Int32) := by decide
  refine own_if_lt X hx hby d3_9 38 12 (by decide) rfl (fun q => absurd q c9_4) (fun _ => ?_)
  refine own_aloadN X hx hby (.ref a1) d3_12 rfl rfl 13 rfl ?_
  refine own_getF X hx hby hZ hown (host := "") (Or.inl (hw _ (List.mem_of_getElem? (i := 10) rfl))) Via.refl eT F_bytes_a1 d3_13 16 rfl ?_
  intro T13 X eT
  refine own_aloadN X hx hby (.ref a1) d3_16 rfl rfl 17 rfl ?_
  refine own_dup X hx hby d3_17 rfl 18 rfl ?_
  refine own_getF X hx hby hZ hown (host := "") (Or.inl (hw _ (List.mem_of_getElem? (i := 21) rfl))) Via.refl eT F_length_a1 d3_18 21 rfl ?_
  intro T18 X eT
  refine own_dupX1 X hx hby d3_21 rfl rfl 22 rfl ?_
  refine own_iconst X hx hby (1 : Int32) d3_22 rfl 23 rfl ?_
  refine own_iadd X hx hby d3_23 24 rfl ?_
  refine own_top (v' := (.int (4 : Int32))) (congrArg Value.int (by decide)) ?_
  refine own_putF X hx hby hZ hown (host := "") (Or.inl (hw _ (List.mem_of_getElem? (i := 21) rfl))) Via.refl eT F_length_a1 E_a1 (Or.inl (hw _ (List.mem_of_getElem? (i := 22) rfl))) (hw _ (List.mem_of_getElem? (i := 1) rfl)) (ty := .int) (by decide) rfl rfl d3_24 27 rfl ?_
  intro T24 h24 X eT W
  have A_r1 := A_r1.other W ne_r1_a1
  have E_r1 := E_r1.wr W
  have E_a1 := E_a1.wr W
  have F_bytes_a1 := F_bytes_a1.other W (Or.inr (slot_ne (Or.inl (hw _ (List.mem_of_getElem? (i := 11) rfl))) (Or.inl (hw _ (List.mem_of_getElem? (i := 22) rfl))) (by decide) (t := (.array .byte)) (t' := .int) (by decide) (by decide)))
  have F_length_a1 := F_length_a1.same W
  have N := Fr.snoc X N g_a1
  have K := K.wr W (Or.inl (List.mem_of_getElem? (i := 0) rfl))
  have Zs := Nat.le_trans Zs (Keep.of_wr W).1
  refine own_iloadN X hx hby p2 d3_27 rfl 28 rfl ?_
  refine own_iloadN X hx hby (0 : Int32) d3_28 rfl 29 rfl ?_
  refine own_iushr X hx hby d3_29 30 rfl ?_
  refine own_i2b X hx hby d3_30 31 rfl ?_
  refine own_bastore X hx hby hZ eT A_r1 (own_bnd (Nat.lt_of_lt_of_le (by decide) (Nat.not_lt.mp fun q => hk ((own_lt hn (by decide)).mpr q))) (by decide)) d3_31 32 rfl ?_
  intro T31 h31 X eT W A
  have E_r1 := E_r1.wr W
  have E_a1 := E_a1.wr W
  have F_bytes_a1 := F_bytes_a1.other W (Or.inl (Ne.symm ne_r1_a1))
  have F_length_a1 := F_length_a1.other W (Or.inl (Ne.symm ne_r1_a1))
  have A_r1 : Afi Z h31 r1 .byte n1 (updI (updI (updI (updI ar_r1 0 (nar .byte (((p2.toUInt32 >>> ((24 : Int32) &&& 31).toUInt32).toInt32).toInt8.toInt32))) 1 (nar .byte (((p2.toUInt32 >>> ((16 : Int32) &&& 31).toUInt32).toInt32).toInt8.toInt32))) 2 (nar .byte (((p2.toUInt32 >>> ((8 : Int32) &&& 31).toUInt32).toInt32).toInt8.toInt32))) 3 (nar .byte (((p2.toUInt32 >>> ((0 : Int32) &&& 31).toUInt32).toInt32).toInt8.toInt32))) := A
  have N := Fr.snoc X N g_r1
  have K := K.wr W (Or.inl (List.mem_of_getElem? (i := 1) rfl))
  have Zs := Nat.le_trans Zs (Keep.of_wr W).1
  refine own_iinc X hx hby d3_32 (x := (0 : Int32)) rfl (by decide) (l' := #[.val (.ref a1), .val (.int p2), .val (.int (-8 : Int32))]) rfl 35 rfl ?_
  refine own_goto X hx hby d3_35 8 (by decide) ?_
  refine own_iloadN X hx hby (-8 : Int32) d3_8 rfl 9 rfl ?_
  have c9_5 : (-8 : Int32) < (0 : Int32) := by decide
  refine own_if_lt X hx hby d3_9 38 12 (by decide) rfl (fun _ => ?_) (fun q => absurd c9_5 q)
  refine own_ret X hx hby hret hlk d3_38 (by decide) (by decide) ?_
  rw [eT]
  exact ⟨rfl, N, K, E_a1, F_bytes_a1, F_length_a1, A_r1, E_r1⟩
theorem ef_3_0g (a1 : Addr) (p2 : Int32) (m : MethodId) : entryFrame m #[(.ref a1), (.int p2)] 3 = mkF m 0 #[.val (.ref a1), .val (.int p2), .unset] [] := by first | (simp [entryFrame, mkF, argsToLocals, Value.category]; done) | rfl
def Q3_0g (Z : State) (a1 : Addr) (p2 : Int32) (r1 : Addr) (ar_r1 : Nat → Int32) (n1 : Nat) (h0 : Heap) (n0 : Nat) (v : Option Value) (h : Heap) (L : List Loc) : Prop := ∃ (b2b35b15 : Addr), v = none ∧ Fr n0 L ∧ Keep h0 h [a1] ∧ h0.size ≤ b2b35b15 ∧ Exa Z h a1 "com/example/daylily/daylily/engine/ByteWriter" ∧ Fld Z h a1 "com/example/daylily/daylily/engine/ByteWriter" "bytes" "[B" (.ref b2b35b15) ∧ Fld Z h a1 "com/example/daylily/daylily/engine/ByteWriter" "length" "I" (.int (4 : Int32)) ∧ Afi Z h b2b35b15 .byte (Int32.toNatClampNeg (f5 ((2 : Int32) * (Int32.ofNat n1)) (4 : Int32))) (updI (updI (updI (updI (own_cp ar_r1 (Int32.toNatClampNeg (f7 (Int32.ofNat n1) (f5 ((2 : Int32) * (Int32.ofNat n1)) (4 : Int32))))) 0 (nar .byte (((p2.toUInt32 >>> ((24 : Int32) &&& 31).toUInt32).toInt32).toInt8.toInt32))) 1 (nar .byte (((p2.toUInt32 >>> ((16 : Int32) &&& 31).toUInt32).toInt32).toInt8.toInt32))) 2 (nar .byte (((p2.toUInt32 >>> ((8 : Int32) &&& 31).toUInt32).toInt32).toInt8.toInt32))) 3 (nar .byte (((p2.toUInt32 >>> ((0 : Int32) &&& 31).toUInt32).toInt32).toInt8.toInt32))) ∧ Exa Z h b2b35b15 "[B"
set_option maxRecDepth 65536 in
set_option maxHeartbeats 40000000 in
theorem rm3_0g (l : Launch) (Z : State) (a0 : Array Value) (hw : ∀ d ∈ tables_1, d.before a0 Z = true) (a1 : Addr) (p2 : Int32) (r1 : Addr) (ar_r1 : Nat → Int32) (n1 : Nat) (h0 : Heap) (n0 : Nat) (Zs : n0 ≤ h0.size) (hk : (Int32.ofNat n1) < (4 : Int32)) (hn : n1 < 8) (A_r1 : Afi Z h0 r1 .byte n1 ar_r1) (E_r1 : Exa Z h0 r1 "[B") (g_r1 : n0 ≤ r1) (E_a1 : Exa Z h0 a1 "com/example/daylily/daylily/engine/ByteWriter") (F_bytes_a1 : Fld Z h0 a1 "com/example/daylily/daylily/engine/ByteWriter" "bytes" "[B" (.ref r1)) (F_length_a1 : Fld Z h0 a1 "com/example/daylily/daylily/engine/ByteWriter" "length" "I" (.int (0 : Int32))) (g_a1 : n0 ≤ a1) :
    Met1 l Z (⟨"com/example/daylily/daylily/engine/ByteWriter", "writeInt", "(I)V"⟩ : MethodName) prog_10_method_7_code 3 none ({ frames := 3, cells := 1, slots := 15, locals := 46 } : Room) #[(.ref a1), (.int p2)] h0 (Q3_0g Z a1 p2 r1 ar_r1 n1 h0 n0) := by
  refine own_met_of (plainFor_of_name pn_1) (ef_3_0g a1 p2) ?_
  intro p e s m below meth c s₁ X hx hby hml hZ hown hnm hret hlk eT
  have hown : s.vm.findClass "com/example/daylily/daylily/engine/ByteWriter" = some m.cls := hown
  have N := Fr.nil n0
  have K := Keep.refl h0 [a1]
  have ne_r1_a1 : r1 ≠ a1 := ne_exa E_r1 E_a1 (by decide)
  refine own_aloadN X hx hby (.ref a1) d3_0 rfl rfl 1 rfl ?_
  refine own_iconst X hx hby (4 : Int32) d3_1 rfl 2 rfl ?_
  refine own_callP X hx hby hZ (st := []) [(.int (4 : Int32))] rfl hown (hw _ (List.mem_of_getElem? (i := 17) rfl)) (hw _ (List.mem_of_getElem? (i := 18) rfl)) (hw _ (List.mem_of_getElem? (i := 1) rfl)) (hw _ (List.mem_of_getElem? (i := 19) rfl)) (hw _ (List.mem_of_getElem? (i := 2) rfl)) (hw _ (List.mem_of_getElem? (i := 20) rfl)) E_a1 (by decide) d3_2 (rm4_0g l Z a0 hw a1 r1 ar_r1 n1 h0 n0 Zs hk hn A_r1 E_r1 E_a1 F_bytes_a1 F_length_a1 g_a1) eT pd_4 rfl (by rw [hml]; rfl) (by decide) 0 rfl (by decide) (by decide) (by decide) 5 rfl ?_
  intro T2 L9 v9 X hQ
  obtain ⟨h2, eT⟩ : ∃ z, T2.heap = z := ⟨_, rfl⟩
  rw [eT] at hQ
  have lt_a1 := E_a1.lt
  have lt_r1 := A_r1.lt
  obtain ⟨b2b35b15, rfl, N9, Kc, hs_b2b35b15, E_a1, F_bytes_a1, F_length_a1, A_b2b35b15, E_b2b35b15⟩ := hQ
  have g_b2b35b15 : n0 ≤ b2b35b15 := Nat.le_trans Zs hs_b2b35b15
  have sz_b2b35b15 : h0.size ≤ b2b35b15 := Nat.le_trans K.1 hs_b2b35b15
  have ne_a1_b2b35b15 : a1 ≠ b2b35b15 := Nat.ne_of_lt (Nat.lt_of_lt_of_le lt_a1 hs_b2b35b15)
  have ne_r1_b2b35b15 : r1 ≠ b2b35b15 := Nat.ne_of_lt (Nat.lt_of_lt_of_le lt_r1 hs_b2b35b15)
  have A_r1 := A_r1.keep Kc (ninS ne_r1_a1 nin0)
  have E_r1 := E_r1.keep Kc
  have K := K.trans Kc (allS (Or.inl (List.mem_of_getElem? (i := 0) rfl)) all0)
  have Zs := Nat.le_trans Zs Kc.1
  have N := Fr.app N N9
  show Go p e below _ T2 (mkF m 5 #[.val (.ref a1), .val (.int p2), .unset] [])
  refine own_bipush X hx hby (24 : Int32) d3_5 rfl 7 rfl ?_
  refine own_istoreN X hx hby d3_7 rfl (l' := #[.val (.ref a1), .val (.int p2), .val (.int (24 : Int32))]) rfl 8 rfl ?_
  refine own_iloadN X hx hby (24 : Int32) d3_8 rfl 9 rfl ?_
  have c9 : ¬ (24 : Int32) < (0 : Int32) := by decide
  refine own_if_lt X hx hby d3_9 38 12 (by decide) rfl (fun q => absurd q c9) (fun _ => ?_)
  refine own_aloadN X hx hby (.ref a1) d3_12 rfl rfl 13 rfl ?_
  refine own_getF X hx hby hZ hown (host := "") (Or.inl (hw _ (List.mem_of_getElem? (i := 10) rfl))) Via.refl eT F_bytes_a1 d3_13 16 rfl ?_
  intro T13 X eT
  refine own_aloadN X hx hby (.ref a1) d3_16 rfl rfl 17 rfl ?_
  refine own_dup X hx hby d3_17 rfl 18 rfl ?_
  refine own_getF X hx hby hZ hown (host := "") (Or.inl (hw _ (List.mem_of_getElem? (i := 21) rfl))) Via.refl eT F_length_a1 d3_18 21 rfl ?_
  intro T18 X eT
  refine own_dupX1 X hx hby d3_21 rfl rfl 22 rfl ?_
  refine own_iconst X hx hby (1 : Int32) d3_22 rfl 23 rfl ?_
  refine own_iadd X hx hby d3_23 24 rfl ?_
  refine own_top (v' := (.int (1 : Int32))) (congrArg Value.int (by decide)) ?_
  refine own_putF X hx hby hZ hown (host := "") (Or.inl (hw _ (List.mem_of_getElem? (i := 21) rfl))) Via.refl eT F_length_a1 E_a1 (Or.inl (hw _ (List.mem_of_getElem? (i := 22) rfl))) (hw _ (List.mem_of_getElem? (i := 1) rfl)) (ty := .int) (by decide) rfl rfl d3_24 27 rfl ?_
  intro T24 h24 X eT W
  have A_r1 := A_r1.other W ne_r1_a1
  have E_r1 := E_r1.wr W
  have E_a1 := E_a1.wr W
  have F_bytes_a1 := F_bytes_a1.other W (Or.inr (slot_ne (Or.inl (hw _ (List.mem_of_getElem? (i := 11) rfl))) (Or.inl (hw _ (List.mem_of_getElem? (i := 22) rfl))) (by decide) (t := (.array .byte)) (t' := .int) (by decide) (by decide)))
  have F_length_a1 := F_length_a1.same W
  have A_b2b35b15 := A_b2b35b15.other W (Ne.symm ne_a1_b2b35b15)
  have E_b2b35b15 := E_b2b35b15.wr W
  have N := Fr.snoc X N g_a1
  have K := K.wr W (Or.inl (List.mem_of_getElem? (i := 0) rfl))
  have Zs := Nat.le_trans Zs (Keep.of_wr W).1
  refine own_iloadN X hx hby p2 d3_27 rfl 28 rfl ?_
  refine own_iloadN X hx hby (24 : Int32) d3_28 rfl 29 rfl ?_
  refine own_iushr X hx hby d3_29 30 rfl ?_
  refine own_i2b X hx hby d3_30 31 rfl ?_
  refine own_bastore X hx hby hZ eT A_b2b35b15 (own_bnd (Nat.lt_of_lt_of_le (by decide) (own_g3 4 hn (by decide)).1) (by decide)) d3_31 32 rfl ?_
  intro T31 h31 X eT W A
  have A_r1 := A_r1.other W ne_r1_b2b35b15
  have E_r1 := E_r1.wr W
  have E_a1 := E_a1.wr W
  have F_bytes_a1 := F_bytes_a1.other W (Or.inl ne_a1_b2b35b15)
  have F_length_a1 := F_length_a1.other W (Or.inl ne_a1_b2b35b15)
  have E_b2b35b15 := E_b2b35b15.wr W
  have A_b2b35b15 : Afi Z h31 b2b35b15 .byte (Int32.toNatClampNeg (f5 ((2 : Int32) * (Int32.ofNat n1)) (4 : Int32))) (updI (own_cp ar_r1 (Int32.toNatClampNeg (f7 (Int32.ofNat n1) (f5 ((2 : Int32) * (Int32.ofNat n1)) (4 : Int32))))) 0 (nar .byte (((p2.toUInt32 >>> ((24 : Int32) &&& 31).toUInt32).toInt32).toInt8.toInt32))) := A
  have N := Fr.snoc X N g_b2b35b15
  have K := K.wr W (Or.inr sz_b2b35b15)
  have Zs := Nat.le_trans Zs (Keep.of_wr W).1
  refine own_iinc X hx hby d3_32 (x := (24 : Int32)) rfl (by decide) (l' := #[.val (.ref a1), .val (.int p2), .val (.int (16 : Int32))]) rfl 35 rfl ?_
  refine own_goto X hx hby d3_35 8 (by decide) ?_
  refine own_iloadN X hx hby (16 : Int32) d3_8 rfl 9 rfl ?_
  have c9_2 : ¬ (16 : Int32) < (0 : Int32) := by decide
  refine own_if_lt X hx hby d3_9 38 12 (by decide) rfl (fun q => absurd q c9_2) (fun _ => ?_)
  refine own_aloadN X hx hby (.ref a1) d3_12 rfl rfl 13 rfl ?_
  refine own_getF X hx hby hZ hown (host := "") (Or.inl (hw _ (List.mem_of_getElem? (i := 10) rfl))) Via.refl eT F_bytes_a1 d3_13 16 rfl ?_
  intro T13 X eT
  refine own_aloadN X hx hby (.ref a1) d3_16 rfl rfl 17 rfl ?_
  refine own_dup X hx hby d3_17 rfl 18 rfl ?_
  refine own_getF X hx hby hZ hown (host := "") (Or.inl (hw _ (List.mem_of_getElem? (i := 21) rfl))) Via.refl eT F_length_a1 d3_18 21 rfl ?_
  intro T18 X eT
  refine own_dupX1 X hx hby d3_21 rfl rfl 22 rfl ?_
  refine own_iconst X hx hby (1 : Int32) d3_22 rfl 23 rfl ?_
  refine own_iadd X hx hby d3_23 24 rfl ?_
  refine own_top (v' := (.int (2 : Int32))) (congrArg Value.int (by decide)) ?_
  refine own_putF X hx hby hZ hown (host := "") (Or.inl (hw _ (List.mem_of_getElem? (i := 21) rfl))) Via.refl eT F_length_a1 E_a1 (Or.inl (hw _ (List.mem_of_getElem? (i := 22) rfl))) (hw _ (List.mem_of_getElem? (i := 1) rfl)) (ty := .int) (by decide) rfl rfl d3_24 27 rfl ?_
  intro T24 h24 X eT W
  have A_r1 := A_r1.other W ne_r1_a1
  have E_r1 := E_r1.wr W
  have E_a1 := E_a1.wr W
  have F_bytes_a1 := F_bytes_a1.other W (Or.inr (slot_ne (Or.inl (hw _ (List.mem_of_getElem? (i := 11) rfl))) (Or.inl (hw _ (List.mem_of_getElem? (i := 22) rfl))) (by decide) (t := (.array .byte)) (t' := .int) (by decide) (by decide)))
  have F_length_a1 := F_length_a1.same W
  have A_b2b35b15 := A_b2b35b15.other W (Ne.symm ne_a1_b2b35b15)
  have E_b2b35b15 := E_b2b35b15.wr W
  have N := Fr.snoc X N g_a1
  have K := K.wr W (Or.inl (List.mem_of_getElem? (i := 0) rfl))
  have Zs := Nat.le_trans Zs (Keep.of_wr W).1
  refine own_iloadN X hx hby p2 d3_27 rfl 28 rfl ?_
  refine own_iloadN X hx hby (16 : Int32) d3_28 rfl 29 rfl ?_
  refine own_iushr X hx hby d3_29 30 rfl ?_
  refine own_i2b X hx hby d3_30 31 rfl ?_
  refine own_bastore X hx hby hZ eT A_b2b35b15 (own_bnd (Nat.lt_of_lt_of_le (by decide) (own_g3 4 hn (by decide)).1) (by decide)) d3_31 32 rfl ?_
  intro T31 h31 X eT W A
  have A_r1 := A_r1.other W ne_r1_b2b35b15
  have E_r1 := E_r1.wr W
  have E_a1 := E_a1.wr W
  have F_bytes_a1 := F_bytes_a1.other W (Or.inl ne_a1_b2b35b15)
  have F_length_a1 := F_length_a1.other W (Or.inl ne_a1_b2b35b15)
  have E_b2b35b15 := E_b2b35b15.wr W
  have A_b2b35b15 : Afi Z h31 b2b35b15 .byte (Int32.toNatClampNeg (f5 ((2 : Int32) * (Int32.ofNat n1)) (4 : Int32))) (updI (updI (own_cp ar_r1 (Int32.toNatClampNeg (f7 (Int32.ofNat n1) (f5 ((2 : Int32) * (Int32.ofNat n1)) (4 : Int32))))) 0 (nar .byte (((p2.toUInt32 >>> ((24 : Int32) &&& 31).toUInt32).toInt32).toInt8.toInt32))) 1 (nar .byte (((p2.toUInt32 >>> ((16 : Int32) &&& 31).toUInt32).toInt32).toInt8.toInt32))) := A
  have N := Fr.snoc X N g_b2b35b15
  have K := K.wr W (Or.inr sz_b2b35b15)
  have Zs := Nat.le_trans Zs (Keep.of_wr W).1
  refine own_iinc X hx hby d3_32 (x := (16 : Int32)) rfl (by decide) (l' := #[.val (.ref a1), .val (.int p2), .val (.int (8 : Int32))]) rfl 35 rfl ?_
  refine own_goto X hx hby d3_35 8 (by decide) ?_
  refine own_iloadN X hx hby (8 : Int32) d3_8 rfl 9 rfl ?_
  have c9_3 : ¬ (8 : Int32) < (0 : Int32) := by decide
  refine own_if_lt X hx hby d3_9 38 12 (by decide) rfl (fun q => absurd q c9_3) (fun _ => ?_)
  refine own_aloadN X hx hby (.ref a1) d3_12 rfl rfl 13 rfl ?_
  refine own_getF X hx hby hZ hown (host := "") (Or.inl (hw _ (List.mem_of_getElem? (i := 10) rfl))) Via.refl eT F_bytes_a1 d3_13 16 rfl ?_
  intro T13 X eT
  refine own_aloadN X hx hby (.ref a1) d3_16 rfl rfl 17 rfl ?_
  refine own_dup X hx hby d3_17 rfl 18 rfl ?_
  refine own_getF X hx hby hZ hown (host := "") (Or.inl (hw _ (List.mem_of_getElem? (i := 21) rfl))) Via.refl eT F_length_a1 d3_18 21 rfl ?_
  intro T18 X eT
  refine own_dupX1 X hx hby d3_21 rfl rfl 22 rfl ?_
  refine own_iconst X hx hby (1 : Int32) d3_22 rfl 23 rfl ?_
  refine own_iadd X hx hby d3_23 24 rfl ?_
  refine own_top (v' := (.int (3 : Int32))) (congrArg Value.int (by decide)) ?_
  refine own_putF X hx hby hZ hown (host := "") (Or.inl (hw _ (List.mem_of_getElem? (i := 21) rfl))) Via.refl eT F_length_a1 E_a1 (Or.inl (hw _ (List.mem_of_getElem? (i := 22) rfl))) (hw _ (List.mem_of_getElem? (i := 1) rfl)) (ty := .int) (by decide) rfl rfl d3_24 27 rfl ?_
  intro T24 h24 X eT W
  have A_r1 := A_r1.other W ne_r1_a1
  have E_r1 := E_r1.wr W
  have E_a1 := E_a1.wr W
  have F_bytes_a1 := F_bytes_a1.other W (Or.inr (slot_ne (Or.inl (hw _ (List.mem_of_getElem? (i := 11) rfl))) (Or.inl (hw _ (List.mem_of_getElem? (i := 22) rfl))) (by decide) (t := (.array .byte)) (t' := .int) (by decide) (by decide)))
  have F_length_a1 := F_length_a1.same W
  have A_b2b35b15 := A_b2b35b15.other W (Ne.symm ne_a1_b2b35b15)
  have E_b2b35b15 := E_b2b35b15.wr W
  have N := Fr.snoc X N g_a1
  have K := K.wr W (Or.inl (List.mem_of_getElem? (i := 0) rfl))
  have Zs := Nat.le_trans Zs (Keep.of_wr W).1
  refine own_iloadN X hx hby p2 d3_27 rfl 28 rfl ?_
  refine own_iloadN X hx hby (8 : Int32) d3_28 rfl 29 rfl ?_
  refine own_iushr X hx hby d3_29 30 rfl ?_
  refine own_i2b X hx hby d3_30 31 rfl ?_
  refine own_bastore X hx hby hZ eT A_b2b35b15 (own_bnd (Nat.lt_of_lt_of_le (by decide) (own_g3 4 hn (by decide)).1) (by decide)) d3_31 32 rfl ?_
  intro T31 h31 X eT W A
  have A_r1 := A_r1.other W ne_r1_b2b35b15
  have E_r1 := E_r1.wr W
  have E_a1 := E_a1.wr W
  have F_bytes_a1 := F_bytes_a1.other W (Or.inl ne_a1_b2b35b15)
  have F_length_a1 := F_length_a1.other W (Or.inl ne_a1_b2b35b15)
  have E_b2b35b15 := E_b2b35b15.wr W
  have A_b2b35b15 : Afi Z h31 b2b35b15 .byte (Int32.toNatClampNeg (f5 ((2 : Int32) * (Int32.ofNat n1)) (4 : Int32))) (updI (updI (updI (own_cp ar_r1 (Int32.toNatClampNeg (f7 (Int32.ofNat n1) (f5 ((2 : Int32) * (Int32.ofNat n1)) (4 : Int32))))) 0 (nar .byte (((p2.toUInt32 >>> ((24 : Int32) &&& 31).toUInt32).toInt32).toInt8.toInt32))) 1 (nar .byte (((p2.toUInt32 >>> ((16 : Int32) &&& 31).toUInt32).toInt32).toInt8.toInt32))) 2 (nar .byte (((p2.toUInt32 >>> ((8 : Int32) &&& 31).toUInt32).toInt32).toInt8.toInt32))) := A
  have N := Fr.snoc X N g_b2b35b15
  have K := K.wr W (Or.inr sz_b2b35b15)
  have Zs := Nat.le_trans Zs (Keep.of_wr W).1
  refine own_iinc X hx hby d3_32 (x := (8 : Int32)) rfl (by decide) (l' := #[.val (.ref a1), .val (.int p2), .val (.int (0 : Int32))]) rfl 35 rfl ?_
  refine own_goto X hx hby d3_35 8 (by decide) ?_
  refine own_iloadN X hx hby (0 : Int32) d3_8 rfl 9 rfl ?_
  have c9_4 : ¬ (0 : Int32) < (0 : Int32) := by decide
  refine own_if_lt X hx hby d3_9 38 12 (by decide) rfl (fun q => absurd q c9_4) (fun _ => ?_)
  refine own_aloadN X hx hby (.ref a1) d3_12 rfl rfl 13 rfl ?_
  refine own_getF X hx hby hZ hown (host := "") (Or.inl (hw _ (List.mem_of_getElem? (i := 10) rfl))) Via.refl eT F_bytes_a1 d3_13 16 rfl ?_
  intro T13 X eT
  refine own_aloadN X hx hby (.ref a1) d3_16 rfl rfl 17 rfl ?_
  refine own_dup X hx hby d3_17 rfl 18 rfl ?_
  refine own_getF X hx hby hZ hown (host := "") (Or.inl (hw _ (List.mem_of_getElem? (i := 21) rfl))) Via.refl eT F_length_a1 d3_18 21 rfl ?_
  intro T18 X eT
  refine own_dupX1 X hx hby d3_21 rfl rfl 22 rfl ?_
  refine own_iconst X hx hby (1 : Int32) d3_22 rfl 23 rfl ?_
  refine own_iadd X hx hby d3_23 24 rfl ?_
  refine own_top (v' := (.int (4 : Int32))) (congrArg Value.int (by decide)) ?_
  refine own_putF X hx hby hZ hown (host := "") (Or.inl (hw _ (List.mem_of_getElem? (i := 21) rfl))) Via.refl eT F_length_a1 E_a1 (Or.inl (hw _ (List.mem_of_getElem? (i := 22) rfl))) (hw _ (List.mem_of_getElem? (i := 1) rfl)) (ty := .int) (by decide) rfl rfl d3_24 27 rfl ?_
  intro T24 h24 X eT W
  have A_r1 := A_r1.other W ne_r1_a1
  have E_r1 := E_r1.wr W
  have E_a1 := E_a1.wr W
  have F_bytes_a1 := F_bytes_a1.other W (Or.inr (slot_ne (Or.inl (hw _ (List.mem_of_getElem? (i := 11) rfl))) (Or.inl (hw _ (List.mem_of_getElem? (i := 22) rfl))) (by decide) (t := (.array .byte)) (t' := .int) (by decide) (by decide)))
  have F_length_a1 := F_length_a1.same W
  have A_b2b35b15 := A_b2b35b15.other W (Ne.symm ne_a1_b2b35b15)
  have E_b2b35b15 := E_b2b35b15.wr W
  have N := Fr.snoc X N g_a1
  have K := K.wr W (Or.inl (List.mem_of_getElem? (i := 0) rfl))
  have Zs := Nat.le_trans Zs (Keep.of_wr W).1
  refine own_iloadN X hx hby p2 d3_27 rfl 28 rfl ?_
  refine own_iloadN X hx hby (0 : Int32) d3_28 rfl 29 rfl ?_
  refine own_iushr X hx hby d3_29 30 rfl ?_
  refine own_i2b X hx hby d3_30 31 rfl ?_
  refine own_bastore X hx hby hZ eT A_b2b35b15 (own_bnd (Nat.lt_of_lt_of_le (by decide) (own_g3 4 hn (by decide)).1) (by decide)) d3_31 32 rfl ?_
  intro T31 h31 X eT W A
  have A_r1 := A_r1.other W ne_r1_b2b35b15
  have E_r1 := E_r1.wr W
  have E_a1 := E_a1.wr W
  have F_bytes_a1 := F_bytes_a1.other W (Or.inl ne_a1_b2b35b15)
  have F_length_a1 := F_length_a1.other W (Or.inl ne_a1_b2b35b15)
  have E_b2b35b15 := E_b2b35b15.wr W
  have A_b2b35b15 : Afi Z h31 b2b35b15 .byte (Int32.toNatClampNeg (f5 ((2 : Int32) * (Int32.ofNat n1)) (4 : Int32))) (updI (updI (updI (updI (own_cp ar_r1 (Int32.toNatClampNeg (f7 (Int32.ofNat n1) (f5 ((2 : Int32) * (Int32.ofNat n1)) (4 : Int32))))) 0 (nar .byte (((p2.toUInt32 >>> ((24 : Int32) &&& 31).toUInt32).toInt32).toInt8.toInt32))) 1 (nar .byte (((p2.toUInt32 >>> ((16 : Int32) &&& 31).toUInt32).toInt32).toInt8.toInt32))) 2 (nar .byte (((p2.toUInt32 >>> ((8 : Int32) &&& 31).toUInt32).toInt32).toInt8.toInt32))) 3 (nar .byte (((p2.toUInt32 >>> ((0 : Int32) &&& 31).toUInt32).toInt32).toInt8.toInt32))) := A
  have N := Fr.snoc X N g_b2b35b15
  have K := K.wr W (Or.inr sz_b2b35b15)
  have Zs := Nat.le_trans Zs (Keep.of_wr W).1
  refine own_iinc X hx hby d3_32 (x := (0 : Int32)) rfl (by decide) (l' := #[.val (.ref a1), .val (.int p2), .val (.int (-8 : Int32))]) rfl 35 rfl ?_
  refine own_goto X hx hby d3_35 8 (by decide) ?_
  refine own_iloadN X hx hby (-8 : Int32) d3_8 rfl 9 rfl ?_
  have c9_5 : (-8 : Int32) < (0 : Int32) := by decide
  refine own_if_lt X hx hby d3_9 38 12 (by decide) rfl (fun _ => ?_) (fun q => absurd c9_5 q)
  refine own_ret X hx hby hret hlk d3_38 (by decide) (by decide) ?_
  rw [eT]
  exact ⟨b2b35b15, rfl, N, K, sz_b2b35b15, E_a1, F_bytes_a1, F_length_a1, A_b2b35b15, E_b2b35b15⟩
theorem ef_4_4s (a1 : Addr) (m : MethodId) : entryFrame m #[(.ref a1), (.int (4 : Int32))] 2 = mkF m 0 #[.val (.ref a1), .val (.int (4 : Int32))] [] := by first | (simp [entryFrame, mkF, argsToLocals, Value.category]; done) | rfl
def Q4_4s (Z : State) (a1 : Addr) (r1 : Addr) (ar_r1 : Nat → Int32) (n1 : Nat) (h0 : Heap) (n0 : Nat) (v : Option Value) (h : Heap) (L : List Loc) : Prop := v = none ∧ Fr n0 L ∧ h = h0
set_option maxRecDepth 65536 in
set_option maxHeartbeats 40000000 in
theorem rm4_4s (l : Launch) (Z : State) (a0 : Array Value) (hw : ∀ d ∈ tables_1, d.before a0 Z = true) (a1 : Addr) (r1 : Addr) (ar_r1 : Nat → Int32) (n1 : Nat) (h0 : Heap) (n0 : Nat) (Zs : n0 ≤ h0.size) (hk : ¬ (Int32.ofNat n1) < (8 : Int32)) (A_r1 : Afi Z h0 r1 .byte n1 ar_r1) (E_r1 : Exa Z h0 r1 "[B") (F_length_a1 : Fld Z h0 a1 "com/example/daylily/daylily/engine/ByteWriter" "length" "I" (.int (4 : Int32))) (F_bytes_a1 : Fld Z h0 a1 "com/example/daylily/daylily/engine/ByteWriter" "bytes" "[B" (.ref r1)) :
    Met1 l Z (⟨"com/example/daylily/daylily/engine/ByteWriter", "room", "(I)V"⟩ : MethodName) prog_10_method_15_code 2 none ({ frames := 0, cells := 0, slots := 0, locals := 0 } : Room) #[(.ref a1), (.int (4 : Int32))] h0 (Q4_4s Z a1 r1 ar_r1 n1 h0 n0) := by
  refine own_met_of (plainFor_of_name pn_1) (ef_4_4s a1) ?_
  intro p e s m below meth c s₁ X hx hby hml hZ hown hnm hret hlk eT
  have hown : s.vm.findClass "com/example/daylily/daylily/engine/ByteWriter" = some m.cls := hown
  have N := Fr.nil n0
  refine own_aloadN X hx hby (.ref a1) d4_0 rfl rfl 1 rfl ?_
  refine own_getF X hx hby hZ hown (host := "") (Or.inl (hw _ (List.mem_of_getElem? (i := 21) rfl))) Via.refl eT F_length_a1 d4_1 4 rfl ?_
  intro T1 X eT
  refine own_iloadN X hx hby (4 : Int32) d4_4 rfl 5 rfl ?_
  refine own_iadd X hx hby d4_5 6 rfl ?_
  refine own_top (v' := (.int (8 : Int32))) (congrArg Value.int (by decide)) ?_
  refine own_aloadN X hx hby (.ref a1) d4_6 rfl rfl 7 rfl ?_
  refine own_getF X hx hby hZ hown (host := "") (Or.inl (hw _ (List.mem_of_getElem? (i := 10) rfl))) Via.refl eT F_bytes_a1 d4_7 10 rfl ?_
  intro T7 X eT
  refine own_arraylength X hx hby hZ (Int32.ofNat n1) eT A_r1 rfl d4_10 11 rfl ?_
  have c11 : ¬ (Int32.ofNat n1) < (8 : Int32) := hk
  refine own_icmp_le X hx hby d4_11 41 14 (by decide) rfl (fun _ => ?_) (fun q => absurd q c11)
  refine own_ret X hx hby hret hlk d4_41 (by decide) (by decide) ?_
  rw [eT]
  exact ⟨rfl, N, rfl⟩
theorem ef_4_4g (a1 : Addr) (m : MethodId) : entryFrame m #[(.ref a1), (.int (4 : Int32))] 2 = mkF m 0 #[.val (.ref a1), .val (.int (4 : Int32))] [] := by first | (simp [entryFrame, mkF, argsToLocals, Value.category]; done) | rfl
def Q4_4g (Z : State) (a1 : Addr) (r1 : Addr) (ar_r1 : Nat → Int32) (n1 : Nat) (h0 : Heap) (n0 : Nat) (v : Option Value) (h : Heap) (L : List Loc) : Prop := ∃ (b35b15 : Addr), v = none ∧ Fr n0 L ∧ Keep h0 h [a1] ∧ h0.size ≤ b35b15 ∧ Exa Z h a1 "com/example/daylily/daylily/engine/ByteWriter" ∧ Fld Z h a1 "com/example/daylily/daylily/engine/ByteWriter" "bytes" "[B" (.ref b35b15) ∧ Fld Z h a1 "com/example/daylily/daylily/engine/ByteWriter" "length" "I" (.int (4 : Int32)) ∧ Afi Z h b35b15 .byte (Int32.toNatClampNeg (f5 ((2 : Int32) * (Int32.ofNat n1)) (8 : Int32))) (own_cp ar_r1 (Int32.toNatClampNeg (f7 (Int32.ofNat n1) (f5 ((2 : Int32) * (Int32.ofNat n1)) (8 : Int32))))) ∧ Exa Z h b35b15 "[B"
set_option maxRecDepth 65536 in
set_option maxHeartbeats 40000000 in
theorem rm4_4g (l : Launch) (Z : State) (a0 : Array Value) (hw : ∀ d ∈ tables_1, d.before a0 Z = true) (a1 : Addr) (r1 : Addr) (ar_r1 : Nat → Int32) (n1 : Nat) (h0 : Heap) (n0 : Nat) (Zs : n0 ≤ h0.size) (hk : (Int32.ofNat n1) < (8 : Int32)) (hn : n1 < 8) (A_r1 : Afi Z h0 r1 .byte n1 ar_r1) (E_r1 : Exa Z h0 r1 "[B") (E_a1 : Exa Z h0 a1 "com/example/daylily/daylily/engine/ByteWriter") (F_bytes_a1 : Fld Z h0 a1 "com/example/daylily/daylily/engine/ByteWriter" "bytes" "[B" (.ref r1)) (F_length_a1 : Fld Z h0 a1 "com/example/daylily/daylily/engine/ByteWriter" "length" "I" (.int (4 : Int32))) (g_a1 : n0 ≤ a1) :
    Met1 l Z (⟨"com/example/daylily/daylily/engine/ByteWriter", "room", "(I)V"⟩ : MethodName) prog_10_method_15_code 2 none ({ frames := 2, cells := 1, slots := 15, locals := 33 } : Room) #[(.ref a1), (.int (4 : Int32))] h0 (Q4_4g Z a1 r1 ar_r1 n1 h0 n0) := by
  refine own_met_of (plainFor_of_name pn_1) (ef_4_4g a1) ?_
  intro p e s m below meth c s₁ X hx hby hml hZ hown hnm hret hlk eT
  have hown : s.vm.findClass "com/example/daylily/daylily/engine/ByteWriter" = some m.cls := hown
  have N := Fr.nil n0
  have K := Keep.refl h0 [a1]
  have ne_r1_a1 : r1 ≠ a1 := ne_exa E_r1 E_a1 (by decide)
  refine own_aloadN X hx hby (.ref a1) d4_0 rfl rfl 1 rfl ?_
  refine own_getF X hx hby hZ hown (host := "") (Or.inl (hw _ (List.mem_of_getElem? (i := 21) rfl))) Via.refl eT F_length_a1 d4_1 4 rfl ?_
  intro T1 X eT
  refine own_iloadN X hx hby (4 : Int32) d4_4 rfl 5 rfl ?_
  refine own_iadd X hx hby d4_5 6 rfl ?_
  refine own_top (v' := (.int (8 : Int32))) (congrArg Value.int (by decide)) ?_
  refine own_aloadN X hx hby (.ref a1) d4_6 rfl rfl 7 rfl ?_
  refine own_getF X hx hby hZ hown (host := "") (Or.inl (hw _ (List.mem_of_getElem? (i := 10) rfl))) Via.refl eT F_bytes_a1 d4_7 10 rfl ?_
  intro T7 X eT
  refine own_arraylength X hx hby hZ (Int32.ofNat n1) eT A_r1 rfl d4_10 11 rfl ?_
  have c11 : (Int32.ofNat n1) < (8 : Int32) := hk
  refine own_icmp_le X hx hby d4_11 41 14 (by decide) rfl (fun q => absurd c11 q) (fun _ => ?_)
  refine own_aloadN X hx hby (.ref a1) d4_14 rfl rfl 15 rfl ?_
  refine own_aloadN X hx hby (.ref a1) d4_15 rfl rfl 16 rfl ?_
  refine own_getF X hx hby hZ hown (host := "") (Or.inl (hw _ (List.mem_of_getElem? (i := 10) rfl))) Via.refl eT F_bytes_a1 d4_16 19 rfl ?_
  intro T16 X eT
  refine own_iconst X hx hby (2 : Int32) d4_19 rfl 20 rfl ?_
  refine own_aloadN X hx hby (.ref a1) d4_20 rfl rfl 21 rfl ?_
  refine own_getF X hx hby hZ hown (host := "") (Or.inl (hw _ (List.mem_of_getElem? (i := 10) rfl))) Via.refl eT F_bytes_a1 d4_21 24 rfl ?_
  intro T21 X eT
  refine own_arraylength X hx hby hZ (Int32.ofNat n1) eT A_r1 rfl d4_24 25 rfl ?_
  refine own_imul X hx hby d4_25 26 rfl ?_
  refine own_aloadN X hx hby (.ref a1) d4_26 rfl rfl 27 rfl ?_
  refine own_getF X hx hby hZ hown (host := "") (Or.inl (hw _ (List.mem_of_getElem? (i := 21) rfl))) Via.refl eT F_length_a1 d4_27 30 rfl ?_
  intro T27 X eT
  refine own_iloadN X hx hby (4 : Int32) d4_30 rfl 31 rfl ?_
  refine own_iadd X hx hby d4_31 32 rfl ?_
  refine own_top (v' := (.int (8 : Int32))) (congrArg Value.int (by decide)) ?_
  refine own_callS X hx hby hZ (st := [(.ref r1), (.ref a1)]) [(.int ((2 : Int32) * (Int32.ofNat n1))), (.int (8 : Int32))] rfl hown (hw _ (List.mem_of_getElem? (i := 23) rfl)) (hw _ (List.mem_of_getElem? (i := 24) rfl)) (hw _ (List.mem_of_getElem? (i := 25) rfl)) (hw _ (List.mem_of_getElem? (i := 26) rfl)) (by decide) d4_32 (rm5 l Z a0 hw ((2 : Int32) * (Int32.ofNat n1)) (8 : Int32) h0 n0 Zs ) eT pd_5 rfl (by rw [hml]; rfl) (by decide) 2 rfl (by decide) (by decide) (by decide) 35 rfl ?_
  intro T32 L9 v9 X hQ
  obtain ⟨rfl, N9, eT⟩ := hQ
  have N := Fr.app N N9
  show Go p e below _ T32 (mkF m 35 #[.val (.ref a1), .val (.int (4 : Int32))] [(.int (f5 ((2 : Int32) * (Int32.ofNat n1)) (8 : Int32))), (.ref r1), (.ref a1)])
  refine own_callS X hx hby hZ (st := [(.ref a1)]) [(.ref r1), (.int (f5 ((2 : Int32) * (Int32.ofNat n1)) (8 : Int32)))] rfl hown (hw _ (List.mem_of_getElem? (i := 27) rfl)) (hw _ (List.mem_of_getElem? (i := 28) rfl)) (hw _ (List.mem_of_getElem? (i := 29) rfl)) (hw _ (List.mem_of_getElem? (i := 30) rfl)) (by decide) d4_35 (rm6_n l Z a0 hw r1 (f5 ((2 : Int32) * (Int32.ofNat n1)) (8 : Int32)) ar_r1 n1 h0 n0 Zs (own_g1 8 ((own_lt (Nat.lt_trans hn (by decide)) (by decide)).mp hk) hn (by decide) (by decide)) (own_g2 8 hn (by decide)) (Nat.lt_trans hn (by decide)) A_r1 E_r1) eT pd_8 rfl (by rw [hml]; rfl) (by decide) 1 rfl (by decide) (by decide) (by decide) 38 rfl ?_
  intro T35 L9 v9 X hQ
  obtain ⟨h35, eT⟩ : ∃ z, T35.heap = z := ⟨_, rfl⟩
  rw [eT] at hQ
  have lt_a1 := E_a1.lt
  have lt_r1 := A_r1.lt
  obtain ⟨b35b15, rfl, N9, Kc, hs_b35b15, A_b35b15, E_b35b15⟩ := hQ
  have g_b35b15 : n0 ≤ b35b15 := Nat.le_trans Zs hs_b35b15
  have sz_b35b15 : h0.size ≤ b35b15 := Nat.le_trans K.1 hs_b35b15
  have ne_a1_b35b15 : a1 ≠ b35b15 := Nat.ne_of_lt (Nat.lt_of_lt_of_le lt_a1 hs_b35b15)
  have ne_r1_b35b15 : r1 ≠ b35b15 := Nat.ne_of_lt (Nat.lt_of_lt_of_le lt_r1 hs_b35b15)
  have A_r1 := A_r1.keep Kc nin0
  have E_r1 := E_r1.keep Kc
  have E_a1 := E_a1.keep Kc
  have F_bytes_a1 := F_bytes_a1.keep Kc nin0
  have F_length_a1 := F_length_a1.keep Kc nin0
  have K := K.trans Kc all0
  have Zs := Nat.le_trans Zs Kc.1
  have N := Fr.app N N9
  show Go p e below _ T35 (mkF m 38 #[.val (.ref a1), .val (.int (4 : Int32))] [(.ref b35b15), (.ref a1)])
  refine own_putF X hx hby hZ hown (host := "") (Or.inl (hw _ (List.mem_of_getElem? (i := 10) rfl))) Via.refl eT F_bytes_a1 E_a1 (Or.inl (hw _ (List.mem_of_getElem? (i := 11) rfl))) (hw _ (List.mem_of_getElem? (i := 1) rfl)) (ty := (.array .byte)) (by decide) rfl rfl d4_38 41 rfl ?_
  intro T38 h38 X eT W
  have A_r1 := A_r1.other W ne_r1_a1
  have E_r1 := E_r1.wr W
  have E_a1 := E_a1.wr W
  have F_bytes_a1 := F_bytes_a1.same W
  have F_length_a1 := F_length_a1.other W (Or.inr (slot_ne (Or.inl (hw _ (List.mem_of_getElem? (i := 22) rfl))) (Or.inl (hw _ (List.mem_of_getElem? (i := 11) rfl))) (by decide) (t := .int) (t' := (.array .byte)) (by decide) (by decide)))
  have A_b35b15 := A_b35b15.other W (Ne.symm ne_a1_b35b15)
  have E_b35b15 := E_b35b15.wr W
  have N := Fr.snoc X N g_a1
  have K := K.wr W (Or.inl (List.mem_of_getElem? (i := 0) rfl))
  have Zs := Nat.le_trans Zs (Keep.of_wr W).1
  refine own_ret X hx hby hret hlk d4_41 (by decide) (by decide) ?_
  rw [eT]
  exact ⟨b35b15, rfl, N, K, sz_b35b15, E_a1, F_bytes_a1, F_length_a1, A_b35b15, E_b35b15⟩
theorem ef_3_4s (a1 : Addr) (p2 : Int32) (m : MethodId) : entryFrame m #[(.ref a1), (.int p2)] 3 = mkF m 0 #[.val (.ref a1), .val (.int p2), .unset] [] := by first | (simp [entryFrame, mkF, argsToLocals, Value.category]; done) | rfl
def Q3_4s (Z : State) (a1 : Addr) (p2 : Int32) (r1 : Addr) (ar_r1 : Nat → Int32) (n1 : Nat) (h0 : Heap) (n0 : Nat) (v : Option Value) (h : Heap) (L : List Loc) : Prop := v = none ∧ Fr n0 L ∧ Keep h0 h [a1, r1] ∧ Exa Z h a1 "com/example/daylily/daylily/engine/ByteWriter" ∧ Fld Z h a1 "com/example/daylily/daylily/engine/ByteWriter" "bytes" "[B" (.ref r1) ∧ Fld Z h a1 "com/example/daylily/daylily/engine/ByteWriter" "length" "I" (.int (8 : Int32)) ∧ Afi Z h r1 .byte n1 (updI (updI (updI (updI ar_r1 4 (nar .byte (((p2.toUInt32 >>> ((24 : Int32) &&& 31).toUInt32).toInt32).toInt8.toInt32))) 5 (nar .byte (((p2.toUInt32 >>> ((16 : Int32) &&& 31).toUInt32).toInt32).toInt8.toInt32))) 6 (nar .byte (((p2.toUInt32 >>> ((8 : Int32) &&& 31).toUInt32).toInt32).toInt8.toInt32))) 7 (nar .byte (((p2.toUInt32 >>> ((0 : Int32) &&& 31).toUInt32).toInt32).toInt8.toInt32))) ∧ Exa Z h r1 "[B"
set_option maxRecDepth 65536 in
set_option maxHeartbeats 40000000 in
theorem rm3_4s (l : Launch) (Z : State) (a0 : Array Value) (hw : ∀ d ∈ tables_1, d.before a0 Z = true) (a1 : Addr) (p2 : Int32) (r1 : Addr) (ar_r1 : Nat → Int32) (n1 : Nat) (h0 : Heap) (n0 : Nat) (Zs : n0 ≤ h0.size) (hk : ¬ (Int32.ofNat n1) < (8 : Int32)) (hn : n1 < 16) (A_r1 : Afi Z h0 r1 .byte n1 ar_r1) (E_r1 : Exa Z h0 r1 "[B") (g_r1 : n0 ≤ r1) (E_a1 : Exa Z h0 a1 "com/example/daylily/daylily/engine/ByteWriter") (F_bytes_a1 : Fld Z h0 a1 "com/example/daylily/daylily/engine/ByteWriter" "bytes" "[B" (.ref r1)) (F_length_a1 : Fld Z h0 a1 "com/example/daylily/daylily/engine/ByteWriter" "length" "I" (.int (4 : Int32))) (g_a1 : n0 ≤ a1) :
    Met1 l Z (⟨"com/example/daylily/daylily/engine/ByteWriter", "writeInt", "(I)V"⟩ : MethodName) prog_10_method_7_code 3 none ({ frames := 1, cells := 0, slots := 0, locals := 13 } : Room) #[(.ref a1), (.int p2)] h0 (Q3_4s Z a1 p2 r1 ar_r1 n1 h0 n0) := by
  refine own_met_of (plainFor_of_name pn_1) (ef_3_4s a1 p2) ?_
  intro p e s m below meth c s₁ X hx hby hml hZ hown hnm hret hlk eT
  have hown : s.vm.findClass "com/example/daylily/daylily/engine/ByteWriter" = some m.cls := hown
  have N := Fr.nil n0
  have K := Keep.refl h0 [a1, r1]
  have ne_r1_a1 : r1 ≠ a1 := ne_exa E_r1 E_a1 (by decide)
  refine own_aloadN X hx hby (.ref a1) d3_0 rfl rfl 1 rfl ?_
  refine own_iconst X hx hby (4 : Int32) d3_1 rfl 2 rfl ?_
  refine own_callP X hx hby hZ (st := []) [(.int (4 : Int32))] rfl hown (hw _ (List.mem_of_getElem? (i := 17) rfl)) (hw _ (List.mem_of_getElem? (i := 18) rfl)) (hw _ (List.mem_of_getElem? (i := 1) rfl)) (hw _ (List.mem_of_getElem? (i := 19) rfl)) (hw _ (List.mem_of_getElem? (i := 2) rfl)) (hw _ (List.mem_of_getElem? (i := 20) rfl)) E_a1 (by decide) d3_2 (rm4_4s l Z a0 hw a1 r1 ar_r1 n1 h0 n0 Zs hk A_r1 E_r1 F_length_a1 F_bytes_a1) eT pd_4 rfl (by rw [hml]; rfl) (by decide) 0 rfl (by decide) (by decide) (by decide) 5 rfl ?_
  intro T2 L9 v9 X hQ
  obtain ⟨rfl, N9, eT⟩ := hQ
  have N := Fr.app N N9
  show Go p e below _ T2 (mkF m 5 #[.val (.ref a1), .val (.int p2), .unset] [])
  refine own_bipush X hx hby (24 : Int32) d3_5 rfl 7 rfl ?_
  refine own_istoreN X hx hby d3_7 rfl (l' := #[.val (.ref a1), .val (.int p2), .val (.int (24 : Int32))]) rfl 8 rfl ?_
  refine own_iloadN X hx hby (24 : Int32) d3_8 rfl 9 rfl ?_
  have c9 : ¬ (24 : Int32) < (0 : Int32) := by decide
  refine own_if_lt X hx hby d3_9 38 12 (by decide) rfl (fun q => absurd q c9) (fun _ => ?_)
  refine own_aloadN X hx hby (.ref a1) d3_12 rfl rfl 13 rfl ?_
  refine own_getF X hx hby hZ hown (host := "") (Or.inl (hw _ (List.mem_of_getElem? (i := 10) rfl))) Via.refl eT F_bytes_a1 d3_13 16 rfl ?_
  intro T13 X eT
  refine own_aloadN X hx hby (.ref a1) d3_16 rfl rfl 17 rfl ?_
  refine own_dup X hx hby d3_17 rfl 18 rfl ?_
  refine own_getF X hx hby hZ hown (host := "") (Or.inl (hw _ (List.mem_of_getElem? (i := 21) rfl))) Via.refl eT F_length_a1 d3_18 21 rfl ?_
  intro T18 X eT
  refine own_dupX1 X hx hby d3_21 rfl rfl 22 rfl ?_
  refine own_iconst X hx hby (1 : Int32) d3_22 rfl 23 rfl ?_
  refine own_iadd X hx hby d3_23 24 rfl ?_
  refine own_top (v' := (.int (5 : Int32))) (congrArg Value.int (by decide)) ?_
  refine own_putF X hx hby hZ hown (host := "") (Or.inl (hw _ (List.mem_of_getElem? (i := 21) rfl))) Via.refl eT F_length_a1 E_a1 (Or.inl (hw _ (List.mem_of_getElem? (i := 22) rfl))) (hw _ (List.mem_of_getElem? (i := 1) rfl)) (ty := .int) (by decide) rfl rfl d3_24 27 rfl ?_
  intro T24 h24 X eT W
  have A_r1 := A_r1.other W ne_r1_a1
  have E_r1 := E_r1.wr W
  have E_a1 := E_a1.wr W
  have F_bytes_a1 := F_bytes_a1.other W (Or.inr (slot_ne (Or.inl (hw _ (List.mem_of_getElem? (i := 11) rfl))) (Or.inl (hw _ (List.mem_of_getElem? (i := 22) rfl))) (by decide) (t := (.array .byte)) (t' := .int) (by decide) (by decide)))
  have F_length_a1 := F_length_a1.same W
  have N := Fr.snoc X N g_a1
  have K := K.wr W (Or.inl (List.mem_of_getElem? (i := 0) rfl))
  have Zs := Nat.le_trans Zs (Keep.of_wr W).1
  refine own_iloadN X hx hby p2 d3_27 rfl 28 rfl ?_
  refine own_iloadN X hx hby (24 : Int32) d3_28 rfl 29 rfl ?_
  refine own_iushr X hx hby d3_29 30 rfl ?_
  refine own_i2b X hx hby d3_30 31 rfl ?_
  refine own_bastore X hx hby hZ eT A_r1 (own_bnd (Nat.lt_of_lt_of_le (by decide) (Nat.not_lt.mp fun q => hk ((own_lt hn (by decide)).mpr q))) (by decide)) d3_31 32 rfl ?_
  intro T31 h31 X eT W A
  have E_r1 := E_r1.wr W
  have E_a1 := E_a1.wr W
  have F_bytes_a1 := F_bytes_a1.other W (Or.inl (Ne.symm ne_r1_a1))
  have F_length_a1 := F_length_a1.other W (Or.inl (Ne.symm ne_r1_a1))
  have A_r1 : Afi Z h31 r1 .byte n1 (updI ar_r1 4 (nar .byte (((p2.toUInt32 >>> ((24 : Int32) &&& 31).toUInt32).toInt32).toInt8.toInt32))) := A
  have N := Fr.snoc X N g_r1
  have K := K.wr W (Or.inl (List.mem_of_getElem? (i := 1) rfl))
  have Zs := Nat.le_trans Zs (Keep.of_wr W).1
  refine own_iinc X hx hby d3_32 (x := (24 : Int32)) rfl (by decide) (l' := #[.val (.ref a1), .val (.int p2), .val (.int (16 : Int32))]) rfl 35 rfl ?_
  refine own_goto X hx hby d3_35 8 (by decide) ?_
  refine own_iloadN X hx hby (16 : Int32) d3_8 rfl 9 rfl ?_
  have c9_2 : ¬ (16 : Int32) < (0 : Int32) := by decide
  refine own_if_lt X hx hby d3_9 38 12 (by decide) rfl (fun q => absurd q c9_2) (fun _ => ?_)
  refine own_aloadN X hx hby (.ref a1) d3_12 rfl rfl 13 rfl ?_
  refine own_getF X hx hby hZ hown (host := "") (Or.inl (hw _ (List.mem_of_getElem? (i := 10) rfl))) Via.refl eT F_bytes_a1 d3_13 16 rfl ?_
  intro T13 X eT
  refine own_aloadN X hx hby (.ref a1) d3_16 rfl rfl 17 rfl ?_
  refine own_dup X hx hby d3_17 rfl 18 rfl ?_
  refine own_getF X hx hby hZ hown (host := "") (Or.inl (hw _ (List.mem_of_getElem? (i := 21) rfl))) Via.refl eT F_length_a1 d3_18 21 rfl ?_
  intro T18 X eT
  refine own_dupX1 X hx hby d3_21 rfl rfl 22 rfl ?_
  refine own_iconst X hx hby (1 : Int32) d3_22 rfl 23 rfl ?_
  refine own_iadd X hx hby d3_23 24 rfl ?_
  refine own_top (v' := (.int (6 : Int32))) (congrArg Value.int (by decide)) ?_
  refine own_putF X hx hby hZ hown (host := "") (Or.inl (hw _ (List.mem_of_getElem? (i := 21) rfl))) Via.refl eT F_length_a1 E_a1 (Or.inl (hw _ (List.mem_of_getElem? (i := 22) rfl))) (hw _ (List.mem_of_getElem? (i := 1) rfl)) (ty := .int) (by decide) rfl rfl d3_24 27 rfl ?_
  intro T24 h24 X eT W
  have A_r1 := A_r1.other W ne_r1_a1
  have E_r1 := E_r1.wr W
  have E_a1 := E_a1.wr W
  have F_bytes_a1 := F_bytes_a1.other W (Or.inr (slot_ne (Or.inl (hw _ (List.mem_of_getElem? (i := 11) rfl))) (Or.inl (hw _ (List.mem_of_getElem? (i := 22) rfl))) (by decide) (t := (.array .byte)) (t' := .int) (by decide) (by decide)))
  have F_length_a1 := F_length_a1.same W
  have N := Fr.snoc X N g_a1
  have K := K.wr W (Or.inl (List.mem_of_getElem? (i := 0) rfl))
  have Zs := Nat.le_trans Zs (Keep.of_wr W).1
  refine own_iloadN X hx hby p2 d3_27 rfl 28 rfl ?_
  refine own_iloadN X hx hby (16 : Int32) d3_28 rfl 29 rfl ?_
  refine own_iushr X hx hby d3_29 30 rfl ?_
  refine own_i2b X hx hby d3_30 31 rfl ?_
  refine own_bastore X hx hby hZ eT A_r1 (own_bnd (Nat.lt_of_lt_of_le (by decide) (Nat.not_lt.mp fun q => hk ((own_lt hn (by decide)).mpr q))) (by decide)) d3_31 32 rfl ?_
  intro T31 h31 X eT W A
  have E_r1 := E_r1.wr W
  have E_a1 := E_a1.wr W
  have F_bytes_a1 := F_bytes_a1.other W (Or.inl (Ne.symm ne_r1_a1))
  have F_length_a1 := F_length_a1.other W (Or.inl (Ne.symm ne_r1_a1))
  have A_r1 : Afi Z h31 r1 .byte n1 (updI (updI ar_r1 4 (nar .byte (((p2.toUInt32 >>> ((24 : Int32) &&& 31).toUInt32).toInt32).toInt8.toInt32))) 5 (nar .byte (((p2.toUInt32 >>> ((16 : Int32) &&& 31).toUInt32).toInt32).toInt8.toInt32))) := A
  have N := Fr.snoc X N g_r1
  have K := K.wr W (Or.inl (List.mem_of_getElem? (i := 1) rfl))
  have Zs := Nat.le_trans Zs (Keep.of_wr W).1
  refine own_iinc X hx hby d3_32 (x := (16 : Int32)) rfl (by decide) (l' := #[.val (.ref a1), .val (.int p2), .val (.int (8 : Int32))]) rfl 35 rfl ?_
  refine own_goto X hx hby d3_35 8 (by decide) ?_
  refine own_iloadN X hx hby (8 : Int32) d3_8 rfl 9 rfl ?_
  have c9_3 : ¬ (8 : Int32) < (0 : Int32) := by decide
  refine own_if_lt X hx hby d3_9 38 12 (by decide) rfl (fun q => absurd q c9_3) (fun _ => ?_)
  refine own_aloadN X hx hby (.ref a1) d3_12 rfl rfl 13 rfl ?_
  refine own_getF X hx hby hZ hown (host := "") (Or.inl (hw _ (List.mem_of_getElem? (i := 10) rfl))) Via.refl eT F_bytes_a1 d3_13 16 rfl ?_
  intro T13 X eT
  refine own_aloadN X hx hby (.ref a1) d3_16 rfl rfl 17 rfl ?_
  refine own_dup X hx hby d3_17 rfl 18 rfl ?_
  refine own_getF X hx hby hZ hown (host := "") (Or.inl (hw _ (List.mem_of_getElem? (i := 21) rfl))) Via.refl eT F_length_a1 d3_18 21 rfl ?_
  intro T18 X eT
  refine own_dupX1 X hx hby d3_21 rfl rfl 22 rfl ?_
  refine own_iconst X hx hby (1 : Int32) d3_22 rfl 23 rfl ?_
  refine own_iadd X hx hby d3_23 24 rfl ?_
  refine own_top (v' := (.int (7 : Int32))) (congrArg Value.int (by decide)) ?_
  refine own_putF X hx hby hZ hown (host := "") (Or.inl (hw _ (List.mem_of_getElem? (i := 21) rfl))) Via.refl eT F_length_a1 E_a1 (Or.inl (hw _ (List.mem_of_getElem? (i := 22) rfl))) (hw _ (List.mem_of_getElem? (i := 1) rfl)) (ty := .int) (by decide) rfl rfl d3_24 27 rfl ?_
  intro T24 h24 X eT W
  have A_r1 := A_r1.other W ne_r1_a1
  have E_r1 := E_r1.wr W
  have E_a1 := E_a1.wr W
  have F_bytes_a1 := F_bytes_a1.other W (Or.inr (slot_ne (Or.inl (hw _ (List.mem_of_getElem? (i := 11) rfl))) (Or.inl (hw _ (List.mem_of_getElem? (i := 22) rfl))) (by decide) (t := (.array .byte)) (t' := .int) (by decide) (by decide)))
  have F_length_a1 := F_length_a1.same W
  have N := Fr.snoc X N g_a1
  have K := K.wr W (Or.inl (List.mem_of_getElem? (i := 0) rfl))
  have Zs := Nat.le_trans Zs (Keep.of_wr W).1
  refine own_iloadN X hx hby p2 d3_27 rfl 28 rfl ?_
  refine own_iloadN X hx hby (8 : Int32) d3_28 rfl 29 rfl ?_
  refine own_iushr X hx hby d3_29 30 rfl ?_
  refine own_i2b X hx hby d3_30 31 rfl ?_
  refine own_bastore X hx hby hZ eT A_r1 (own_bnd (Nat.lt_of_lt_of_le (by decide) (Nat.not_lt.mp fun q => hk ((own_lt hn (by decide)).mpr q))) (by decide)) d3_31 32 rfl ?_
  intro T31 h31 X eT W A
  have E_r1 := E_r1.wr W
  have E_a1 := E_a1.wr W
  have F_bytes_a1 := F_bytes_a1.other W (Or.inl (Ne.symm ne_r1_a1))
  have F_length_a1 := F_length_a1.other W (Or.inl (Ne.symm ne_r1_a1))
  have A_r1 : Afi Z h31 r1 .byte n1 (updI (updI (updI ar_r1 4 (nar .byte (((p2.toUInt32 >>> ((24 : Int32) &&& 31).toUInt32).toInt32).toInt8.toInt32))) 5 (nar .byte (((p2.toUInt32 >>> ((16 : Int32) &&& 31).toUInt32).toInt32).toInt8.toInt32))) 6 (nar .byte (((p2.toUInt32 >>> ((8 : Int32) &&& 31).toUInt32).toInt32).toInt8.toInt32))) := A
  have N := Fr.snoc X N g_r1
  have K := K.wr W (Or.inl (List.mem_of_getElem? (i := 1) rfl))
  have Zs := Nat.le_trans Zs (Keep.of_wr W).1
  refine own_iinc X hx hby d3_32 (x := (8 : Int32)) rfl (by decide) (l' := #[.val (.ref a1), .val (.int p2), .val (.int (0 : Int32))]) rfl 35 rfl ?_
  refine own_goto X hx hby d3_35 8 (by decide) ?_
  refine own_iloadN X hx hby (0 : Int32) d3_8 rfl 9 rfl ?_
  have c9_4 : ¬ (0 : Int32) < (0 : Int32) := by decide
  refine own_if_lt X hx hby d3_9 38 12 (by decide) rfl (fun q => absurd q c9_4) (fun _ => ?_)
  refine own_aloadN X hx hby (.ref a1) d3_12 rfl rfl 13 rfl ?_
  refine own_getF X hx hby hZ hown (host := "") (Or.inl (hw _ (List.mem_of_getElem? (i := 10) rfl))) Via.refl eT F_bytes_a1 d3_13 16 rfl ?_
  intro T13 X eT
  refine own_aloadN X hx hby (.ref a1) d3_16 rfl rfl 17 rfl ?_
  refine own_dup X hx hby d3_17 rfl 18 rfl ?_
  refine own_getF X hx hby hZ hown (host := "") (Or.inl (hw _ (List.mem_of_getElem? (i := 21) rfl))) Via.refl eT F_length_a1 d3_18 21 rfl ?_
  intro T18 X eT
  refine own_dupX1 X hx hby d3_21 rfl rfl 22 rfl ?_
  refine own_iconst X hx hby (1 : Int32) d3_22 rfl 23 rfl ?_
  refine own_iadd X hx hby d3_23 24 rfl ?_
  refine own_top (v' := (.int (8 : Int32))) (congrArg Value.int (by decide)) ?_
  refine own_putF X hx hby hZ hown (host := "") (Or.inl (hw _ (List.mem_of_getElem? (i := 21) rfl))) Via.refl eT F_length_a1 E_a1 (Or.inl (hw _ (List.mem_of_getElem? (i := 22) rfl))) (hw _ (List.mem_of_getElem? (i := 1) rfl)) (ty := .int) (by decide) rfl rfl d3_24 27 rfl ?_
  intro T24 h24 X eT W
  have A_r1 := A_r1.other W ne_r1_a1
  have E_r1 := E_r1.wr W
  have E_a1 := E_a1.wr W
  have F_bytes_a1 := F_bytes_a1.other W (Or.inr (slot_ne (Or.inl (hw _ (List.mem_of_getElem? (i := 11) rfl))) (Or.inl (hw _ (List.mem_of_getElem? (i := 22) rfl))) (by decide) (t := (.array .byte)) (t' := .int) (by decide) (by decide)))
  have F_length_a1 := F_length_a1.same W
  have N := Fr.snoc X N g_a1
  have K := K.wr W (Or.inl (List.mem_of_getElem? (i := 0) rfl))
  have Zs := Nat.le_trans Zs (Keep.of_wr W).1
  refine own_iloadN X hx hby p2 d3_27 rfl 28 rfl ?_
  refine own_iloadN X hx hby (0 : Int32) d3_28 rfl 29 rfl ?_
  refine own_iushr X hx hby d3_29 30 rfl ?_
  refine own_i2b X hx hby d3_30 31 rfl ?_
  refine own_bastore X hx hby hZ eT A_r1 (own_bnd (Nat.lt_of_lt_of_le (by decide) (Nat.not_lt.mp fun q => hk ((own_lt hn (by decide)).mpr q))) (by decide)) d3_31 32 rfl ?_
  intro T31 h31 X eT W A
  have E_r1 := E_r1.wr W
  have E_a1 := E_a1.wr W
  have F_bytes_a1 := F_bytes_a1.other W (Or.inl (Ne.symm ne_r1_a1))
  have F_length_a1 := F_length_a1.other W (Or.inl (Ne.symm ne_r1_a1))
  have A_r1 : Afi Z h31 r1 .byte n1 (updI (updI (updI (updI ar_r1 4 (nar .byte (((p2.toUInt32 >>> ((24 : Int32) &&& 31).toUInt32).toInt32).toInt8.toInt32))) 5 (nar .byte (((p2.toUInt32 >>> ((16 : Int32) &&& 31).toUInt32).toInt32).toInt8.toInt32))) 6 (nar .byte (((p2.toUInt32 >>> ((8 : Int32) &&& 31).toUInt32).toInt32).toInt8.toInt32))) 7 (nar .byte (((p2.toUInt32 >>> ((0 : Int32) &&& 31).toUInt32).toInt32).toInt8.toInt32))) := A
  have N := Fr.snoc X N g_r1
  have K := K.wr W (Or.inl (List.mem_of_getElem? (i := 1) rfl))
  have Zs := Nat.le_trans Zs (Keep.of_wr W).1
  refine own_iinc X hx hby d3_32 (x := (0 : Int32)) rfl (by decide) (l' := #[.val (.ref a1), .val (.int p2), .val (.int (-8 : Int32))]) rfl 35 rfl ?_
  refine own_goto X hx hby d3_35 8 (by decide) ?_
  refine own_iloadN X hx hby (-8 : Int32) d3_8 rfl 9 rfl ?_
  have c9_5 : (-8 : Int32) < (0 : Int32) := by decide
  refine own_if_lt X hx hby d3_9 38 12 (by decide) rfl (fun _ => ?_) (fun q => absurd c9_5 q)
  refine own_ret X hx hby hret hlk d3_38 (by decide) (by decide) ?_
  rw [eT]
  exact ⟨rfl, N, K, E_a1, F_bytes_a1, F_length_a1, A_r1, E_r1⟩
theorem ef_3_4g (a1 : Addr) (p2 : Int32) (m : MethodId) : entryFrame m #[(.ref a1), (.int p2)] 3 = mkF m 0 #[.val (.ref a1), .val (.int p2), .unset] [] := by first | (simp [entryFrame, mkF, argsToLocals, Value.category]; done) | rfl
def Q3_4g (Z : State) (a1 : Addr) (p2 : Int32) (r1 : Addr) (ar_r1 : Nat → Int32) (n1 : Nat) (h0 : Heap) (n0 : Nat) (v : Option Value) (h : Heap) (L : List Loc) : Prop := ∃ (b2b35b15 : Addr), v = none ∧ Fr n0 L ∧ Keep h0 h [a1] ∧ h0.size ≤ b2b35b15 ∧ Exa Z h a1 "com/example/daylily/daylily/engine/ByteWriter" ∧ Fld Z h a1 "com/example/daylily/daylily/engine/ByteWriter" "bytes" "[B" (.ref b2b35b15) ∧ Fld Z h a1 "com/example/daylily/daylily/engine/ByteWriter" "length" "I" (.int (8 : Int32)) ∧ Afi Z h b2b35b15 .byte (Int32.toNatClampNeg (f5 ((2 : Int32) * (Int32.ofNat n1)) (8 : Int32))) (updI (updI (updI (updI (own_cp ar_r1 (Int32.toNatClampNeg (f7 (Int32.ofNat n1) (f5 ((2 : Int32) * (Int32.ofNat n1)) (8 : Int32))))) 4 (nar .byte (((p2.toUInt32 >>> ((24 : Int32) &&& 31).toUInt32).toInt32).toInt8.toInt32))) 5 (nar .byte (((p2.toUInt32 >>> ((16 : Int32) &&& 31).toUInt32).toInt32).toInt8.toInt32))) 6 (nar .byte (((p2.toUInt32 >>> ((8 : Int32) &&& 31).toUInt32).toInt32).toInt8.toInt32))) 7 (nar .byte (((p2.toUInt32 >>> ((0 : Int32) &&& 31).toUInt32).toInt32).toInt8.toInt32))) ∧ Exa Z h b2b35b15 "[B"
set_option maxRecDepth 65536 in
set_option maxHeartbeats 40000000 in
theorem rm3_4g (l : Launch) (Z : State) (a0 : Array Value) (hw : ∀ d ∈ tables_1, d.before a0 Z = true) (a1 : Addr) (p2 : Int32) (r1 : Addr) (ar_r1 : Nat → Int32) (n1 : Nat) (h0 : Heap) (n0 : Nat) (Zs : n0 ≤ h0.size) (hk : (Int32.ofNat n1) < (8 : Int32)) (hn : n1 < 8) (A_r1 : Afi Z h0 r1 .byte n1 ar_r1) (E_r1 : Exa Z h0 r1 "[B") (g_r1 : n0 ≤ r1) (E_a1 : Exa Z h0 a1 "com/example/daylily/daylily/engine/ByteWriter") (F_bytes_a1 : Fld Z h0 a1 "com/example/daylily/daylily/engine/ByteWriter" "bytes" "[B" (.ref r1)) (F_length_a1 : Fld Z h0 a1 "com/example/daylily/daylily/engine/ByteWriter" "length" "I" (.int (4 : Int32))) (g_a1 : n0 ≤ a1) :
    Met1 l Z (⟨"com/example/daylily/daylily/engine/ByteWriter", "writeInt", "(I)V"⟩ : MethodName) prog_10_method_7_code 3 none ({ frames := 3, cells := 1, slots := 15, locals := 46 } : Room) #[(.ref a1), (.int p2)] h0 (Q3_4g Z a1 p2 r1 ar_r1 n1 h0 n0) := by
  refine own_met_of (plainFor_of_name pn_1) (ef_3_4g a1 p2) ?_
  intro p e s m below meth c s₁ X hx hby hml hZ hown hnm hret hlk eT
  have hown : s.vm.findClass "com/example/daylily/daylily/engine/ByteWriter" = some m.cls := hown
  have N := Fr.nil n0
  have K := Keep.refl h0 [a1]
  have ne_r1_a1 : r1 ≠ a1 := ne_exa E_r1 E_a1 (by decide)
  refine own_aloadN X hx hby (.ref a1) d3_0 rfl rfl 1 rfl ?_
  refine own_iconst X hx hby (4 : Int32) d3_1 rfl 2 rfl ?_
  refine own_callP X hx hby hZ (st := []) [(.int (4 : Int32))] rfl hown (hw _ (List.mem_of_getElem? (i := 17) rfl)) (hw _ (List.mem_of_getElem? (i := 18) rfl)) (hw _ (List.mem_of_getElem? (i := 1) rfl)) (hw _ (List.mem_of_getElem? (i := 19) rfl)) (hw _ (List.mem_of_getElem? (i := 2) rfl)) (hw _ (List.mem_of_getElem? (i := 20) rfl)) E_a1 (by decide) d3_2 (rm4_4g l Z a0 hw a1 r1 ar_r1 n1 h0 n0 Zs hk hn A_r1 E_r1 E_a1 F_bytes_a1 F_length_a1 g_a1) eT pd_4 rfl (by rw [hml]; rfl) (by decide) 0 rfl (by decide) (by decide) (by decide) 5 rfl ?_
  intro T2 L9 v9 X hQ
  obtain ⟨h2, eT⟩ : ∃ z, T2.heap = z := ⟨_, rfl⟩
  rw [eT] at hQ
  have lt_a1 := E_a1.lt
  have lt_r1 := A_r1.lt
  obtain ⟨b2b35b15, rfl, N9, Kc, hs_b2b35b15, E_a1, F_bytes_a1, F_length_a1, A_b2b35b15, E_b2b35b15⟩ := hQ
  have g_b2b35b15 : n0 ≤ b2b35b15 := Nat.le_trans Zs hs_b2b35b15
  have sz_b2b35b15 : h0.size ≤ b2b35b15 := Nat.le_trans K.1 hs_b2b35b15
  have ne_a1_b2b35b15 : a1 ≠ b2b35b15 := Nat.ne_of_lt (Nat.lt_of_lt_of_le lt_a1 hs_b2b35b15)
  have ne_r1_b2b35b15 : r1 ≠ b2b35b15 := Nat.ne_of_lt (Nat.lt_of_lt_of_le lt_r1 hs_b2b35b15)
  have A_r1 := A_r1.keep Kc (ninS ne_r1_a1 nin0)
  have E_r1 := E_r1.keep Kc
  have K := K.trans Kc (allS (Or.inl (List.mem_of_getElem? (i := 0) rfl)) all0)
  have Zs := Nat.le_trans Zs Kc.1
  have N := Fr.app N N9
  show Go p e below _ T2 (mkF m 5 #[.val (.ref a1), .val (.int p2), .unset] [])
  refine own_bipush X hx hby (24 : Int32) d3_5 rfl 7 rfl ?_
  refine own_istoreN X hx hby d3_7 rfl (l' := #[.val (.ref a1), .val (.int p2), .val (.int (24 : Int32))]) rfl 8 rfl ?_
  refine own_iloadN X hx hby (24 : Int32) d3_8 rfl 9 rfl ?_
  have c9 : ¬ (24 : Int32) < (0 : Int32) := by decide
  refine own_if_lt X hx hby d3_9 38 12 (by decide) rfl (fun q => absurd q c9) (fun _ => ?_)
  refine own_aloadN X hx hby (.ref a1) d3_12 rfl rfl 13 rfl ?_
  refine own_getF X hx hby hZ hown (host := "") (Or.inl (hw _ (List.mem_of_getElem? (i := 10) rfl))) Via.refl eT F_bytes_a1 d3_13 16 rfl ?_
  intro T13 X eT
  refine own_aloadN X hx hby (.ref a1) d3_16 rfl rfl 17 rfl ?_
  refine own_dup X hx hby d3_17 rfl 18 rfl ?_
  refine own_getF X hx hby hZ hown (host := "") (Or.inl (hw _ (List.mem_of_getElem? (i := 21) rfl))) Via.refl eT F_length_a1 d3_18 21 rfl ?_
  intro T18 X eT
  refine own_dupX1 X hx hby d3_21 rfl rfl 22 rfl ?_
  refine own_iconst X hx hby (1 : Int32) d3_22 rfl 23 rfl ?_
  refine own_iadd X hx hby d3_23 24 rfl ?_
  refine own_top (v' := (.int (5 : Int32))) (congrArg Value.int (by decide)) ?_
  refine own_putF X hx hby hZ hown (host := "") (Or.inl (hw _ (List.mem_of_getElem? (i := 21) rfl))) Via.refl eT F_length_a1 E_a1 (Or.inl (hw _ (List.mem_of_getElem? (i := 22) rfl))) (hw _ (List.mem_of_getElem? (i := 1) rfl)) (ty := .int) (by decide) rfl rfl d3_24 27 rfl ?_
  intro T24 h24 X eT W
  have A_r1 := A_r1.other W ne_r1_a1
  have E_r1 := E_r1.wr W
  have E_a1 := E_a1.wr W
  have F_bytes_a1 := F_bytes_a1.other W (Or.inr (slot_ne (Or.inl (hw _ (List.mem_of_getElem? (i := 11) rfl))) (Or.inl (hw _ (List.mem_of_getElem? (i := 22) rfl))) (by decide) (t := (.array .byte)) (t' := .int) (by decide) (by decide)))
  have F_length_a1 := F_length_a1.same W
  have A_b2b35b15 := A_b2b35b15.other W (Ne.symm ne_a1_b2b35b15)
  have E_b2b35b15 := E_b2b35b15.wr W
  have N := Fr.snoc X N g_a1
  have K := K.wr W (Or.inl (List.mem_of_getElem? (i := 0) rfl))
  have Zs := Nat.le_trans Zs (Keep.of_wr W).1
  refine own_iloadN X hx hby p2 d3_27 rfl 28 rfl ?_
  refine own_iloadN X hx hby (24 : Int32) d3_28 rfl 29 rfl ?_
  refine own_iushr X hx hby d3_29 30 rfl ?_
  refine own_i2b X hx hby d3_30 31 rfl ?_
  refine own_bastore X hx hby hZ eT A_b2b35b15 (own_bnd (Nat.lt_of_lt_of_le (by decide) (own_g3 8 hn (by decide)).1) (by decide)) d3_31 32 rfl ?_
  intro T31 h31 X eT W A
  have A_r1 := A_r1.other W ne_r1_b2b35b15
  have E_r1 := E_r1.wr W
  have E_a1 := E_a1.wr W
  have F_bytes_a1 := F_bytes_a1.other W (Or.inl ne_a1_b2b35b15)
  have F_length_a1 := F_length_a1.other W (Or.inl ne_a1_b2b35b15)
  have E_b2b35b15 := E_b2b35b15.wr W
  have A_b2b35b15 : Afi Z h31 b2b35b15 .byte (Int32.toNatClampNeg (f5 ((2 : Int32) * (Int32.ofNat n1)) (8 : Int32))) (updI (own_cp ar_r1 (Int32.toNatClampNeg (f7 (Int32.ofNat n1) (f5 ((2 : Int32) * (Int32.ofNat n1)) (8 : Int32))))) 4 (nar .byte (((p2.toUInt32 >>> ((24 : Int32) &&& 31).toUInt32).toInt32).toInt8.toInt32))) := A
  have N := Fr.snoc X N g_b2b35b15
  have K := K.wr W (Or.inr sz_b2b35b15)
  have Zs := Nat.le_trans Zs (Keep.of_wr W).1
  refine own_iinc X hx hby d3_32 (x := (24 : Int32)) rfl (by decide) (l' := #[.val (.ref a1), .val (.int p2), .val (.int (16 : Int32))]) rfl 35 rfl ?_
  refine own_goto X hx hby d3_35 8 (by decide) ?_
  refine own_iloadN X hx hby (16 : Int32) d3_8 rfl 9 rfl ?_
  have c9_2 : ¬ (16 : Int32) < (0 : Int32) := by decide
  refine own_if_lt X hx hby d3_9 38 12 (by decide) rfl (fun q => absurd q c9_2) (fun _ => ?_)
  refine own_aloadN X hx hby (.ref a1) d3_12 rfl rfl 13 rfl ?_
  refine own_getF X hx hby hZ hown (host := "") (Or.inl (hw _ (List.mem_of_getElem? (i := 10) rfl))) Via.refl eT F_bytes_a1 d3_13 16 rfl ?_
  intro T13 X eT
  refine own_aloadN X hx hby (.ref a1) d3_16 rfl rfl 17 rfl ?_
  refine own_dup X hx hby d3_17 rfl 18 rfl ?_
  refine own_getF X hx hby hZ hown (host := "") (Or.inl (hw _ (List.mem_of_getElem? (i := 21) rfl))) Via.refl eT F_length_a1 d3_18 21 rfl ?_
  intro T18 X eT
  refine own_dupX1 X hx hby d3_21 rfl rfl 22 rfl ?_
  refine own_iconst X hx hby (1 : Int32) d3_22 rfl 23 rfl ?_
  refine own_iadd X hx hby d3_23 24 rfl ?_
  refine own_top (v' := (.int (6 : Int32))) (congrArg Value.int (by decide)) ?_
  refine own_putF X hx hby hZ hown (host := "") (Or.inl (hw _ (List.mem_of_getElem? (i := 21) rfl))) Via.refl eT F_length_a1 E_a1 (Or.inl (hw _ (List.mem_of_getElem? (i := 22) rfl))) (hw _ (List.mem_of_getElem? (i := 1) rfl)) (ty := .int) (by decide) rfl rfl d3_24 27 rfl ?_
  intro T24 h24 X eT W
  have A_r1 := A_r1.other W ne_r1_a1
  have E_r1 := E_r1.wr W
  have E_a1 := E_a1.wr W
  have F_bytes_a1 := F_bytes_a1.other W (Or.inr (slot_ne (Or.inl (hw _ (List.mem_of_getElem? (i := 11) rfl))) (Or.inl (hw _ (List.mem_of_getElem? (i := 22) rfl))) (by decide) (t := (.array .byte)) (t' := .int) (by decide) (by decide)))
  have F_length_a1 := F_length_a1.same W
  have A_b2b35b15 := A_b2b35b15.other W (Ne.symm ne_a1_b2b35b15)
  have E_b2b35b15 := E_b2b35b15.wr W
  have N := Fr.snoc X N g_a1
  have K := K.wr W (Or.inl (List.mem_of_getElem? (i := 0) rfl))
  have Zs := Nat.le_trans Zs (Keep.of_wr W).1
  refine own_iloadN X hx hby p2 d3_27 rfl 28 rfl ?_
  refine own_iloadN X hx hby (16 : Int32) d3_28 rfl 29 rfl ?_
  refine own_iushr X hx hby d3_29 30 rfl ?_
  refine own_i2b X hx hby d3_30 31 rfl ?_
  refine own_bastore X hx hby hZ eT A_b2b35b15 (own_bnd (Nat.lt_of_lt_of_le (by decide) (own_g3 8 hn (by decide)).1) (by decide)) d3_31 32 rfl ?_
  intro T31 h31 X eT W A
  have A_r1 := A_r1.other W ne_r1_b2b35b15
  have E_r1 := E_r1.wr W
  have E_a1 := E_a1.wr W
  have F_bytes_a1 := F_bytes_a1.other W (Or.inl ne_a1_b2b35b15)
  have F_length_a1 := F_length_a1.other W (Or.inl ne_a1_b2b35b15)
  have E_b2b35b15 := E_b2b35b15.wr W
  have A_b2b35b15 : Afi Z h31 b2b35b15 .byte (Int32.toNatClampNeg (f5 ((2 : Int32) * (Int32.ofNat n1)) (8 : Int32))) (updI (updI (own_cp ar_r1 (Int32.toNatClampNeg (f7 (Int32.ofNat n1) (f5 ((2 : Int32) * (Int32.ofNat n1)) (8 : Int32))))) 4 (nar .byte (((p2.toUInt32 >>> ((24 : Int32) &&& 31).toUInt32).toInt32).toInt8.toInt32))) 5 (nar .byte (((p2.toUInt32 >>> ((16 : Int32) &&& 31).toUInt32).toInt32).toInt8.toInt32))) := A
  have N := Fr.snoc X N g_b2b35b15
  have K := K.wr W (Or.inr sz_b2b35b15)
  have Zs := Nat.le_trans Zs (Keep.of_wr W).1
  refine own_iinc X hx hby d3_32 (x := (16 : Int32)) rfl (by decide) (l' := #[.val (.ref a1), .val (.int p2), .val (.int (8 : Int32))]) rfl 35 rfl ?_
  refine own_goto X hx hby d3_35 8 (by decide) ?_
  refine own_iloadN X hx hby (8 : Int32) d3_8 rfl 9 rfl ?_
  have c9_3 : ¬ (8 : Int32) < (0 : Int32) := by decide
  refine own_if_lt X hx hby d3_9 38 12 (by decide) rfl (fun q => absurd q c9_3) (fun _ => ?_)
  refine own_aloadN X hx hby (.ref a1) d3_12 rfl rfl 13 rfl ?_
  refine own_getF X hx hby hZ hown (host := "") (Or.inl (hw _ (List.mem_of_getElem? (i := 10) rfl))) Via.refl eT F_bytes_a1 d3_13 16 rfl ?_
  intro T13 X eT
  refine own_aloadN X hx hby (.ref a1) d3_16 rfl rfl 17 rfl ?_
  refine own_dup X hx hby d3_17 rfl 18 rfl ?_
  refine own_getF X hx hby hZ hown (host := "") (Or.inl (hw _ (List.mem_of_getElem? (i := 21) rfl))) Via.refl eT F_length_a1 d3_18 21 rfl ?_
  intro T18 X eT
  refine own_dupX1 X hx hby d3_21 rfl rfl 22 rfl ?_
  refine own_iconst X hx hby (1 : Int32) d3_22 rfl 23 rfl ?_
  refine own_iadd X hx hby d3_23 24 rfl ?_
  refine own_top (v' := (.int (7 : Int32))) (congrArg Value.int (by decide)) ?_
  refine own_putF X hx hby hZ hown (host := "") (Or.inl (hw _ (List.mem_of_getElem? (i := 21) rfl))) Via.refl eT F_length_a1 E_a1 (Or.inl (hw _ (List.mem_of_getElem? (i := 22) rfl))) (hw _ (List.mem_of_getElem? (i := 1) rfl)) (ty := .int) (by decide) rfl rfl d3_24 27 rfl ?_
  intro T24 h24 X eT W
  have A_r1 := A_r1.other W ne_r1_a1
  have E_r1 := E_r1.wr W
  have E_a1 := E_a1.wr W
  have F_bytes_a1 := F_bytes_a1.other W (Or.inr (slot_ne (Or.inl (hw _ (List.mem_of_getElem? (i := 11) rfl))) (Or.inl (hw _ (List.mem_of_getElem? (i := 22) rfl))) (by decide) (t := (.array .byte)) (t' := .int) (by decide) (by decide)))
  have F_length_a1 := F_length_a1.same W
  have A_b2b35b15 := A_b2b35b15.other W (Ne.symm ne_a1_b2b35b15)
  have E_b2b35b15 := E_b2b35b15.wr W
  have N := Fr.snoc X N g_a1
  have K := K.wr W (Or.inl (List.mem_of_getElem? (i := 0) rfl))
  have Zs := Nat.le_trans Zs (Keep.of_wr W).1
  refine own_iloadN X hx hby p2 d3_27 rfl 28 rfl ?_
  refine own_iloadN X hx hby (8 : Int32) d3_28 rfl 29 rfl ?_
  refine own_iushr X hx hby d3_29 30 rfl ?_
  refine own_i2b X hx hby d3_30 31 rfl ?_
  refine own_bastore X hx hby hZ eT A_b2b35b15 (own_bnd (Nat.lt_of_lt_of_le (by decide) (own_g3 8 hn (by decide)).1) (by decide)) d3_31 32 rfl ?_
  intro T31 h31 X eT W A
  have A_r1 := A_r1.other W ne_r1_b2b35b15
  have E_r1 := E_r1.wr W
  have E_a1 := E_a1.wr W
  have F_bytes_a1 := F_bytes_a1.other W (Or.inl ne_a1_b2b35b15)
  have F_length_a1 := F_length_a1.other W (Or.inl ne_a1_b2b35b15)
  have E_b2b35b15 := E_b2b35b15.wr W
  have A_b2b35b15 : Afi Z h31 b2b35b15 .byte (Int32.toNatClampNeg (f5 ((2 : Int32) * (Int32.ofNat n1)) (8 : Int32))) (updI (updI (updI (own_cp ar_r1 (Int32.toNatClampNeg (f7 (Int32.ofNat n1) (f5 ((2 : Int32) * (Int32.ofNat n1)) (8 : Int32))))) 4 (nar .byte (((p2.toUInt32 >>> ((24 : Int32) &&& 31).toUInt32).toInt32).toInt8.toInt32))) 5 (nar .byte (((p2.toUInt32 >>> ((16 : Int32) &&& 31).toUInt32).toInt32).toInt8.toInt32))) 6 (nar .byte (((p2.toUInt32 >>> ((8 : Int32) &&& 31).toUInt32).toInt32).toInt8.toInt32))) := A
  have N := Fr.snoc X N g_b2b35b15
  have K := K.wr W (Or.inr sz_b2b35b15)
  have Zs := Nat.le_trans Zs (Keep.of_wr W).1
  refine own_iinc X hx hby d3_32 (x := (8 : Int32)) rfl (by decide) (l' := #[.val (.ref a1), .val (.int p2), .val (.int (0 : Int32))]) rfl 35 rfl ?_
  refine own_goto X hx hby d3_35 8 (by decide) ?_
  refine own_iloadN X hx hby (0 : Int32) d3_8 rfl 9 rfl ?_
  have c9_4 : ¬ (0 : Int32) < (0 : Int32) := by decide
  refine own_if_lt X hx hby d3_9 38 12 (by decide) rfl (fun q => absurd q c9_4) (fun _ => ?_)
  refine own_aloadN X hx hby (.ref a1) d3_12 rfl rfl 13 rfl ?_
  refine own_getF X hx hby hZ hown (host := "") (Or.inl (hw _ (List.mem_of_getElem? (i := 10) rfl))) Via.refl eT F_bytes_a1 d3_13 16 rfl ?_
  intro T13 X eT
  refine own_aloadN X hx hby (.ref a1) d3_16 rfl rfl 17 rfl ?_
  refine own_dup X hx hby d3_17 rfl 18 rfl ?_
  refine own_getF X hx hby hZ hown (host := "") (Or.inl (hw _ (List.mem_of_getElem? (i := 21) rfl))) Via.refl eT F_length_a1 d3_18 21 rfl ?_
  intro T18 X eT
  refine own_dupX1 X hx hby d3_21 rfl rfl 22 rfl ?_
  refine own_iconst X hx hby (1 : Int32) d3_22 rfl 23 rfl ?_
  refine own_iadd X hx hby d3_23 24 rfl ?_
  refine own_top (v' := (.int (8 : Int32))) (congrArg Value.int (by decide)) ?_
  refine own_putF X hx hby hZ hown (host := "") (Or.inl (hw _ (List.mem_of_getElem? (i := 21) rfl))) Via.refl eT F_length_a1 E_a1 (Or.inl (hw _ (List.mem_of_getElem? (i := 22) rfl))) (hw _ (List.mem_of_getElem? (i := 1) rfl)) (ty := .int) (by decide) rfl rfl d3_24 27 rfl ?_
  intro T24 h24 X eT W
  have A_r1 := A_r1.other W ne_r1_a1
  have E_r1 := E_r1.wr W
  have E_a1 := E_a1.wr W
  have F_bytes_a1 := F_bytes_a1.other W (Or.inr (slot_ne (Or.inl (hw _ (List.mem_of_getElem? (i := 11) rfl))) (Or.inl (hw _ (List.mem_of_getElem? (i := 22) rfl))) (by decide) (t := (.array .byte)) (t' := .int) (by decide) (by decide)))
  have F_length_a1 := F_length_a1.same W
  have A_b2b35b15 := A_b2b35b15.other W (Ne.symm ne_a1_b2b35b15)
  have E_b2b35b15 := E_b2b35b15.wr W
  have N := Fr.snoc X N g_a1
  have K := K.wr W (Or.inl (List.mem_of_getElem? (i := 0) rfl))
  have Zs := Nat.le_trans Zs (Keep.of_wr W).1
  refine own_iloadN X hx hby p2 d3_27 rfl 28 rfl ?_
  refine own_iloadN X hx hby (0 : Int32) d3_28 rfl 29 rfl ?_
  refine own_iushr X hx hby d3_29 30 rfl ?_
  refine own_i2b X hx hby d3_30 31 rfl ?_
  refine own_bastore X hx hby hZ eT A_b2b35b15 (own_bnd (Nat.lt_of_lt_of_le (by decide) (own_g3 8 hn (by decide)).1) (by decide)) d3_31 32 rfl ?_
  intro T31 h31 X eT W A
  have A_r1 := A_r1.other W ne_r1_b2b35b15
  have E_r1 := E_r1.wr W
  have E_a1 := E_a1.wr W
  have F_bytes_a1 := F_bytes_a1.other W (Or.inl ne_a1_b2b35b15)
  have F_length_a1 := F_length_a1.other W (Or.inl ne_a1_b2b35b15)
  have E_b2b35b15 := E_b2b35b15.wr W
  have A_b2b35b15 : Afi Z h31 b2b35b15 .byte (Int32.toNatClampNeg (f5 ((2 : Int32) * (Int32.ofNat n1)) (8 : Int32))) (updI (updI (updI (updI (own_cp ar_r1 (Int32.toNatClampNeg (f7 (Int32.ofNat n1) (f5 ((2 : Int32) * (Int32.ofNat n1)) (8 : Int32))))) 4 (nar .byte (((p2.toUInt32 >>> ((24 : Int32) &&& 31).toUInt32).toInt32).toInt8.toInt32))) 5 (nar .byte (((p2.toUInt32 >>> ((16 : Int32) &&& 31).toUInt32).toInt32).toInt8.toInt32))) 6 (nar .byte (((p2.toUInt32 >>> ((8 : Int32) &&& 31).toUInt32).toInt32).toInt8.toInt32))) 7 (nar .byte (((p2.toUInt32 >>> ((0 : Int32) &&& 31).toUInt32).toInt32).toInt8.toInt32))) := A
  have N := Fr.snoc X N g_b2b35b15
  have K := K.wr W (Or.inr sz_b2b35b15)
  have Zs := Nat.le_trans Zs (Keep.of_wr W).1
  refine own_iinc X hx hby d3_32 (x := (0 : Int32)) rfl (by decide) (l' := #[.val (.ref a1), .val (.int p2), .val (.int (-8 : Int32))]) rfl 35 rfl ?_
  refine own_goto X hx hby d3_35 8 (by decide) ?_
  refine own_iloadN X hx hby (-8 : Int32) d3_8 rfl 9 rfl ?_
  have c9_5 : (-8 : Int32) < (0 : Int32) := by decide
  refine own_if_lt X hx hby d3_9 38 12 (by decide) rfl (fun _ => ?_) (fun q => absurd c9_5 q)
  refine own_ret X hx hby hret hlk d3_38 (by decide) (by decide) ?_
  rw [eT]
  exact ⟨b2b35b15, rfl, N, K, sz_b2b35b15, E_a1, F_bytes_a1, F_length_a1, A_b2b35b15, E_b2b35b15⟩
theorem ef_8_0 (a1 : Addr) (p3 : Int32) (m : MethodId) : entryFrame m #[(.ref a1), (.int (0 : Int32)), (.int p3)] 5 = mkF m 0 #[.val (.ref a1), .val (.int (0 : Int32)), .val (.int p3), .unset, .unset] [] := by first | (simp [entryFrame, mkF, argsToLocals, Value.category]; done) | rfl
def Q8_0 (Z : State) (a1 : Addr) (p3 : Int32) (r1 : Addr) (ar_r1 : Nat → Int32) (n1 : Nat) (w_length_a1 : Int32) (h0 : Heap) (n0 : Nat) (v : Option Value) (h : Heap) (L : List Loc) : Prop := v = none ∧ Fr n0 L ∧ Keep h0 h [r1] ∧ Afi Z h r1 .byte n1 (updI (updI (updI (updI ar_r1 0 (nar .byte (((p3.toUInt32 >>> ((24 : Int32) &&& 31).toUInt32).toInt32).toInt8.toInt32))) 1 (nar .byte (((p3.toUInt32 >>> ((16 : Int32) &&& 31).toUInt32).toInt32).toInt8.toInt32))) 2 (nar .byte (((p3.toUInt32 >>> ((8 : Int32) &&& 31).toUInt32).toInt32).toInt8.toInt32))) 3 (nar .byte (((p3.toUInt32 >>> ((0 : Int32) &&& 31).toUInt32).toInt32).toInt8.toInt32))) ∧ Exa Z h r1 "[B"
set_option maxRecDepth 65536 in
set_option maxHeartbeats 40000000 in
theorem rm8_0 (l : Launch) (Z : State) (a0 : Array Value) (hw : ∀ d ∈ tables_1, d.before a0 Z = true) (a1 : Addr) (p3 : Int32) (r1 : Addr) (ar_r1 : Nat → Int32) (n1 : Nat) (w_length_a1 : Int32) (h0 : Heap) (n0 : Nat) (Zs : n0 ≤ h0.size) (hn8 : 8 ≤ n1) (A_r1 : Afi Z h0 r1 .byte n1 ar_r1) (E_r1 : Exa Z h0 r1 "[B") (g_r1 : n0 ≤ r1) (E_a1 : Exa Z h0 a1 "com/example/daylily/daylily/engine/ByteWriter") (F_bytes_a1 : Fld Z h0 a1 "com/example/daylily/daylily/engine/ByteWriter" "bytes" "[B" (.ref r1)) (F_length_a1 : Fld Z h0 a1 "com/example/daylily/daylily/engine/ByteWriter" "length" "I" (.int w_length_a1)) (g_a1 : n0 ≤ a1) :
    Met1 l Z (⟨"com/example/daylily/daylily/engine/ByteWriter", "setInt", "(II)V"⟩ : MethodName) prog_10_method_13_code 5 none ({ frames := 0, cells := 0, slots := 0, locals := 0 } : Room) #[(.ref a1), (.int (0 : Int32)), (.int p3)] h0 (Q8_0 Z a1 p3 r1 ar_r1 n1 w_length_a1 h0 n0) := by
  refine own_met_of (plainFor_of_name pn_1) (ef_8_0 a1 p3) ?_
  intro p e s m below meth c s₁ X hx hby hml hZ hown hnm hret hlk eT
  have hown : s.vm.findClass "com/example/daylily/daylily/engine/ByteWriter" = some m.cls := hown
  have N := Fr.nil n0
  have K := Keep.refl h0 [r1]
  have ne_r1_a1 : r1 ≠ a1 := ne_exa E_r1 E_a1 (by decide)
  refine own_bipush X hx hby (24 : Int32) d8_0 rfl 2 rfl ?_
  refine own_istoreN X hx hby d8_2 rfl (l' := #[.val (.ref a1), .val (.int (0 : Int32)), .val (.int p3), .val (.int (24 : Int32)), .unset]) rfl 3 rfl ?_
  refine own_iloadN X hx hby (0 : Int32) d8_3 rfl 4 rfl ?_
  refine own_istore X hx hby d8_4 rfl (l' := #[.val (.ref a1), .val (.int (0 : Int32)), .val (.int p3), .val (.int (24 : Int32)), .val (.int (0 : Int32))]) rfl 6 rfl ?_
  refine own_iloadN X hx hby (24 : Int32) d8_6 rfl 7 rfl ?_
  have c7 : ¬ (24 : Int32) < (0 : Int32) := by decide
  refine own_if_lt X hx hby d8_7 30 10 (by decide) rfl (fun q => absurd q c7) (fun _ => ?_)
  refine own_aloadN X hx hby (.ref a1) d8_10 rfl rfl 11 rfl ?_
  refine own_getF X hx hby hZ hown (host := "") (Or.inl (hw _ (List.mem_of_getElem? (i := 10) rfl))) Via.refl eT F_bytes_a1 d8_11 14 rfl ?_
  intro T11 X eT
  refine own_iload X hx hby (0 : Int32) d8_14 rfl 16 rfl ?_
  refine own_iinc X hx hby d8_16 (x := (0 : Int32)) rfl (by decide) (l' := #[.val (.ref a1), .val (.int (0 : Int32)), .val (.int p3), .val (.int (24 : Int32)), .val (.int (1 : Int32))]) rfl 19 rfl ?_
  refine own_iloadN X hx hby p3 d8_19 rfl 20 rfl ?_
  refine own_iloadN X hx hby (24 : Int32) d8_20 rfl 21 rfl ?_
  refine own_iushr X hx hby d8_21 22 rfl ?_
  refine own_i2b X hx hby d8_22 23 rfl ?_
  refine own_bastore X hx hby hZ eT A_r1 (own_bnd (Nat.lt_of_lt_of_le (by decide) hn8) (by decide)) d8_23 24 rfl ?_
  intro T23 h23 X eT W A
  have E_r1 := E_r1.wr W
  have E_a1 := E_a1.wr W
  have F_bytes_a1 := F_bytes_a1.other W (Or.inl (Ne.symm ne_r1_a1))
  have F_length_a1 := F_length_a1.other W (Or.inl (Ne.symm ne_r1_a1))
  have A_r1 : Afi Z h23 r1 .byte n1 (updI ar_r1 0 (nar .byte (((p3.toUInt32 >>> ((24 : Int32) &&& 31).toUInt32).toInt32).toInt8.toInt32))) := A
  have N := Fr.snoc X N g_r1
  have K := K.wr W (Or.inl (List.mem_of_getElem? (i := 0) rfl))
  have Zs := Nat.le_trans Zs (Keep.of_wr W).1
  refine own_iinc X hx hby d8_24 (x := (24 : Int32)) rfl (by decide) (l' := #[.val (.ref a1), .val (.int (0 : Int32)), .val (.int p3), .val (.int (16 : Int32)), .val (.int (1 : Int32))]) rfl 27 rfl ?_
  refine own_goto X hx hby d8_27 6 (by decide) ?_
  refine own_iloadN X hx hby (16 : Int32) d8_6 rfl 7 rfl ?_
  have c7_2 : ¬ (16 : Int32) < (0 : Int32) := by decide
  refine own_if_lt X hx hby d8_7 30 10 (by decide) rfl (fun q => absurd q c7_2) (fun _ => ?_)
  refine own_aloadN X hx hby (.ref a1) d8_10 rfl rfl 11 rfl ?_
  refine own_getF X hx hby hZ hown (host := "") (Or.inl (hw _ (List.mem_of_getElem? (i := 10) rfl))) Via.refl eT F_bytes_a1 d8_11 14 rfl ?_
  intro T11 X eT
  refine own_iload X hx hby (1 : Int32) d8_14 rfl 16 rfl ?_
  refine own_iinc X hx hby d8_16 (x := (1 : Int32)) rfl (by decide) (l' := #[.val (.ref a1), .val (.int (0 : Int32)), .val (.int p3), .val (.int (16 : Int32)), .val (.int (2 : Int32))]) rfl 19 rfl ?_
  refine own_iloadN X hx hby p3 d8_19 rfl 20 rfl ?_
  refine own_iloadN X hx hby (16 : Int32) d8_20 rfl 21 rfl ?_
  refine own_iushr X hx hby d8_21 22 rfl ?_
  refine own_i2b X hx hby d8_22 23 rfl ?_
  refine own_bastore X hx hby hZ eT A_r1 (own_bnd (Nat.lt_of_lt_of_le (by decide) hn8) (by decide)) d8_23 24 rfl ?_
  intro T23 h23 X eT W A
  have E_r1 := E_r1.wr W
  have E_a1 := E_a1.wr W
  have F_bytes_a1 := F_bytes_a1.other W (Or.inl (Ne.symm ne_r1_a1))
  have F_length_a1 := F_length_a1.other W (Or.inl (Ne.symm ne_r1_a1))
  have A_r1 : Afi Z h23 r1 .byte n1 (updI (updI ar_r1 0 (nar .byte (((p3.toUInt32 >>> ((24 : Int32) &&& 31).toUInt32).toInt32).toInt8.toInt32))) 1 (nar .byte (((p3.toUInt32 >>> ((16 : Int32) &&& 31).toUInt32).toInt32).toInt8.toInt32))) := A
  have N := Fr.snoc X N g_r1
  have K := K.wr W (Or.inl (List.mem_of_getElem? (i := 0) rfl))
  have Zs := Nat.le_trans Zs (Keep.of_wr W).1
  refine own_iinc X hx hby d8_24 (x := (16 : Int32)) rfl (by decide) (l' := #[.val (.ref a1), .val (.int (0 : Int32)), .val (.int p3), .val (.int (8 : Int32)), .val (.int (2 : Int32))]) rfl 27 rfl ?_
  refine own_goto X hx hby d8_27 6 (by decide) ?_
  refine own_iloadN X hx hby (8 : Int32) d8_6 rfl 7 rfl ?_
  have c7_3 : ¬ (8 : Int32) < (0 : Int32) := by decide
  refine own_if_lt X hx hby d8_7 30 10 (by decide) rfl (fun q => absurd q c7_3) (fun _ => ?_)
  refine own_aloadN X hx hby (.ref a1) d8_10 rfl rfl 11 rfl ?_
  refine own_getF X hx hby hZ hown (host := "") (Or.inl (hw _ (List.mem_of_getElem? (i := 10) rfl))) Via.refl eT F_bytes_a1 d8_11 14 rfl ?_
  intro T11 X eT
  refine own_iload X hx hby (2 : Int32) d8_14 rfl 16 rfl ?_
  refine own_iinc X hx hby d8_16 (x := (2 : Int32)) rfl (by decide) (l' := #[.val (.ref a1), .val (.int (0 : Int32)), .val (.int p3), .val (.int (8 : Int32)), .val (.int (3 : Int32))]) rfl 19 rfl ?_
  refine own_iloadN X hx hby p3 d8_19 rfl 20 rfl ?_
  refine own_iloadN X hx hby (8 : Int32) d8_20 rfl 21 rfl ?_
  refine own_iushr X hx hby d8_21 22 rfl ?_
  refine own_i2b X hx hby d8_22 23 rfl ?_
  refine own_bastore X hx hby hZ eT A_r1 (own_bnd (Nat.lt_of_lt_of_le (by decide) hn8) (by decide)) d8_23 24 rfl ?_
  intro T23 h23 X eT W A
  have E_r1 := E_r1.wr W
  have E_a1 := E_a1.wr W
  have F_bytes_a1 := F_bytes_a1.other W (Or.inl (Ne.symm ne_r1_a1))
  have F_length_a1 := F_length_a1.other W (Or.inl (Ne.symm ne_r1_a1))
  have A_r1 : Afi Z h23 r1 .byte n1 (updI (updI (updI ar_r1 0 (nar .byte (((p3.toUInt32 >>> ((24 : Int32) &&& 31).toUInt32).toInt32).toInt8.toInt32))) 1 (nar .byte (((p3.toUInt32 >>> ((16 : Int32) &&& 31).toUInt32).toInt32).toInt8.toInt32))) 2 (nar .byte (((p3.toUInt32 >>> ((8 : Int32) &&& 31).toUInt32).toInt32).toInt8.toInt32))) := A
  have N := Fr.snoc X N g_r1
  have K := K.wr W (Or.inl (List.mem_of_getElem? (i := 0) rfl))
  have Zs := Nat.le_trans Zs (Keep.of_wr W).1
  refine own_iinc X hx hby d8_24 (x := (8 : Int32)) rfl (by decide) (l' := #[.val (.ref a1), .val (.int (0 : Int32)), .val (.int p3), .val (.int (0 : Int32)), .val (.int (3 : Int32))]) rfl 27 rfl ?_
  refine own_goto X hx hby d8_27 6 (by decide) ?_
  refine own_iloadN X hx hby (0 : Int32) d8_6 rfl 7 rfl ?_
  have c7_4 : ¬ (0 : Int32) < (0 : Int32) := by decide
  refine own_if_lt X hx hby d8_7 30 10 (by decide) rfl (fun q => absurd q c7_4) (fun _ => ?_)
  refine own_aloadN X hx hby (.ref a1) d8_10 rfl rfl 11 rfl ?_
  refine own_getF X hx hby hZ hown (host := "") (Or.inl (hw _ (List.mem_of_getElem? (i := 10) rfl))) Via.refl eT F_bytes_a1 d8_11 14 rfl ?_
  intro T11 X eT
  refine own_iload X hx hby (3 : Int32) d8_14 rfl 16 rfl ?_
  refine own_iinc X hx hby d8_16 (x := (3 : Int32)) rfl (by decide) (l' := #[.val (.ref a1), .val (.int (0 : Int32)), .val (.int p3), .val (.int (0 : Int32)), .val (.int (4 : Int32))]) rfl 19 rfl ?_
  refine own_iloadN X hx hby p3 d8_19 rfl 20 rfl ?_
  refine own_iloadN X hx hby (0 : Int32) d8_20 rfl 21 rfl ?_
  refine own_iushr X hx hby d8_21 22 rfl ?_
  refine own_i2b X hx hby d8_22 23 rfl ?_
  refine own_bastore X hx hby hZ eT A_r1 (own_bnd (Nat.lt_of_lt_of_le (by decide) hn8) (by decide)) d8_23 24 rfl ?_
  intro T23 h23 X eT W A
  have E_r1 := E_r1.wr W
  have E_a1 := E_a1.wr W
  have F_bytes_a1 := F_bytes_a1.other W (Or.inl (Ne.symm ne_r1_a1))
  have F_length_a1 := F_length_a1.other W (Or.inl (Ne.symm ne_r1_a1))
  have A_r1 : Afi Z h23 r1 .byte n1 (updI (updI (updI (updI ar_r1 0 (nar .byte (((p3.toUInt32 >>> ((24 : Int32) &&& 31).toUInt32).toInt32).toInt8.toInt32))) 1 (nar .byte (((p3.toUInt32 >>> ((16 : Int32) &&& 31).toUInt32).toInt32).toInt8.toInt32))) 2 (nar .byte (((p3.toUInt32 >>> ((8 : Int32) &&& 31).toUInt32).toInt32).toInt8.toInt32))) 3 (nar .byte (((p3.toUInt32 >>> ((0 : Int32) &&& 31).toUInt32).toInt32).toInt8.toInt32))) := A
  have N := Fr.snoc X N g_r1
  have K := K.wr W (Or.inl (List.mem_of_getElem? (i := 0) rfl))
  have Zs := Nat.le_trans Zs (Keep.of_wr W).1
  refine own_iinc X hx hby d8_24 (x := (0 : Int32)) rfl (by decide) (l' := #[.val (.ref a1), .val (.int (0 : Int32)), .val (.int p3), .val (.int (-8 : Int32)), .val (.int (4 : Int32))]) rfl 27 rfl ?_
  refine own_goto X hx hby d8_27 6 (by decide) ?_
  refine own_iloadN X hx hby (-8 : Int32) d8_6 rfl 7 rfl ?_
  have c7_5 : (-8 : Int32) < (0 : Int32) := by decide
  refine own_if_lt X hx hby d8_7 30 10 (by decide) rfl (fun _ => ?_) (fun q => absurd c7_5 q)
  refine own_ret X hx hby hret hlk d8_30 (by decide) (by decide) ?_
  rw [eT]
  exact ⟨rfl, N, K, A_r1, E_r1⟩
theorem ef_8_1 (a1 : Addr) (p3 : Int32) (m : MethodId) : entryFrame m #[(.ref a1), (.int (1 : Int32)), (.int p3)] 5 = mkF m 0 #[.val (.ref a1), .val (.int (1 : Int32)), .val (.int p3), .unset, .unset] [] := by first | (simp [entryFrame, mkF, argsToLocals, Value.category]; done) | rfl
def Q8_1 (Z : State) (a1 : Addr) (p3 : Int32) (r1 : Addr) (ar_r1 : Nat → Int32) (n1 : Nat) (w_length_a1 : Int32) (h0 : Heap) (n0 : Nat) (v : Option Value) (h : Heap) (L : List Loc) : Prop := v = none ∧ Fr n0 L ∧ Keep h0 h [r1] ∧ Afi Z h r1 .byte n1 (updI (updI (updI (updI ar_r1 1 (nar .byte (((p3.toUInt32 >>> ((24 : Int32) &&& 31).toUInt32).toInt32).toInt8.toInt32))) 2 (nar .byte (((p3.toUInt32 >>> ((16 : Int32) &&& 31).toUInt32).toInt32).toInt8.toInt32))) 3 (nar .byte (((p3.toUInt32 >>> ((8 : Int32) &&& 31).toUInt32).toInt32).toInt8.toInt32))) 4 (nar .byte (((p3.toUInt32 >>> ((0 : Int32) &&& 31).toUInt32).toInt32).toInt8.toInt32))) ∧ Exa Z h r1 "[B"
set_option maxRecDepth 65536 in
set_option maxHeartbeats 40000000 in
theorem rm8_1 (l : Launch) (Z : State) (a0 : Array Value) (hw : ∀ d ∈ tables_1, d.before a0 Z = true) (a1 : Addr) (p3 : Int32) (r1 : Addr) (ar_r1 : Nat → Int32) (n1 : Nat) (w_length_a1 : Int32) (h0 : Heap) (n0 : Nat) (Zs : n0 ≤ h0.size) (hn8 : 8 ≤ n1) (A_r1 : Afi Z h0 r1 .byte n1 ar_r1) (E_r1 : Exa Z h0 r1 "[B") (g_r1 : n0 ≤ r1) (E_a1 : Exa Z h0 a1 "com/example/daylily/daylily/engine/ByteWriter") (F_bytes_a1 : Fld Z h0 a1 "com/example/daylily/daylily/engine/ByteWriter" "bytes" "[B" (.ref r1)) (F_length_a1 : Fld Z h0 a1 "com/example/daylily/daylily/engine/ByteWriter" "length" "I" (.int w_length_a1)) (g_a1 : n0 ≤ a1) :
    Met1 l Z (⟨"com/example/daylily/daylily/engine/ByteWriter", "setInt", "(II)V"⟩ : MethodName) prog_10_method_13_code 5 none ({ frames := 0, cells := 0, slots := 0, locals := 0 } : Room) #[(.ref a1), (.int (1 : Int32)), (.int p3)] h0 (Q8_1 Z a1 p3 r1 ar_r1 n1 w_length_a1 h0 n0) := by
  refine own_met_of (plainFor_of_name pn_1) (ef_8_1 a1 p3) ?_
  intro p e s m below meth c s₁ X hx hby hml hZ hown hnm hret hlk eT
  have hown : s.vm.findClass "com/example/daylily/daylily/engine/ByteWriter" = some m.cls := hown
  have N := Fr.nil n0
  have K := Keep.refl h0 [r1]
  have ne_r1_a1 : r1 ≠ a1 := ne_exa E_r1 E_a1 (by decide)
  refine own_bipush X hx hby (24 : Int32) d8_0 rfl 2 rfl ?_
  refine own_istoreN X hx hby d8_2 rfl (l' := #[.val (.ref a1), .val (.int (1 : Int32)), .val (.int p3), .val (.int (24 : Int32)), .unset]) rfl 3 rfl ?_
  refine own_iloadN X hx hby (1 : Int32) d8_3 rfl 4 rfl ?_
  refine own_istore X hx hby d8_4 rfl (l' := #[.val (.ref a1), .val (.int (1 : Int32)), .val (.int p3), .val (.int (24 : Int32)), .val (.int (1 : Int32))]) rfl 6 rfl ?_
  refine own_iloadN X hx hby (24 : Int32) d8_6 rfl 7 rfl ?_
  have c7 : ¬ (24 : Int32) < (0 : Int32) := by decide
  refine own_if_lt X hx hby d8_7 30 10 (by decide) rfl (fun q => absurd q c7) (fun _ => ?_)
  refine own_aloadN X hx hby (.ref a1) d8_10 rfl rfl 11 rfl ?_
  refine own_getF X hx hby hZ hown (host := "") (Or.inl (hw _ (List.mem_of_getElem? (i := 10) rfl))) Via.refl eT F_bytes_a1 d8_11 14 rfl ?_
  intro T11 X eT
  refine own_iload X hx hby (1 : Int32) d8_14 rfl 16 rfl ?_
  refine own_iinc X hx hby d8_16 (x := (1 : Int32)) rfl (by decide) (l' := #[.val (.ref a1), .val (.int (1 : Int32)), .val (.int p3), .val (.int (24 : Int32)), .val (.int (2 : Int32))]) rfl 19 rfl ?_
  refine own_iloadN X hx hby p3 d8_19 rfl 20 rfl ?_
  refine own_iloadN X hx hby (24 : Int32) d8_20 rfl 21 rfl ?_
  refine own_iushr X hx hby d8_21 22 rfl ?_
  refine own_i2b X hx hby d8_22 23 rfl ?_
  refine own_bastore X hx hby hZ eT A_r1 (own_bnd (Nat.lt_of_lt_of_le (by decide) hn8) (by decide)) d8_23 24 rfl ?_
  intro T23 h23 X eT W A
  have E_r1 := E_r1.wr W
  have E_a1 := E_a1.wr W
  have F_bytes_a1 := F_bytes_a1.other W (Or.inl (Ne.symm ne_r1_a1))
  have F_length_a1 := F_length_a1.other W (Or.inl (Ne.symm ne_r1_a1))
  have A_r1 : Afi Z h23 r1 .byte n1 (updI ar_r1 1 (nar .byte (((p3.toUInt32 >>> ((24 : Int32) &&& 31).toUInt32).toInt32).toInt8.toInt32))) := A
  have N := Fr.snoc X N g_r1
  have K := K.wr W (Or.inl (List.mem_of_getElem? (i := 0) rfl))
  have Zs := Nat.le_trans Zs (Keep.of_wr W).1
  refine own_iinc X hx hby d8_24 (x := (24 : Int32)) rfl (by decide) (l' := #[.val (.ref a1), .val (.int (1 : Int32)), .val (.int p3), .val (.int (16 : Int32)), .val (.int (2 : Int32))]) rfl 27 rfl ?_
  refine own_goto X hx hby d8_27 6 (by decide) ?_
  refine own_iloadN X hx hby (16 : Int32) d8_6 rfl 7 rfl ?_
  have c7_2 : ¬ (16 : Int32) < (0 : Int32) := by decide
  refine own_if_lt X hx hby d8_7 30 10 (by decide) rfl (fun q => absurd q c7_2) (fun _ => ?_)
  refine own_aloadN X hx hby (.ref a1) d8_10 rfl rfl 11 rfl ?_
  refine own_getF X hx hby hZ hown (host := "") (Or.inl (hw _ (List.mem_of_getElem? (i := 10) rfl))) Via.refl eT F_bytes_a1 d8_11 14 rfl ?_
  intro T11 X eT
  refine own_iload X hx hby (2 : Int32) d8_14 rfl 16 rfl ?_
  refine own_iinc X hx hby d8_16 (x := (2 : Int32)) rfl (by decide) (l' := #[.val (.ref a1), .val (.int (1 : Int32)), .val (.int p3), .val (.int (16 : Int32)), .val (.int (3 : Int32))]) rfl 19 rfl ?_
  refine own_iloadN X hx hby p3 d8_19 rfl 20 rfl ?_
  refine own_iloadN X hx hby (16 : Int32) d8_20 rfl 21 rfl ?_
  refine own_iushr X hx hby d8_21 22 rfl ?_
  refine own_i2b X hx hby d8_22 23 rfl ?_
  refine own_bastore X hx hby hZ eT A_r1 (own_bnd (Nat.lt_of_lt_of_le (by decide) hn8) (by decide)) d8_23 24 rfl ?_
  intro T23 h23 X eT W A
  have E_r1 := E_r1.wr W
  have E_a1 := E_a1.wr W
  have F_bytes_a1 := F_bytes_a1.other W (Or.inl (Ne.symm ne_r1_a1))
  have F_length_a1 := F_length_a1.other W (Or.inl (Ne.symm ne_r1_a1))
  have A_r1 : Afi Z h23 r1 .byte n1 (updI (updI ar_r1 1 (nar .byte (((p3.toUInt32 >>> ((24 : Int32) &&& 31).toUInt32).toInt32).toInt8.toInt32))) 2 (nar .byte (((p3.toUInt32 >>> ((16 : Int32) &&& 31).toUInt32).toInt32).toInt8.toInt32))) := A
  have N := Fr.snoc X N g_r1
  have K := K.wr W (Or.inl (List.mem_of_getElem? (i := 0) rfl))
  have Zs := Nat.le_trans Zs (Keep.of_wr W).1
  refine own_iinc X hx hby d8_24 (x := (16 : Int32)) rfl (by decide) (l' := #[.val (.ref a1), .val (.int (1 : Int32)), .val (.int p3), .val (.int (8 : Int32)), .val (.int (3 : Int32))]) rfl 27 rfl ?_
  refine own_goto X hx hby d8_27 6 (by decide) ?_
  refine own_iloadN X hx hby (8 : Int32) d8_6 rfl 7 rfl ?_
  have c7_3 : ¬ (8 : Int32) < (0 : Int32) := by decide
  refine own_if_lt X hx hby d8_7 30 10 (by decide) rfl (fun q => absurd q c7_3) (fun _ => ?_)
  refine own_aloadN X hx hby (.ref a1) d8_10 rfl rfl 11 rfl ?_
  refine own_getF X hx hby hZ hown (host := "") (Or.inl (hw _ (List.mem_of_getElem? (i := 10) rfl))) Via.refl eT F_bytes_a1 d8_11 14 rfl ?_
  intro T11 X eT
  refine own_iload X hx hby (3 : Int32) d8_14 rfl 16 rfl ?_
  refine own_iinc X hx hby d8_16 (x := (3 : Int32)) rfl (by decide) (l' := #[.val (.ref a1), .val (.int (1 : Int32)), .val (.int p3), .val (.int (8 : Int32)), .val (.int (4 : Int32))]) rfl 19 rfl ?_
  refine own_iloadN X hx hby p3 d8_19 rfl 20 rfl ?_
  refine own_iloadN X hx hby (8 : Int32) d8_20 rfl 21 rfl ?_
  refine own_iushr X hx hby d8_21 22 rfl ?_
  refine own_i2b X hx hby d8_22 23 rfl ?_
  refine own_bastore X hx hby hZ eT A_r1 (own_bnd (Nat.lt_of_lt_of_le (by decide) hn8) (by decide)) d8_23 24 rfl ?_
  intro T23 h23 X eT W A
  have E_r1 := E_r1.wr W
  have E_a1 := E_a1.wr W
  have F_bytes_a1 := F_bytes_a1.other W (Or.inl (Ne.symm ne_r1_a1))
  have F_length_a1 := F_length_a1.other W (Or.inl (Ne.symm ne_r1_a1))
  have A_r1 : Afi Z h23 r1 .byte n1 (updI (updI (updI ar_r1 1 (nar .byte (((p3.toUInt32 >>> ((24 : Int32) &&& 31).toUInt32).toInt32).toInt8.toInt32))) 2 (nar .byte (((p3.toUInt32 >>> ((16 : Int32) &&& 31).toUInt32).toInt32).toInt8.toInt32))) 3 (nar .byte (((p3.toUInt32 >>> ((8 : Int32) &&& 31).toUInt32).toInt32).toInt8.toInt32))) := A
  have N := Fr.snoc X N g_r1
  have K := K.wr W (Or.inl (List.mem_of_getElem? (i := 0) rfl))
  have Zs := Nat.le_trans Zs (Keep.of_wr W).1
  refine own_iinc X hx hby d8_24 (x := (8 : Int32)) rfl (by decide) (l' := #[.val (.ref a1), .val (.int (1 : Int32)), .val (.int p3), .val (.int (0 : Int32)), .val (.int (4 : Int32))]) rfl 27 rfl ?_
  refine own_goto X hx hby d8_27 6 (by decide) ?_
  refine own_iloadN X hx hby (0 : Int32) d8_6 rfl 7 rfl ?_
  have c7_4 : ¬ (0 : Int32) < (0 : Int32) := by decide
  refine own_if_lt X hx hby d8_7 30 10 (by decide) rfl (fun q => absurd q c7_4) (fun _ => ?_)
  refine own_aloadN X hx hby (.ref a1) d8_10 rfl rfl 11 rfl ?_
  refine own_getF X hx hby hZ hown (host := "") (Or.inl (hw _ (List.mem_of_getElem? (i := 10) rfl))) Via.refl eT F_bytes_a1 d8_11 14 rfl ?_
  intro T11 X eT
  refine own_iload X hx hby (4 : Int32) d8_14 rfl 16 rfl ?_
  refine own_iinc X hx hby d8_16 (x := (4 : Int32)) rfl (by decide) (l' := #[.val (.ref a1), .val (.int (1 : Int32)), .val (.int p3), .val (.int (0 : Int32)), .val (.int (5 : Int32))]) rfl 19 rfl ?_
  refine own_iloadN X hx hby p3 d8_19 rfl 20 rfl ?_
  refine own_iloadN X hx hby (0 : Int32) d8_20 rfl 21 rfl ?_
  refine own_iushr X hx hby d8_21 22 rfl ?_
  refine own_i2b X hx hby d8_22 23 rfl ?_
  refine own_bastore X hx hby hZ eT A_r1 (own_bnd (Nat.lt_of_lt_of_le (by decide) hn8) (by decide)) d8_23 24 rfl ?_
  intro T23 h23 X eT W A
  have E_r1 := E_r1.wr W
  have E_a1 := E_a1.wr W
  have F_bytes_a1 := F_bytes_a1.other W (Or.inl (Ne.symm ne_r1_a1))
  have F_length_a1 := F_length_a1.other W (Or.inl (Ne.symm ne_r1_a1))
  have A_r1 : Afi Z h23 r1 .byte n1 (updI (updI (updI (updI ar_r1 1 (nar .byte (((p3.toUInt32 >>> ((24 : Int32) &&& 31).toUInt32).toInt32).toInt8.toInt32))) 2 (nar .byte (((p3.toUInt32 >>> ((16 : Int32) &&& 31).toUInt32).toInt32).toInt8.toInt32))) 3 (nar .byte (((p3.toUInt32 >>> ((8 : Int32) &&& 31).toUInt32).toInt32).toInt8.toInt32))) 4 (nar .byte (((p3.toUInt32 >>> ((0 : Int32) &&& 31).toUInt32).toInt32).toInt8.toInt32))) := A
  have N := Fr.snoc X N g_r1
  have K := K.wr W (Or.inl (List.mem_of_getElem? (i := 0) rfl))
  have Zs := Nat.le_trans Zs (Keep.of_wr W).1
  refine own_iinc X hx hby d8_24 (x := (0 : Int32)) rfl (by decide) (l' := #[.val (.ref a1), .val (.int (1 : Int32)), .val (.int p3), .val (.int (-8 : Int32)), .val (.int (5 : Int32))]) rfl 27 rfl ?_
  refine own_goto X hx hby d8_27 6 (by decide) ?_
  refine own_iloadN X hx hby (-8 : Int32) d8_6 rfl 7 rfl ?_
  have c7_5 : (-8 : Int32) < (0 : Int32) := by decide
  refine own_if_lt X hx hby d8_7 30 10 (by decide) rfl (fun _ => ?_) (fun q => absurd c7_5 q)
  refine own_ret X hx hby hret hlk d8_30 (by decide) (by decide) ?_
  rw [eT]
  exact ⟨rfl, N, K, A_r1, E_r1⟩
theorem ef_8_2 (a1 : Addr) (p3 : Int32) (m : MethodId) : entryFrame m #[(.ref a1), (.int (2 : Int32)), (.int p3)] 5 = mkF m 0 #[.val (.ref a1), .val (.int (2 : Int32)), .val (.int p3), .unset, .unset] [] := by first | (simp [entryFrame, mkF, argsToLocals, Value.category]; done) | rfl
def Q8_2 (Z : State) (a1 : Addr) (p3 : Int32) (r1 : Addr) (ar_r1 : Nat → Int32) (n1 : Nat) (w_length_a1 : Int32) (h0 : Heap) (n0 : Nat) (v : Option Value) (h : Heap) (L : List Loc) : Prop := v = none ∧ Fr n0 L ∧ Keep h0 h [r1] ∧ Afi Z h r1 .byte n1 (updI (updI (updI (updI ar_r1 2 (nar .byte (((p3.toUInt32 >>> ((24 : Int32) &&& 31).toUInt32).toInt32).toInt8.toInt32))) 3 (nar .byte (((p3.toUInt32 >>> ((16 : Int32) &&& 31).toUInt32).toInt32).toInt8.toInt32))) 4 (nar .byte (((p3.toUInt32 >>> ((8 : Int32) &&& 31).toUInt32).toInt32).toInt8.toInt32))) 5 (nar .byte (((p3.toUInt32 >>> ((0 : Int32) &&& 31).toUInt32).toInt32).toInt8.toInt32))) ∧ Exa Z h r1 "[B"
set_option maxRecDepth 65536 in
set_option maxHeartbeats 40000000 in
theorem rm8_2 (l : Launch) (Z : State) (a0 : Array Value) (hw : ∀ d ∈ tables_1, d.before a0 Z = true) (a1 : Addr) (p3 : Int32) (r1 : Addr) (ar_r1 : Nat → Int32) (n1 : Nat) (w_length_a1 : Int32) (h0 : Heap) (n0 : Nat) (Zs : n0 ≤ h0.size) (hn8 : 8 ≤ n1) (A_r1 : Afi Z h0 r1 .byte n1 ar_r1) (E_r1 : Exa Z h0 r1 "[B") (g_r1 : n0 ≤ r1) (E_a1 : Exa Z h0 a1 "com/example/daylily/daylily/engine/ByteWriter") (F_bytes_a1 : Fld Z h0 a1 "com/example/daylily/daylily/engine/ByteWriter" "bytes" "[B" (.ref r1)) (F_length_a1 : Fld Z h0 a1 "com/example/daylily/daylily/engine/ByteWriter" "length" "I" (.int w_length_a1)) (g_a1 : n0 ≤ a1) :
    Met1 l Z (⟨"com/example/daylily/daylily/engine/ByteWriter", "setInt", "(II)V"⟩ : MethodName) prog_10_method_13_code 5 none ({ frames := 0, cells := 0, slots := 0, locals := 0 } : Room) #[(.ref a1), (.int (2 : Int32)), (.int p3)] h0 (Q8_2 Z a1 p3 r1 ar_r1 n1 w_length_a1 h0 n0) := by
  refine own_met_of (plainFor_of_name pn_1) (ef_8_2 a1 p3) ?_
  intro p e s m below meth c s₁ X hx hby hml hZ hown hnm hret hlk eT
  have hown : s.vm.findClass "com/example/daylily/daylily/engine/ByteWriter" = some m.cls := hown
  have N := Fr.nil n0
  have K := Keep.refl h0 [r1]
  have ne_r1_a1 : r1 ≠ a1 := ne_exa E_r1 E_a1 (by decide)
  refine own_bipush X hx hby (24 : Int32) d8_0 rfl 2 rfl ?_
  refine own_istoreN X hx hby d8_2 rfl (l' := #[.val (.ref a1), .val (.int (2 : Int32)), .val (.int p3), .val (.int (24 : Int32)), .unset]) rfl 3 rfl ?_
  refine own_iloadN X hx hby (2 : Int32) d8_3 rfl 4 rfl ?_
  refine own_istore X hx hby d8_4 rfl (l' := #[.val (.ref a1), .val (.int (2 : Int32)), .val (.int p3), .val (.int (24 : Int32)), .val (.int (2 : Int32))]) rfl 6 rfl ?_
  refine own_iloadN X hx hby (24 : Int32) d8_6 rfl 7 rfl ?_
  have c7 : ¬ (24 : Int32) < (0 : Int32) := by decide
  refine own_if_lt X hx hby d8_7 30 10 (by decide) rfl (fun q => absurd q c7) (fun _ => ?_)
  refine own_aloadN X hx hby (.ref a1) d8_10 rfl rfl 11 rfl ?_
  refine own_getF X hx hby hZ hown (host := "") (Or.inl (hw _ (List.mem_of_getElem? (i := 10) rfl))) Via.refl eT F_bytes_a1 d8_11 14 rfl ?_
  intro T11 X eT
  refine own_iload X hx hby (2 : Int32) d8_14 rfl 16 rfl ?_
  refine own_iinc X hx hby d8_16 (x := (2 : Int32)) rfl (by decide) (l' := #[.val (.ref a1), .val (.int (2 : Int32)), .val (.int p3), .val (.int (24 : Int32)), .val (.int (3 : Int32))]) rfl 19 rfl ?_
  refine own_iloadN X hx hby p3 d8_19 rfl 20 rfl ?_
  refine own_iloadN X hx hby (24 : Int32) d8_20 rfl 21 rfl ?_
  refine own_iushr X hx hby d8_21 22 rfl ?_
  refine own_i2b X hx hby d8_22 23 rfl ?_
  refine own_bastore X hx hby hZ eT A_r1 (own_bnd (Nat.lt_of_lt_of_le (by decide) hn8) (by decide)) d8_23 24 rfl ?_
  intro T23 h23 X eT W A
  have E_r1 := E_r1.wr W
  have E_a1 := E_a1.wr W
  have F_bytes_a1 := F_bytes_a1.other W (Or.inl (Ne.symm ne_r1_a1))
  have F_length_a1 := F_length_a1.other W (Or.inl (Ne.symm ne_r1_a1))
  have A_r1 : Afi Z h23 r1 .byte n1 (updI ar_r1 2 (nar .byte (((p3.toUInt32 >>> ((24 : Int32) &&& 31).toUInt32).toInt32).toInt8.toInt32))) := A
  have N := Fr.snoc X N g_r1
  have K := K.wr W (Or.inl (List.mem_of_getElem? (i := 0) rfl))
  have Zs := Nat.le_trans Zs (Keep.of_wr W).1
  refine own_iinc X hx hby d8_24 (x := (24 : Int32)) rfl (by decide) (l' := #[.val (.ref a1), .val (.int (2 : Int32)), .val (.int p3), .val (.int (16 : Int32)), .val (.int (3 : Int32))]) rfl 27 rfl ?_
  refine own_goto X hx hby d8_27 6 (by decide) ?_
  refine own_iloadN X hx hby (16 : Int32) d8_6 rfl 7 rfl ?_
  have c7_2 : ¬ (16 : Int32) < (0 : Int32) := by decide
  refine own_if_lt X hx hby d8_7 30 10 (by decide) rfl (fun q => absurd q c7_2) (fun _ => ?_)
  refine own_aloadN X hx hby (.ref a1) d8_10 rfl rfl 11 rfl ?_
  refine own_getF X hx hby hZ hown (host := "") (Or.inl (hw _ (List.mem_of_getElem? (i := 10) rfl))) Via.refl eT F_bytes_a1 d8_11 14 rfl ?_
  intro T11 X eT
  refine own_iload X hx hby (3 : Int32) d8_14 rfl 16 rfl ?_
  refine own_iinc X hx hby d8_16 (x := (3 : Int32)) rfl (by decide) (l' := #[.val (.ref a1), .val (.int (2 : Int32)), .val (.int p3), .val (.int (16 : Int32)), .val (.int (4 : Int32))]) rfl 19 rfl ?_
  refine own_iloadN X hx hby p3 d8_19 rfl 20 rfl ?_
  refine own_iloadN X hx hby (16 : Int32) d8_20 rfl 21 rfl ?_
  refine own_iushr X hx hby d8_21 22 rfl ?_
  refine own_i2b X hx hby d8_22 23 rfl ?_
  refine own_bastore X hx hby hZ eT A_r1 (own_bnd (Nat.lt_of_lt_of_le (by decide) hn8) (by decide)) d8_23 24 rfl ?_
  intro T23 h23 X eT W A
  have E_r1 := E_r1.wr W
  have E_a1 := E_a1.wr W
  have F_bytes_a1 := F_bytes_a1.other W (Or.inl (Ne.symm ne_r1_a1))
  have F_length_a1 := F_length_a1.other W (Or.inl (Ne.symm ne_r1_a1))
  have A_r1 : Afi Z h23 r1 .byte n1 (updI (updI ar_r1 2 (nar .byte (((p3.toUInt32 >>> ((24 : Int32) &&& 31).toUInt32).toInt32).toInt8.toInt32))) 3 (nar .byte (((p3.toUInt32 >>> ((16 : Int32) &&& 31).toUInt32).toInt32).toInt8.toInt32))) := A
  have N := Fr.snoc X N g_r1
  have K := K.wr W (Or.inl (List.mem_of_getElem? (i := 0) rfl))
  have Zs := Nat.le_trans Zs (Keep.of_wr W).1
  refine own_iinc X hx hby d8_24 (x := (16 : Int32)) rfl (by decide) (l' := #[.val (.ref a1), .val (.int (2 : Int32)), .val (.int p3), .val (.int (8 : Int32)), .val (.int (4 : Int32))]) rfl 27 rfl ?_
  refine own_goto X hx hby d8_27 6 (by decide) ?_
  refine own_iloadN X hx hby (8 : Int32) d8_6 rfl 7 rfl ?_
  have c7_3 : ¬ (8 : Int32) < (0 : Int32) := by decide
  refine own_if_lt X hx hby d8_7 30 10 (by decide) rfl (fun q => absurd q c7_3) (fun _ => ?_)
  refine own_aloadN X hx hby (.ref a1) d8_10 rfl rfl 11 rfl ?_
  refine own_getF X hx hby hZ hown (host := "") (Or.inl (hw _ (List.mem_of_getElem? (i := 10) rfl))) Via.refl eT F_bytes_a1 d8_11 14 rfl ?_
  intro T11 X eT
  refine own_iload X hx hby (4 : Int32) d8_14 rfl 16 rfl ?_
  refine own_iinc X hx hby d8_16 (x := (4 : Int32)) rfl (by decide) (l' := #[.val (.ref a1), .val (.int (2 : Int32)), .val (.int p3), .val (.int (8 : Int32)), .val (.int (5 : Int32))]) rfl 19 rfl ?_
  refine own_iloadN X hx hby p3 d8_19 rfl 20 rfl ?_
  refine own_iloadN X hx hby (8 : Int32) d8_20 rfl 21 rfl ?_
  refine own_iushr X hx hby d8_21 22 rfl ?_
  refine own_i2b X hx hby d8_22 23 rfl ?_
  refine own_bastore X hx hby hZ eT A_r1 (own_bnd (Nat.lt_of_lt_of_le (by decide) hn8) (by decide)) d8_23 24 rfl ?_
  intro T23 h23 X eT W A
  have E_r1 := E_r1.wr W
  have E_a1 := E_a1.wr W
  have F_bytes_a1 := F_bytes_a1.other W (Or.inl (Ne.symm ne_r1_a1))
  have F_length_a1 := F_length_a1.other W (Or.inl (Ne.symm ne_r1_a1))
  have A_r1 : Afi Z h23 r1 .byte n1 (updI (updI (updI ar_r1 2 (nar .byte (((p3.toUInt32 >>> ((24 : Int32) &&& 31).toUInt32).toInt32).toInt8.toInt32))) 3 (nar .byte (((p3.toUInt32 >>> ((16 : Int32) &&& 31).toUInt32).toInt32).toInt8.toInt32))) 4 (nar .byte (((p3.toUInt32 >>> ((8 : Int32) &&& 31).toUInt32).toInt32).toInt8.toInt32))) := A
  have N := Fr.snoc X N g_r1
  have K := K.wr W (Or.inl (List.mem_of_getElem? (i := 0) rfl))
  have Zs := Nat.le_trans Zs (Keep.of_wr W).1
  refine own_iinc X hx hby d8_24 (x := (8 : Int32)) rfl (by decide) (l' := #[.val (.ref a1), .val (.int (2 : Int32)), .val (.int p3), .val (.int (0 : Int32)), .val (.int (5 : Int32))]) rfl 27 rfl ?_
  refine own_goto X hx hby d8_27 6 (by decide) ?_
  refine own_iloadN X hx hby (0 : Int32) d8_6 rfl 7 rfl ?_
  have c7_4 : ¬ (0 : Int32) < (0 : Int32) := by decide
  refine own_if_lt X hx hby d8_7 30 10 (by decide) rfl (fun q => absurd q c7_4) (fun _ => ?_)
  refine own_aloadN X hx hby (.ref a1) d8_10 rfl rfl 11 rfl ?_
  refine own_getF X hx hby hZ hown (host := "") (Or.inl (hw _ (List.mem_of_getElem? (i := 10) rfl))) Via.refl eT F_bytes_a1 d8_11 14 rfl ?_
  intro T11 X eT
  refine own_iload X hx hby (5 : Int32) d8_14 rfl 16 rfl ?_
  refine own_iinc X hx hby d8_16 (x := (5 : Int32)) rfl (by decide) (l' := #[.val (.ref a1), .val (.int (2 : Int32)), .val (.int p3), .val (.int (0 : Int32)), .val (.int (6 : Int32))]) rfl 19 rfl ?_
  refine own_iloadN X hx hby p3 d8_19 rfl 20 rfl ?_
  refine own_iloadN X hx hby (0 : Int32) d8_20 rfl 21 rfl ?_
  refine own_iushr X hx hby d8_21 22 rfl ?_
  refine own_i2b X hx hby d8_22 23 rfl ?_
  refine own_bastore X hx hby hZ eT A_r1 (own_bnd (Nat.lt_of_lt_of_le (by decide) hn8) (by decide)) d8_23 24 rfl ?_
  intro T23 h23 X eT W A
  have E_r1 := E_r1.wr W
  have E_a1 := E_a1.wr W
  have F_bytes_a1 := F_bytes_a1.other W (Or.inl (Ne.symm ne_r1_a1))
  have F_length_a1 := F_length_a1.other W (Or.inl (Ne.symm ne_r1_a1))
  have A_r1 : Afi Z h23 r1 .byte n1 (updI (updI (updI (updI ar_r1 2 (nar .byte (((p3.toUInt32 >>> ((24 : Int32) &&& 31).toUInt32).toInt32).toInt8.toInt32))) 3 (nar .byte (((p3.toUInt32 >>> ((16 : Int32) &&& 31).toUInt32).toInt32).toInt8.toInt32))) 4 (nar .byte (((p3.toUInt32 >>> ((8 : Int32) &&& 31).toUInt32).toInt32).toInt8.toInt32))) 5 (nar .byte (((p3.toUInt32 >>> ((0 : Int32) &&& 31).toUInt32).toInt32).toInt8.toInt32))) := A
  have N := Fr.snoc X N g_r1
  have K := K.wr W (Or.inl (List.mem_of_getElem? (i := 0) rfl))
  have Zs := Nat.le_trans Zs (Keep.of_wr W).1
  refine own_iinc X hx hby d8_24 (x := (0 : Int32)) rfl (by decide) (l' := #[.val (.ref a1), .val (.int (2 : Int32)), .val (.int p3), .val (.int (-8 : Int32)), .val (.int (6 : Int32))]) rfl 27 rfl ?_
  refine own_goto X hx hby d8_27 6 (by decide) ?_
  refine own_iloadN X hx hby (-8 : Int32) d8_6 rfl 7 rfl ?_
  have c7_5 : (-8 : Int32) < (0 : Int32) := by decide
  refine own_if_lt X hx hby d8_7 30 10 (by decide) rfl (fun _ => ?_) (fun q => absurd c7_5 q)
  refine own_ret X hx hby hret hlk d8_30 (by decide) (by decide) ?_
  rw [eT]
  exact ⟨rfl, N, K, A_r1, E_r1⟩
theorem ef_8_3 (a1 : Addr) (p3 : Int32) (m : MethodId) : entryFrame m #[(.ref a1), (.int (3 : Int32)), (.int p3)] 5 = mkF m 0 #[.val (.ref a1), .val (.int (3 : Int32)), .val (.int p3), .unset, .unset] [] := by first | (simp [entryFrame, mkF, argsToLocals, Value.category]; done) | rfl
def Q8_3 (Z : State) (a1 : Addr) (p3 : Int32) (r1 : Addr) (ar_r1 : Nat → Int32) (n1 : Nat) (w_length_a1 : Int32) (h0 : Heap) (n0 : Nat) (v : Option Value) (h : Heap) (L : List Loc) : Prop := v = none ∧ Fr n0 L ∧ Keep h0 h [r1] ∧ Afi Z h r1 .byte n1 (updI (updI (updI (updI ar_r1 3 (nar .byte (((p3.toUInt32 >>> ((24 : Int32) &&& 31).toUInt32).toInt32).toInt8.toInt32))) 4 (nar .byte (((p3.toUInt32 >>> ((16 : Int32) &&& 31).toUInt32).toInt32).toInt8.toInt32))) 5 (nar .byte (((p3.toUInt32 >>> ((8 : Int32) &&& 31).toUInt32).toInt32).toInt8.toInt32))) 6 (nar .byte (((p3.toUInt32 >>> ((0 : Int32) &&& 31).toUInt32).toInt32).toInt8.toInt32))) ∧ Exa Z h r1 "[B"
set_option maxRecDepth 65536 in
set_option maxHeartbeats 40000000 in
theorem rm8_3 (l : Launch) (Z : State) (a0 : Array Value) (hw : ∀ d ∈ tables_1, d.before a0 Z = true) (a1 : Addr) (p3 : Int32) (r1 : Addr) (ar_r1 : Nat → Int32) (n1 : Nat) (w_length_a1 : Int32) (h0 : Heap) (n0 : Nat) (Zs : n0 ≤ h0.size) (hn8 : 8 ≤ n1) (A_r1 : Afi Z h0 r1 .byte n1 ar_r1) (E_r1 : Exa Z h0 r1 "[B") (g_r1 : n0 ≤ r1) (E_a1 : Exa Z h0 a1 "com/example/daylily/daylily/engine/ByteWriter") (F_bytes_a1 : Fld Z h0 a1 "com/example/daylily/daylily/engine/ByteWriter" "bytes" "[B" (.ref r1)) (F_length_a1 : Fld Z h0 a1 "com/example/daylily/daylily/engine/ByteWriter" "length" "I" (.int w_length_a1)) (g_a1 : n0 ≤ a1) :
    Met1 l Z (⟨"com/example/daylily/daylily/engine/ByteWriter", "setInt", "(II)V"⟩ : MethodName) prog_10_method_13_code 5 none ({ frames := 0, cells := 0, slots := 0, locals := 0 } : Room) #[(.ref a1), (.int (3 : Int32)), (.int p3)] h0 (Q8_3 Z a1 p3 r1 ar_r1 n1 w_length_a1 h0 n0) := by
  refine own_met_of (plainFor_of_name pn_1) (ef_8_3 a1 p3) ?_
  intro p e s m below meth c s₁ X hx hby hml hZ hown hnm hret hlk eT
  have hown : s.vm.findClass "com/example/daylily/daylily/engine/ByteWriter" = some m.cls := hown
  have N := Fr.nil n0
  have K := Keep.refl h0 [r1]
  have ne_r1_a1 : r1 ≠ a1 := ne_exa E_r1 E_a1 (by decide)
  refine own_bipush X hx hby (24 : Int32) d8_0 rfl 2 rfl ?_
  refine own_istoreN X hx hby d8_2 rfl (l' := #[.val (.ref a1), .val (.int (3 : Int32)), .val (.int p3), .val (.int (24 : Int32)), .unset]) rfl 3 rfl ?_
  refine own_iloadN X hx hby (3 : Int32) d8_3 rfl 4 rfl ?_
  refine own_istore X hx hby d8_4 rfl (l' := #[.val (.ref a1), .val (.int (3 : Int32)), .val (.int p3), .val (.int (24 : Int32)), .val (.int (3 : Int32))]) rfl 6 rfl ?_
  refine own_iloadN X hx hby (24 : Int32) d8_6 rfl 7 rfl ?_
  have c7 : ¬ (24 : Int32) < (0 : Int32) := by decide
  refine own_if_lt X hx hby d8_7 30 10 (by decide) rfl (fun q => absurd q c7) (fun _ => ?_)
  refine own_aloadN X hx hby (.ref a1) d8_10 rfl rfl 11 rfl ?_
  refine own_getF X hx hby hZ hown (host := "") (Or.inl (hw _ (List.mem_of_getElem? (i := 10) rfl))) Via.refl eT F_bytes_a1 d8_11 14 rfl ?_
  intro T11 X eT
  refine own_iload X hx hby (3 : Int32) d8_14 rfl 16 rfl ?_
  refine own_iinc X hx hby d8_16 (x := (3 : Int32)) rfl (by decide) (l' := #[.val (.ref a1), .val (.int (3 : Int32)), .val (.int p3), .val (.int (24 : Int32)), .val (.int (4 : Int32))]) rfl 19 rfl ?_
  refine own_iloadN X hx hby p3 d8_19 rfl 20 rfl ?_
  refine own_iloadN X hx hby (24 : Int32) d8_20 rfl 21 rfl ?_
  refine own_iushr X hx hby d8_21 22 rfl ?_
  refine own_i2b X hx hby d8_22 23 rfl ?_
  refine own_bastore X hx hby hZ eT A_r1 (own_bnd (Nat.lt_of_lt_of_le (by decide) hn8) (by decide)) d8_23 24 rfl ?_
  intro T23 h23 X eT W A
  have E_r1 := E_r1.wr W
  have E_a1 := E_a1.wr W
  have F_bytes_a1 := F_bytes_a1.other W (Or.inl (Ne.symm ne_r1_a1))
  have F_length_a1 := F_length_a1.other W (Or.inl (Ne.symm ne_r1_a1))
  have A_r1 : Afi Z h23 r1 .byte n1 (updI ar_r1 3 (nar .byte (((p3.toUInt32 >>> ((24 : Int32) &&& 31).toUInt32).toInt32).toInt8.toInt32))) := A
  have N := Fr.snoc X N g_r1
  have K := K.wr W (Or.inl (List.mem_of_getElem? (i := 0) rfl))
  have Zs := Nat.le_trans Zs (Keep.of_wr W).1
  refine own_iinc X hx hby d8_24 (x := (24 : Int32)) rfl (by decide) (l' := #[.val (.ref a1), .val (.int (3 : Int32)), .val (.int p3), .val (.int (16 : Int32)), .val (.int (4 : Int32))]) rfl 27 rfl ?_
  refine own_goto X hx hby d8_27 6 (by decide) ?_
  refine own_iloadN X hx hby (16 : Int32) d8_6 rfl 7 rfl ?_
  have c7_2 : ¬ (16 : Int32) < (0 : Int32) := by decide
  refine own_if_lt X hx hby d8_7 30 10 (by decide) rfl (fun q => absurd q c7_2) (fun _ => ?_)
  refine own_aloadN X hx hby (.ref a1) d8_10 rfl rfl 11 rfl ?_
  refine own_getF X hx hby hZ hown (host := "") (Or.inl (hw _ (List.mem_of_getElem? (i := 10) rfl))) Via.refl eT F_bytes_a1 d8_11 14 rfl ?_
  intro T11 X eT
  refine own_iload X hx hby (4 : Int32) d8_14 rfl 16 rfl ?_
  refine own_iinc X hx hby d8_16 (x := (4 : Int32)) rfl (by decide) (l' := #[.val (.ref a1), .val (.int (3 : Int32)), .val (.int p3), .val (.int (16 : Int32)), .val (.int (5 : Int32))]) rfl 19 rfl ?_
  refine own_iloadN X hx hby p3 d8_19 rfl 20 rfl ?_
  refine own_iloadN X hx hby (16 : Int32) d8_20 rfl 21 rfl ?_
  refine own_iushr X hx hby d8_21 22 rfl ?_
  refine own_i2b X hx hby d8_22 23 rfl ?_
  refine own_bastore X hx hby hZ eT A_r1 (own_bnd (Nat.lt_of_lt_of_le (by decide) hn8) (by decide)) d8_23 24 rfl ?_
  intro T23 h23 X eT W A
  have E_r1 := E_r1.wr W
  have E_a1 := E_a1.wr W
  have F_bytes_a1 := F_bytes_a1.other W (Or.inl (Ne.symm ne_r1_a1))
  have F_length_a1 := F_length_a1.other W (Or.inl (Ne.symm ne_r1_a1))
  have A_r1 : Afi Z h23 r1 .byte n1 (updI (updI ar_r1 3 (nar .byte (((p3.toUInt32 >>> ((24 : Int32) &&& 31).toUInt32).toInt32).toInt8.toInt32))) 4 (nar .byte (((p3.toUInt32 >>> ((16 : Int32) &&& 31).toUInt32).toInt32).toInt8.toInt32))) := A
  have N := Fr.snoc X N g_r1
  have K := K.wr W (Or.inl (List.mem_of_getElem? (i := 0) rfl))
  have Zs := Nat.le_trans Zs (Keep.of_wr W).1
  refine own_iinc X hx hby d8_24 (x := (16 : Int32)) rfl (by decide) (l' := #[.val (.ref a1), .val (.int (3 : Int32)), .val (.int p3), .val (.int (8 : Int32)), .val (.int (5 : Int32))]) rfl 27 rfl ?_
  refine own_goto X hx hby d8_27 6 (by decide) ?_
  refine own_iloadN X hx hby (8 : Int32) d8_6 rfl 7 rfl ?_
  have c7_3 : ¬ (8 : Int32) < (0 : Int32) := by decide
  refine own_if_lt X hx hby d8_7 30 10 (by decide) rfl (fun q => absurd q c7_3) (fun _ => ?_)
  refine own_aloadN X hx hby (.ref a1) d8_10 rfl rfl 11 rfl ?_
  refine own_getF X hx hby hZ hown (host := "") (Or.inl (hw _ (List.mem_of_getElem? (i := 10) rfl))) Via.refl eT F_bytes_a1 d8_11 14 rfl ?_
  intro T11 X eT
  refine own_iload X hx hby (5 : Int32) d8_14 rfl 16 rfl ?_
  refine own_iinc X hx hby d8_16 (x := (5 : Int32)) rfl (by decide) (l' := #[.val (.ref a1), .val (.int (3 : Int32)), .val (.int p3), .val (.int (8 : Int32)), .val (.int (6 : Int32))]) rfl 19 rfl ?_
  refine own_iloadN X hx hby p3 d8_19 rfl 20 rfl ?_
  refine own_iloadN X hx hby (8 : Int32) d8_20 rfl 21 rfl ?_
  refine own_iushr X hx hby d8_21 22 rfl ?_
  refine own_i2b X hx hby d8_22 23 rfl ?_
  refine own_bastore X hx hby hZ eT A_r1 (own_bnd (Nat.lt_of_lt_of_le (by decide) hn8) (by decide)) d8_23 24 rfl ?_
  intro T23 h23 X eT W A
  have E_r1 := E_r1.wr W
  have E_a1 := E_a1.wr W
  have F_bytes_a1 := F_bytes_a1.other W (Or.inl (Ne.symm ne_r1_a1))
  have F_length_a1 := F_length_a1.other W (Or.inl (Ne.symm ne_r1_a1))
  have A_r1 : Afi Z h23 r1 .byte n1 (updI (updI (updI ar_r1 3 (nar .byte (((p3.toUInt32 >>> ((24 : Int32) &&& 31).toUInt32).toInt32).toInt8.toInt32))) 4 (nar .byte (((p3.toUInt32 >>> ((16 : Int32) &&& 31).toUInt32).toInt32).toInt8.toInt32))) 5 (nar .byte (((p3.toUInt32 >>> ((8 : Int32) &&& 31).toUInt32).toInt32).toInt8.toInt32))) := A
  have N := Fr.snoc X N g_r1
  have K := K.wr W (Or.inl (List.mem_of_getElem? (i := 0) rfl))
  have Zs := Nat.le_trans Zs (Keep.of_wr W).1
  refine own_iinc X hx hby d8_24 (x := (8 : Int32)) rfl (by decide) (l' := #[.val (.ref a1), .val (.int (3 : Int32)), .val (.int p3), .val (.int (0 : Int32)), .val (.int (6 : Int32))]) rfl 27 rfl ?_
  refine own_goto X hx hby d8_27 6 (by decide) ?_
  refine own_iloadN X hx hby (0 : Int32) d8_6 rfl 7 rfl ?_
  have c7_4 : ¬ (0 : Int32) < (0 : Int32) := by decide
  refine own_if_lt X hx hby d8_7 30 10 (by decide) rfl (fun q => absurd q c7_4) (fun _ => ?_)
  refine own_aloadN X hx hby (.ref a1) d8_10 rfl rfl 11 rfl ?_
  refine own_getF X hx hby hZ hown (host := "") (Or.inl (hw _ (List.mem_of_getElem? (i := 10) rfl))) Via.refl eT F_bytes_a1 d8_11 14 rfl ?_
  intro T11 X eT
  refine own_iload X hx hby (6 : Int32) d8_14 rfl 16 rfl ?_
  refine own_iinc X hx hby d8_16 (x := (6 : Int32)) rfl (by decide) (l' := #[.val (.ref a1), .val (.int (3 : Int32)), .val (.int p3), .val (.int (0 : Int32)), .val (.int (7 : Int32))]) rfl 19 rfl ?_
  refine own_iloadN X hx hby p3 d8_19 rfl 20 rfl ?_
  refine own_iloadN X hx hby (0 : Int32) d8_20 rfl 21 rfl ?_
  refine own_iushr X hx hby d8_21 22 rfl ?_
  refine own_i2b X hx hby d8_22 23 rfl ?_
  refine own_bastore X hx hby hZ eT A_r1 (own_bnd (Nat.lt_of_lt_of_le (by decide) hn8) (by decide)) d8_23 24 rfl ?_
  intro T23 h23 X eT W A
  have E_r1 := E_r1.wr W
  have E_a1 := E_a1.wr W
  have F_bytes_a1 := F_bytes_a1.other W (Or.inl (Ne.symm ne_r1_a1))
  have F_length_a1 := F_length_a1.other W (Or.inl (Ne.symm ne_r1_a1))
  have A_r1 : Afi Z h23 r1 .byte n1 (updI (updI (updI (updI ar_r1 3 (nar .byte (((p3.toUInt32 >>> ((24 : Int32) &&& 31).toUInt32).toInt32).toInt8.toInt32))) 4 (nar .byte (((p3.toUInt32 >>> ((16 : Int32) &&& 31).toUInt32).toInt32).toInt8.toInt32))) 5 (nar .byte (((p3.toUInt32 >>> ((8 : Int32) &&& 31).toUInt32).toInt32).toInt8.toInt32))) 6 (nar .byte (((p3.toUInt32 >>> ((0 : Int32) &&& 31).toUInt32).toInt32).toInt8.toInt32))) := A
  have N := Fr.snoc X N g_r1
  have K := K.wr W (Or.inl (List.mem_of_getElem? (i := 0) rfl))
  have Zs := Nat.le_trans Zs (Keep.of_wr W).1
  refine own_iinc X hx hby d8_24 (x := (0 : Int32)) rfl (by decide) (l' := #[.val (.ref a1), .val (.int (3 : Int32)), .val (.int p3), .val (.int (-8 : Int32)), .val (.int (7 : Int32))]) rfl 27 rfl ?_
  refine own_goto X hx hby d8_27 6 (by decide) ?_
  refine own_iloadN X hx hby (-8 : Int32) d8_6 rfl 7 rfl ?_
  have c7_5 : (-8 : Int32) < (0 : Int32) := by decide
  refine own_if_lt X hx hby d8_7 30 10 (by decide) rfl (fun _ => ?_) (fun q => absurd c7_5 q)
  refine own_ret X hx hby hret hlk d8_30 (by decide) (by decide) ?_
  rw [eT]
  exact ⟨rfl, N, K, A_r1, E_r1⟩
theorem ef_8_4 (a1 : Addr) (p3 : Int32) (m : MethodId) : entryFrame m #[(.ref a1), (.int (4 : Int32)), (.int p3)] 5 = mkF m 0 #[.val (.ref a1), .val (.int (4 : Int32)), .val (.int p3), .unset, .unset] [] := by first | (simp [entryFrame, mkF, argsToLocals, Value.category]; done) | rfl
def Q8_4 (Z : State) (a1 : Addr) (p3 : Int32) (r1 : Addr) (ar_r1 : Nat → Int32) (n1 : Nat) (w_length_a1 : Int32) (h0 : Heap) (n0 : Nat) (v : Option Value) (h : Heap) (L : List Loc) : Prop := v = none ∧ Fr n0 L ∧ Keep h0 h [r1] ∧ Afi Z h r1 .byte n1 (updI (updI (updI (updI ar_r1 4 (nar .byte (((p3.toUInt32 >>> ((24 : Int32) &&& 31).toUInt32).toInt32).toInt8.toInt32))) 5 (nar .byte (((p3.toUInt32 >>> ((16 : Int32) &&& 31).toUInt32).toInt32).toInt8.toInt32))) 6 (nar .byte (((p3.toUInt32 >>> ((8 : Int32) &&& 31).toUInt32).toInt32).toInt8.toInt32))) 7 (nar .byte (((p3.toUInt32 >>> ((0 : Int32) &&& 31).toUInt32).toInt32).toInt8.toInt32))) ∧ Exa Z h r1 "[B"
set_option maxRecDepth 65536 in
set_option maxHeartbeats 40000000 in
theorem rm8_4 (l : Launch) (Z : State) (a0 : Array Value) (hw : ∀ d ∈ tables_1, d.before a0 Z = true) (a1 : Addr) (p3 : Int32) (r1 : Addr) (ar_r1 : Nat → Int32) (n1 : Nat) (w_length_a1 : Int32) (h0 : Heap) (n0 : Nat) (Zs : n0 ≤ h0.size) (hn8 : 8 ≤ n1) (A_r1 : Afi Z h0 r1 .byte n1 ar_r1) (E_r1 : Exa Z h0 r1 "[B") (g_r1 : n0 ≤ r1) (E_a1 : Exa Z h0 a1 "com/example/daylily/daylily/engine/ByteWriter") (F_bytes_a1 : Fld Z h0 a1 "com/example/daylily/daylily/engine/ByteWriter" "bytes" "[B" (.ref r1)) (F_length_a1 : Fld Z h0 a1 "com/example/daylily/daylily/engine/ByteWriter" "length" "I" (.int w_length_a1)) (g_a1 : n0 ≤ a1) :
    Met1 l Z (⟨"com/example/daylily/daylily/engine/ByteWriter", "setInt", "(II)V"⟩ : MethodName) prog_10_method_13_code 5 none ({ frames := 0, cells := 0, slots := 0, locals := 0 } : Room) #[(.ref a1), (.int (4 : Int32)), (.int p3)] h0 (Q8_4 Z a1 p3 r1 ar_r1 n1 w_length_a1 h0 n0) := by
  refine own_met_of (plainFor_of_name pn_1) (ef_8_4 a1 p3) ?_
  intro p e s m below meth c s₁ X hx hby hml hZ hown hnm hret hlk eT
  have hown : s.vm.findClass "com/example/daylily/daylily/engine/ByteWriter" = some m.cls := hown
  have N := Fr.nil n0
  have K := Keep.refl h0 [r1]
  have ne_r1_a1 : r1 ≠ a1 := ne_exa E_r1 E_a1 (by decide)
  refine own_bipush X hx hby (24 : Int32) d8_0 rfl 2 rfl ?_
  refine own_istoreN X hx hby d8_2 rfl (l' := #[.val (.ref a1), .val (.int (4 : Int32)), .val (.int p3), .val (.int (24 : Int32)), .unset]) rfl 3 rfl ?_
  refine own_iloadN X hx hby (4 : Int32) d8_3 rfl 4 rfl ?_
  refine own_istore X hx hby d8_4 rfl (l' := #[.val (.ref a1), .val (.int (4 : Int32)), .val (.int p3), .val (.int (24 : Int32)), .val (.int (4 : Int32))]) rfl 6 rfl ?_
  refine own_iloadN X hx hby (24 : Int32) d8_6 rfl 7 rfl ?_
  have c7 : ¬ (24 : Int32) < (0 : Int32) := by decide
  refine own_if_lt X hx hby d8_7 30 10 (by decide) rfl (fun q => absurd q c7) (fun _ => ?_)
  refine own_aloadN X hx hby (.ref a1) d8_10 rfl rfl 11 rfl ?_
  refine own_getF X hx hby hZ hown (host := "") (Or.inl (hw _ (List.mem_of_getElem? (i := 10) rfl))) Via.refl eT F_bytes_a1 d8_11 14 rfl ?_
  intro T11 X eT
  refine own_iload X hx hby (4 : Int32) d8_14 rfl 16 rfl ?_
  refine own_iinc X hx hby d8_16 (x := (4 : Int32)) rfl (by decide) (l' := #[.val (.ref a1), .val (.int (4 : Int32)), .val (.int p3), .val (.int (24 : Int32)), .val (.int (5 : Int32))]) rfl 19 rfl ?_
  refine own_iloadN X hx hby p3 d8_19 rfl 20 rfl ?_
  refine own_iloadN X hx hby (24 : Int32) d8_20 rfl 21 rfl ?_
  refine own_iushr X hx hby d8_21 22 rfl ?_
  refine own_i2b X hx hby d8_22 23 rfl ?_
  refine own_bastore X hx hby hZ eT A_r1 (own_bnd (Nat.lt_of_lt_of_le (by decide) hn8) (by decide)) d8_23 24 rfl ?_
  intro T23 h23 X eT W A
  have E_r1 := E_r1.wr W
  have E_a1 := E_a1.wr W
  have F_bytes_a1 := F_bytes_a1.other W (Or.inl (Ne.symm ne_r1_a1))
  have F_length_a1 := F_length_a1.other W (Or.inl (Ne.symm ne_r1_a1))
  have A_r1 : Afi Z h23 r1 .byte n1 (updI ar_r1 4 (nar .byte (((p3.toUInt32 >>> ((24 : Int32) &&& 31).toUInt32).toInt32).toInt8.toInt32))) := A
  have N := Fr.snoc X N g_r1
  have K := K.wr W (Or.inl (List.mem_of_getElem? (i := 0) rfl))
  have Zs := Nat.le_trans Zs (Keep.of_wr W).1
  refine own_iinc X hx hby d8_24 (x := (24 : Int32)) rfl (by decide) (l' := #[.val (.ref a1), .val (.int (4 : Int32)), .val (.int p3), .val (.int (16 : Int32)), .val (.int (5 : Int32))]) rfl 27 rfl ?_
  refine own_goto X hx hby d8_27 6 (by decide) ?_
  refine own_iloadN X hx hby (16 : Int32) d8_6 rfl 7 rfl ?_
  have c7_2 : ¬ (16 : Int32) < (0 : Int32) := by decide
  refine own_if_lt X hx hby d8_7 30 10 (by decide) rfl (fun q => absurd q c7_2) (fun _ => ?_)
  refine own_aloadN X hx hby (.ref a1) d8_10 rfl rfl 11 rfl ?_
  refine own_getF X hx hby hZ hown (host := "") (Or.inl (hw _ (List.mem_of_getElem? (i := 10) rfl))) Via.refl eT F_bytes_a1 d8_11 14 rfl ?_
  intro T11 X eT
  refine own_iload X hx hby (5 : Int32) d8_14 rfl 16 rfl ?_
  refine own_iinc X hx hby d8_16 (x := (5 : Int32)) rfl (by decide) (l' := #[.val (.ref a1), .val (.int (4 : Int32)), .val (.int p3), .val (.int (16 : Int32)), .val (.int (6 : Int32))]) rfl 19 rfl ?_
  refine own_iloadN X hx hby p3 d8_19 rfl 20 rfl ?_
  refine own_iloadN X hx hby (16 : Int32) d8_20 rfl 21 rfl ?_
  refine own_iushr X hx hby d8_21 22 rfl ?_
  refine own_i2b X hx hby d8_22 23 rfl ?_
  refine own_bastore X hx hby hZ eT A_r1 (own_bnd (Nat.lt_of_lt_of_le (by decide) hn8) (by decide)) d8_23 24 rfl ?_
  intro T23 h23 X eT W A
  have E_r1 := E_r1.wr W
  have E_a1 := E_a1.wr W
  have F_bytes_a1 := F_bytes_a1.other W (Or.inl (Ne.symm ne_r1_a1))
  have F_length_a1 := F_length_a1.other W (Or.inl (Ne.symm ne_r1_a1))
  have A_r1 : Afi Z h23 r1 .byte n1 (updI (updI ar_r1 4 (nar .byte (((p3.toUInt32 >>> ((24 : Int32) &&& 31).toUInt32).toInt32).toInt8.toInt32))) 5 (nar .byte (((p3.toUInt32 >>> ((16 : Int32) &&& 31).toUInt32).toInt32).toInt8.toInt32))) := A
  have N := Fr.snoc X N g_r1
  have K := K.wr W (Or.inl (List.mem_of_getElem? (i := 0) rfl))
  have Zs := Nat.le_trans Zs (Keep.of_wr W).1
  refine own_iinc X hx hby d8_24 (x := (16 : Int32)) rfl (by decide) (l' := #[.val (.ref a1), .val (.int (4 : Int32)), .val (.int p3), .val (.int (8 : Int32)), .val (.int (6 : Int32))]) rfl 27 rfl ?_
  refine own_goto X hx hby d8_27 6 (by decide) ?_
  refine own_iloadN X hx hby (8 : Int32) d8_6 rfl 7 rfl ?_
  have c7_3 : ¬ (8 : Int32) < (0 : Int32) := by decide
  refine own_if_lt X hx hby d8_7 30 10 (by decide) rfl (fun q => absurd q c7_3) (fun _ => ?_)
  refine own_aloadN X hx hby (.ref a1) d8_10 rfl rfl 11 rfl ?_
  refine own_getF X hx hby hZ hown (host := "") (Or.inl (hw _ (List.mem_of_getElem? (i := 10) rfl))) Via.refl eT F_bytes_a1 d8_11 14 rfl ?_
  intro T11 X eT
  refine own_iload X hx hby (6 : Int32) d8_14 rfl 16 rfl ?_
  refine own_iinc X hx hby d8_16 (x := (6 : Int32)) rfl (by decide) (l' := #[.val (.ref a1), .val (.int (4 : Int32)), .val (.int p3), .val (.int (8 : Int32)), .val (.int (7 : Int32))]) rfl 19 rfl ?_
  refine own_iloadN X hx hby p3 d8_19 rfl 20 rfl ?_
  refine own_iloadN X hx hby (8 : Int32) d8_20 rfl 21 rfl ?_
  refine own_iushr X hx hby d8_21 22 rfl ?_
  refine own_i2b X hx hby d8_22 23 rfl ?_
  refine own_bastore X hx hby hZ eT A_r1 (own_bnd (Nat.lt_of_lt_of_le (by decide) hn8) (by decide)) d8_23 24 rfl ?_
  intro T23 h23 X eT W A
  have E_r1 := E_r1.wr W
  have E_a1 := E_a1.wr W
  have F_bytes_a1 := F_bytes_a1.other W (Or.inl (Ne.symm ne_r1_a1))
  have F_length_a1 := F_length_a1.other W (Or.inl (Ne.symm ne_r1_a1))
  have A_r1 : Afi Z h23 r1 .byte n1 (updI (updI (updI ar_r1 4 (nar .byte (((p3.toUInt32 >>> ((24 : Int32) &&& 31).toUInt32).toInt32).toInt8.toInt32))) 5 (nar .byte (((p3.toUInt32 >>> ((16 : Int32) &&& 31).toUInt32).toInt32).toInt8.toInt32))) 6 (nar .byte (((p3.toUInt32 >>> ((8 : Int32) &&& 31).toUInt32).toInt32).toInt8.toInt32))) := A
  have N := Fr.snoc X N g_r1
  have K := K.wr W (Or.inl (List.mem_of_getElem? (i := 0) rfl))
  have Zs := Nat.le_trans Zs (Keep.of_wr W).1
  refine own_iinc X hx hby d8_24 (x := (8 : Int32)) rfl (by decide) (l' := #[.val (.ref a1), .val (.int (4 : Int32)), .val (.int p3), .val (.int (0 : Int32)), .val (.int (7 : Int32))]) rfl 27 rfl ?_
  refine own_goto X hx hby d8_27 6 (by decide) ?_
  refine own_iloadN X hx hby (0 : Int32) d8_6 rfl 7 rfl ?_
  have c7_4 : ¬ (0 : Int32) < (0 : Int32) := by decide
  refine own_if_lt X hx hby d8_7 30 10 (by decide) rfl (fun q => absurd q c7_4) (fun _ => ?_)
  refine own_aloadN X hx hby (.ref a1) d8_10 rfl rfl 11 rfl ?_
  refine own_getF X hx hby hZ hown (host := "") (Or.inl (hw _ (List.mem_of_getElem? (i := 10) rfl))) Via.refl eT F_bytes_a1 d8_11 14 rfl ?_
  intro T11 X eT
  refine own_iload X hx hby (7 : Int32) d8_14 rfl 16 rfl ?_
  refine own_iinc X hx hby d8_16 (x := (7 : Int32)) rfl (by decide) (l' := #[.val (.ref a1), .val (.int (4 : Int32)), .val (.int p3), .val (.int (0 : Int32)), .val (.int (8 : Int32))]) rfl 19 rfl ?_
  refine own_iloadN X hx hby p3 d8_19 rfl 20 rfl ?_
  refine own_iloadN X hx hby (0 : Int32) d8_20 rfl 21 rfl ?_
  refine own_iushr X hx hby d8_21 22 rfl ?_
  refine own_i2b X hx hby d8_22 23 rfl ?_
  refine own_bastore X hx hby hZ eT A_r1 (own_bnd (Nat.lt_of_lt_of_le (by decide) hn8) (by decide)) d8_23 24 rfl ?_
  intro T23 h23 X eT W A
  have E_r1 := E_r1.wr W
  have E_a1 := E_a1.wr W
  have F_bytes_a1 := F_bytes_a1.other W (Or.inl (Ne.symm ne_r1_a1))
  have F_length_a1 := F_length_a1.other W (Or.inl (Ne.symm ne_r1_a1))
  have A_r1 : Afi Z h23 r1 .byte n1 (updI (updI (updI (updI ar_r1 4 (nar .byte (((p3.toUInt32 >>> ((24 : Int32) &&& 31).toUInt32).toInt32).toInt8.toInt32))) 5 (nar .byte (((p3.toUInt32 >>> ((16 : Int32) &&& 31).toUInt32).toInt32).toInt8.toInt32))) 6 (nar .byte (((p3.toUInt32 >>> ((8 : Int32) &&& 31).toUInt32).toInt32).toInt8.toInt32))) 7 (nar .byte (((p3.toUInt32 >>> ((0 : Int32) &&& 31).toUInt32).toInt32).toInt8.toInt32))) := A
  have N := Fr.snoc X N g_r1
  have K := K.wr W (Or.inl (List.mem_of_getElem? (i := 0) rfl))
  have Zs := Nat.le_trans Zs (Keep.of_wr W).1
  refine own_iinc X hx hby d8_24 (x := (0 : Int32)) rfl (by decide) (l' := #[.val (.ref a1), .val (.int (4 : Int32)), .val (.int p3), .val (.int (-8 : Int32)), .val (.int (8 : Int32))]) rfl 27 rfl ?_
  refine own_goto X hx hby d8_27 6 (by decide) ?_
  refine own_iloadN X hx hby (-8 : Int32) d8_6 rfl 7 rfl ?_
  have c7_5 : (-8 : Int32) < (0 : Int32) := by decide
  refine own_if_lt X hx hby d8_7 30 10 (by decide) rfl (fun _ => ?_) (fun q => absurd c7_5 q)
  refine own_ret X hx hby hret hlk d8_30 (by decide) (by decide) ?_
  rw [eT]
  exact ⟨rfl, N, K, A_r1, E_r1⟩
theorem ef_9 (a1 : Addr) (m : MethodId) : entryFrame m #[(.ref a1)] 1 = mkF m 0 #[.val (.ref a1)] [] := by first | (simp [entryFrame, mkF, argsToLocals, Value.category]; done) | rfl
def Q9 (Z : State) (a1 : Addr) (h0 : Heap) (n0 : Nat) (v : Option Value) (h : Heap) (L : List Loc) : Prop := v = some (.int (8 : Int32)) ∧ Fr n0 L ∧ h = h0
set_option maxRecDepth 65536 in
set_option maxHeartbeats 40000000 in
theorem rm9 (l : Launch) (Z : State) (a0 : Array Value) (hw : ∀ d ∈ tables_1, d.before a0 Z = true) (a1 : Addr) (h0 : Heap) (n0 : Nat) (Zs : n0 ≤ h0.size) (F_length_a1 : Fld Z h0 a1 "com/example/daylily/daylily/engine/ByteWriter" "length" "I" (.int (8 : Int32))) :
    Met1 l Z (⟨"com/example/daylily/daylily/engine/ByteWriter", "length", "()I"⟩ : MethodName) prog_10_method_3_code 1 (some .int) ({ frames := 0, cells := 0, slots := 0, locals := 0 } : Room) #[(.ref a1)] h0 (Q9 Z a1 h0 n0) := by
  refine own_met_of (plainFor_of_name pn_1) (ef_9 a1) ?_
  intro p e s m below meth c s₁ X hx hby hml hZ hown hnm hret hlk eT
  have hown : s.vm.findClass "com/example/daylily/daylily/engine/ByteWriter" = some m.cls := hown
  have N := Fr.nil n0
  refine own_aloadN X hx hby (.ref a1) d9_0 rfl rfl 1 rfl ?_
  refine own_getF X hx hby hZ hown (host := "") (Or.inl (hw _ (List.mem_of_getElem? (i := 21) rfl))) Via.refl eT F_length_a1 d9_1 4 rfl ?_
  intro T1 X eT
  refine own_retI X hx hby hret hlk d9_4 (by decide) (by decide) ?_
  rw [eT]
  exact ⟨rfl, N, rfl⟩
theorem ef_10_c (a1 : Addr) (m : MethodId) : entryFrame m #[(.ref a1)] 1 = mkF m 0 #[.val (.ref a1)] [] := by first | (simp [entryFrame, mkF, argsToLocals, Value.category]; done) | rfl
def Q10_c (Z : State) (a1 : Addr) (r1 : Addr) (ar_r1 : Nat → Int32) (h0 : Heap) (n0 : Nat) (v : Option Value) (h : Heap) (L : List Loc) : Prop := ∃ (b8b7 : Addr), v = some (.ref b8b7) ∧ Fr n0 L ∧ Keep h0 h [] ∧ h0.size ≤ b8b7 ∧ Afi Z h b8b7 .byte 8 ar_r1 ∧ Exa Z h b8b7 "[B"
set_option maxRecDepth 65536 in
set_option maxHeartbeats 40000000 in
theorem rm10_c (l : Launch) (Z : State) (a0 : Array Value) (hw : ∀ d ∈ tables_1, d.before a0 Z = true) (a1 : Addr) (r1 : Addr) (ar_r1 : Nat → Int32) (h0 : Heap) (n0 : Nat) (Zs : n0 ≤ h0.size) (A_r1 : Afi Z h0 r1 .byte 8 ar_r1) (E_r1 : Exa Z h0 r1 "[B") (F_bytes_a1 : Fld Z h0 a1 "com/example/daylily/daylily/engine/ByteWriter" "bytes" "[B" (.ref r1)) (F_length_a1 : Fld Z h0 a1 "com/example/daylily/daylily/engine/ByteWriter" "length" "I" (.int (8 : Int32))) :
    Met1 l Z (⟨"com/example/daylily/daylily/engine/ByteWriter", "toByteArray", "()[B"⟩ : MethodName) prog_10_method_4_code 1 (some (.array .byte)) ({ frames := 2, cells := 1, slots := 8, locals := 28 } : Room) #[(.ref a1)] h0 (Q10_c Z a1 r1 ar_r1 h0 n0) := by
  refine own_met_of (plainFor_of_name pn_1) (ef_10_c a1) ?_
  intro p e s m below meth c s₁ X hx hby hml hZ hown hnm hret hlk eT
  have hown : s.vm.findClass "com/example/daylily/daylily/engine/ByteWriter" = some m.cls := hown
  have N := Fr.nil n0
  have K := Keep.refl h0 []
  refine own_aloadN X hx hby (.ref a1) d10_0 rfl rfl 1 rfl ?_
  refine own_getF X hx hby hZ hown (host := "") (Or.inl (hw _ (List.mem_of_getElem? (i := 10) rfl))) Via.refl eT F_bytes_a1 d10_1 4 rfl ?_
  intro T1 X eT
  refine own_aloadN X hx hby (.ref a1) d10_4 rfl rfl 5 rfl ?_
  refine own_getF X hx hby hZ hown (host := "") (Or.inl (hw _ (List.mem_of_getElem? (i := 21) rfl))) Via.refl eT F_length_a1 d10_5 8 rfl ?_
  intro T5 X eT
  refine own_callS X hx hby hZ (st := []) [(.ref r1), (.int (8 : Int32))] rfl hown (hw _ (List.mem_of_getElem? (i := 27) rfl)) (hw _ (List.mem_of_getElem? (i := 28) rfl)) (hw _ (List.mem_of_getElem? (i := 29) rfl)) (hw _ (List.mem_of_getElem? (i := 30) rfl)) (by decide) d10_8 (rm6_c l Z a0 hw r1 ar_r1 h0 n0 Zs A_r1 E_r1) eT pd_8 rfl (by rw [hml]; rfl) (by decide) 0 rfl (by decide) (by decide) (by decide) 11 rfl ?_
  intro T8 L9 v9 X hQ
  obtain ⟨h8, eT⟩ : ∃ z, T8.heap = z := ⟨_, rfl⟩
  rw [eT] at hQ
  have lt_a1 := F_bytes_a1.lt
  have lt_r1 := A_r1.lt
  obtain ⟨b8b7, rfl, N9, Kc, hs_b8b7, A_b8b7, E_b8b7⟩ := hQ
  have g_b8b7 : n0 ≤ b8b7 := Nat.le_trans Zs hs_b8b7
  have sz_b8b7 : h0.size ≤ b8b7 := Nat.le_trans K.1 hs_b8b7
  have ne_a1_b8b7 : a1 ≠ b8b7 := Nat.ne_of_lt (Nat.lt_of_lt_of_le lt_a1 hs_b8b7)
  have ne_r1_b8b7 : r1 ≠ b8b7 := Nat.ne_of_lt (Nat.lt_of_lt_of_le lt_r1 hs_b8b7)
  have A_r1 := A_r1.keep Kc nin0
  have E_r1 := E_r1.keep Kc
  have F_bytes_a1 := F_bytes_a1.keep Kc nin0
  have F_length_a1 := F_length_a1.keep Kc nin0
  have K := K.trans Kc all0
  have Zs := Nat.le_trans Zs Kc.1
  have N := Fr.app N N9
  show Go p e below _ T8 (mkF m 11 #[.val (.ref a1)] [(.ref b8b7)])
  refine own_retA X hx hby hret hlk rfl rfl rfl d10_11 (by decide) (by decide) ?_
  rw [eT]
  exact ⟨b8b7, rfl, N, K, sz_b8b7, A_b8b7, E_b8b7⟩
theorem ef_10_n (a1 : Addr) (m : MethodId) : entryFrame m #[(.ref a1)] 1 = mkF m 0 #[.val (.ref a1)] [] := by first | (simp [entryFrame, mkF, argsToLocals, Value.category]; done) | rfl
def Q10_n (Z : State) (a1 : Addr) (r1 : Addr) (ar_r1 : Nat → Int32) (n1 : Nat) (h0 : Heap) (n0 : Nat) (v : Option Value) (h : Heap) (L : List Loc) : Prop := ∃ (b8b15 : Addr), v = some (.ref b8b15) ∧ Fr n0 L ∧ Keep h0 h [] ∧ h0.size ≤ b8b15 ∧ Afi Z h b8b15 .byte 8 (own_cp ar_r1 (Int32.toNatClampNeg (f7 (Int32.ofNat n1) (8 : Int32)))) ∧ Exa Z h b8b15 "[B"
set_option maxRecDepth 65536 in
set_option maxHeartbeats 40000000 in
theorem rm10_n (l : Launch) (Z : State) (a0 : Array Value) (hw : ∀ d ∈ tables_1, d.before a0 Z = true) (a1 : Addr) (r1 : Addr) (ar_r1 : Nat → Int32) (n1 : Nat) (h0 : Heap) (n0 : Nat) (Zs : n0 ≤ h0.size) (hne : ¬ (8 : Int32) = (Int32.ofNat n1)) (hn : n1 < 16) (A_r1 : Afi Z h0 r1 .byte n1 ar_r1) (E_r1 : Exa Z h0 r1 "[B") (F_bytes_a1 : Fld Z h0 a1 "com/example/daylily/daylily/engine/ByteWriter" "bytes" "[B" (.ref r1)) (F_length_a1 : Fld Z h0 a1 "com/example/daylily/daylily/engine/ByteWriter" "length" "I" (.int (8 : Int32))) :
    Met1 l Z (⟨"com/example/daylily/daylily/engine/ByteWriter", "toByteArray", "()[B"⟩ : MethodName) prog_10_method_4_code 1 (some (.array .byte)) ({ frames := 2, cells := 1, slots := 15, locals := 32 } : Room) #[(.ref a1)] h0 (Q10_n Z a1 r1 ar_r1 n1 h0 n0) := by
  refine own_met_of (plainFor_of_name pn_1) (ef_10_n a1) ?_
  intro p e s m below meth c s₁ X hx hby hml hZ hown hnm hret hlk eT
  have hown : s.vm.findClass "com/example/daylily/daylily/engine/ByteWriter" = some m.cls := hown
  have N := Fr.nil n0
  have K := Keep.refl h0 []
  refine own_aloadN X hx hby (.ref a1) d10_0 rfl rfl 1 rfl ?_
  refine own_getF X hx hby hZ hown (host := "") (Or.inl (hw _ (List.mem_of_getElem? (i := 10) rfl))) Via.refl eT F_bytes_a1 d10_1 4 rfl ?_
  intro T1 X eT
  refine own_aloadN X hx hby (.ref a1) d10_4 rfl rfl 5 rfl ?_
  refine own_getF X hx hby hZ hown (host := "") (Or.inl (hw _ (List.mem_of_getElem? (i := 21) rfl))) Via.refl eT F_length_a1 d10_5 8 rfl ?_
  intro T5 X eT
  refine own_callS X hx hby hZ (st := []) [(.ref r1), (.int (8 : Int32))] rfl hown (hw _ (List.mem_of_getElem? (i := 27) rfl)) (hw _ (List.mem_of_getElem? (i := 28) rfl)) (hw _ (List.mem_of_getElem? (i := 29) rfl)) (hw _ (List.mem_of_getElem? (i := 30) rfl)) (by decide) d10_8 (rm6_n l Z a0 hw r1 (8 : Int32) ar_r1 n1 h0 n0 Zs hne (by decide) hn A_r1 E_r1) eT pd_8 rfl (by rw [hml]; rfl) (by decide) 0 rfl (by decide) (by decide) (by decide) 11 rfl ?_
  intro T8 L9 v9 X hQ
  obtain ⟨h8, eT⟩ : ∃ z, T8.heap = z := ⟨_, rfl⟩
  rw [eT] at hQ
  have lt_a1 := F_bytes_a1.lt
  have lt_r1 := A_r1.lt
  obtain ⟨b8b15, rfl, N9, Kc, hs_b8b15, A_b8b15, E_b8b15⟩ := hQ
  have g_b8b15 : n0 ≤ b8b15 := Nat.le_trans Zs hs_b8b15
  have sz_b8b15 : h0.size ≤ b8b15 := Nat.le_trans K.1 hs_b8b15
  have ne_a1_b8b15 : a1 ≠ b8b15 := Nat.ne_of_lt (Nat.lt_of_lt_of_le lt_a1 hs_b8b15)
  have ne_r1_b8b15 : r1 ≠ b8b15 := Nat.ne_of_lt (Nat.lt_of_lt_of_le lt_r1 hs_b8b15)
  have A_r1 := A_r1.keep Kc nin0
  have E_r1 := E_r1.keep Kc
  have F_bytes_a1 := F_bytes_a1.keep Kc nin0
  have F_length_a1 := F_length_a1.keep Kc nin0
  have K := K.trans Kc all0
  have Zs := Nat.le_trans Zs Kc.1
  have N := Fr.app N N9
  show Go p e below _ T8 (mkF m 11 #[.val (.ref a1)] [(.ref b8b15)])
  refine own_retA X hx hby hret hlk rfl rfl rfl d10_11 (by decide) (by decide) ?_
  rw [eT]
  exact ⟨b8b15, rfl, N, K, sz_b8b15, A_b8b15, E_b8b15⟩
theorem ef_11 (a1 : Addr) (p2 : Int32) (p3 : Int32) (p4 : Int32) (p5 : Int32) (p6 : Int32) (m : MethodId) : entryFrame m #[(.ref a1), (.int p2), (.int p3), (.int p4), (.int p5), (.int p6)] 7 = mkF m 0 #[.val (.ref a1), .val (.int p2), .val (.int p3), .val (.int p4), .val (.int p5), .val (.int p6), .unset] [] := by first | (simp [entryFrame, mkF, argsToLocals, Value.category]; done) | rfl
def f11 (p2 : Int32) (p3 : Int32) (p4 : Int32) (p5 : Int32) (p6 : Int32) (ar_a1 : Nat → Int32) : Int32 := (if p2 < p3 then (if p2 < (4 : Int32) then (if (ar_a1 (Int32.toNatClampNeg p2)) = (((p4.toUInt32 >>> (((24 : Int32) - ((8 : Int32) * p2)) &&& 31).toUInt32).toInt32).toInt8.toInt32) then (1 : Int32) else (0 : Int32)) else (if (ar_a1 (Int32.toNatClampNeg p2)) = (((p5.toUInt32 >>> (((56 : Int32) - ((8 : Int32) * p2)) &&& 31).toUInt32).toInt32).toInt8.toInt32) then (1 : Int32) else (0 : Int32))) else (if p2 < (p3 + (4 : Int32)) then (if (ar_a1 (Int32.toNatClampNeg p2)) = (((p6.toUInt32 >>> (((24 : Int32) - ((8 : Int32) * (p2 - p3))) &&& 31).toUInt32).toInt32).toInt8.toInt32) then (1 : Int32) else (0 : Int32)) else (if p2 < (4 : Int32) then (if (ar_a1 (Int32.toNatClampNeg p2)) = (((p4.toUInt32 >>> (((24 : Int32) - ((8 : Int32) * p2)) &&& 31).toUInt32).toInt32).toInt8.toInt32) then (1 : Int32) else (0 : Int32)) else (if (ar_a1 (Int32.toNatClampNeg p2)) = (((p5.toUInt32 >>> (((56 : Int32) - ((8 : Int32) * p2)) &&& 31).toUInt32).toInt32).toInt8.toInt32) then (1 : Int32) else (0 : Int32)))))
def Q11 (Z : State) (a1 : Addr) (p2 : Int32) (p3 : Int32) (p4 : Int32) (p5 : Int32) (p6 : Int32) (ar_a1 : Nat → Int32) (h0 : Heap) (n0 : Nat) (v : Option Value) (h : Heap) (L : List Loc) : Prop := v = some (.int (f11 p2 p3 p4 p5 p6 ar_a1)) ∧ Fr n0 L ∧ h = h0
set_option maxRecDepth 65536 in
set_option maxHeartbeats 40000000 in
theorem rm11 (l : Launch) (Z : State) (a0 : Array Value) (hw : ∀ d ∈ tables_1, d.before a0 Z = true) (a1 : Addr) (p2 : Int32) (p3 : Int32) (p4 : Int32) (p5 : Int32) (p6 : Int32) (ar_a1 : Nat → Int32) (h0 : Heap) (n0 : Nat) (Zs : n0 ≤ h0.size) (hin : ¬ (p2 < 0 ∨ 8 ≤ Int32.toNatClampNeg p2)) (A_a1 : Afi Z h0 a1 .byte 8 ar_a1) (E_a1 : Exa Z h0 a1 "[B") :
    Met1 l Z (⟨"com/example/daylily/daylily/engine/ByteWriterSetIntPinLaw", "ok", "([BIIIII)Z"⟩ : MethodName) method_3_code 7 (some .boolean) ({ frames := 0, cells := 0, slots := 0, locals := 0 } : Room) #[(.ref a1), (.int p2), (.int p3), (.int p4), (.int p5), (.int p6)] h0 (Q11 Z a1 p2 p3 p4 p5 p6 ar_a1 h0 n0) := by
  refine own_met_of (plainFor_of_name pn_11) (ef_11 a1 p2 p3 p4 p5 p6) ?_
  intro p e s m below meth c s₁ X hx hby hml hZ hown hnm hret hlk eT
  have hown : s.vm.findClass "com/example/daylily/daylily/engine/ByteWriterSetIntPinLaw" = some m.cls := hown
  have N := Fr.nil n0
  refine own_iloadN X hx hby p2 d11_0 rfl 1 rfl ?_
  refine own_iloadN X hx hby p3 d11_1 rfl 2 rfl ?_
  refine own_icmp_lt X hx hby d11_2 30 5 (by decide) rfl (fun c2 => ?_) (fun c2 => ?_)
  · skip
    refine own_iloadN X hx hby p2 d11_30 rfl 31 rfl ?_
    refine own_iconst X hx hby (4 : Int32) d11_31 rfl 32 rfl ?_
    refine own_icmp_ge X hx hby d11_32 50 35 (by decide) rfl (fun c32 => ?_) (fun c32 => ?_)
    · skip
      refine own_iload X hx hby p5 d11_50 rfl 52 rfl ?_
      refine own_bipush X hx hby (56 : Int32) d11_52 rfl 54 rfl ?_
      refine own_bipush X hx hby (8 : Int32) d11_54 rfl 56 rfl ?_
      refine own_iloadN X hx hby p2 d11_56 rfl 57 rfl ?_
      refine own_imul X hx hby d11_57 58 rfl ?_
      refine own_isub X hx hby d11_58 59 rfl ?_
      refine own_iushr X hx hby d11_59 60 rfl ?_
      refine own_i2b X hx hby d11_60 61 rfl ?_
      refine own_istore X hx hby d11_61 rfl (l' := #[.val (.ref a1), .val (.int p2), .val (.int p3), .val (.int p4), .val (.int p5), .val (.int p6), .val (.int (((p5.toUInt32 >>> (((56 : Int32) - ((8 : Int32) * p2)) &&& 31).toUInt32).toInt32).toInt8.toInt32))]) rfl 63 rfl ?_
      refine own_aloadN X hx hby (.ref a1) d11_63 rfl rfl 64 rfl ?_
      refine own_iloadN X hx hby p2 d11_64 rfl 65 rfl ?_
      refine own_baload X hx hby hZ (ar_a1 (Int32.toNatClampNeg p2)) eT A_a1 hin rfl d11_65 66 rfl ?_
      refine own_iload X hx hby (((p5.toUInt32 >>> (((56 : Int32) - ((8 : Int32) * p2)) &&& 31).toUInt32).toInt32).toInt8.toInt32) d11_66 rfl 68 rfl ?_
      refine own_icmp_ne X hx hby d11_68 75 71 (by decide) rfl (fun c68 => ?_) (fun c68 => ?_)
      · skip
        refine own_iconst X hx hby (0 : Int32) d11_75 rfl 76 rfl ?_
        refine own_retN X hx hby hret hlk (t := .boolean) (z' := (0 : Int32)) (by simp) d11_76 (by decide) (by decide) rfl ?_
        rw [eT]
        exact ⟨congrArg (fun z => some (Value.int z)) (by unfold f11; rw [if_pos c2, if_neg c32, if_neg c68]), N, rfl⟩
      · skip
        refine own_iconst X hx hby (1 : Int32) d11_71 rfl 72 rfl ?_
        refine own_goto X hx hby d11_72 76 (by decide) ?_
        refine own_retN X hx hby hret hlk (t := .boolean) (z' := (1 : Int32)) (by simp) d11_76 (by decide) (by decide) rfl ?_
        rw [eT]
        exact ⟨congrArg (fun z => some (Value.int z)) (by unfold f11; rw [if_pos c2, if_neg c32, if_pos c68]), N, rfl⟩
    · skip
      refine own_iloadN X hx hby p4 d11_35 rfl 36 rfl ?_
      refine own_bipush X hx hby (24 : Int32) d11_36 rfl 38 rfl ?_
      refine own_bipush X hx hby (8 : Int32) d11_38 rfl 40 rfl ?_
      refine own_iloadN X hx hby p2 d11_40 rfl 41 rfl ?_
      refine own_imul X hx hby d11_41 42 rfl ?_
      refine own_isub X hx hby d11_42 43 rfl ?_
      refine own_iushr X hx hby d11_43 44 rfl ?_
      refine own_i2b X hx hby d11_44 45 rfl ?_
      refine own_istore X hx hby d11_45 rfl (l' := #[.val (.ref a1), .val (.int p2), .val (.int p3), .val (.int p4), .val (.int p5), .val (.int p6), .val (.int (((p4.toUInt32 >>> (((24 : Int32) - ((8 : Int32) * p2)) &&& 31).toUInt32).toInt32).toInt8.toInt32))]) rfl 47 rfl ?_
      refine own_goto X hx hby d11_47 63 (by decide) ?_
      refine own_aloadN X hx hby (.ref a1) d11_63 rfl rfl 64 rfl ?_
      refine own_iloadN X hx hby p2 d11_64 rfl 65 rfl ?_
      refine own_baload X hx hby hZ (ar_a1 (Int32.toNatClampNeg p2)) eT A_a1 hin rfl d11_65 66 rfl ?_
      refine own_iload X hx hby (((p4.toUInt32 >>> (((24 : Int32) - ((8 : Int32) * p2)) &&& 31).toUInt32).toInt32).toInt8.toInt32) d11_66 rfl 68 rfl ?_
      refine own_icmp_ne X hx hby d11_68 75 71 (by decide) rfl (fun c68 => ?_) (fun c68 => ?_)
      · skip
        refine own_iconst X hx hby (0 : Int32) d11_75 rfl 76 rfl ?_
        refine own_retN X hx hby hret hlk (t := .boolean) (z' := (0 : Int32)) (by simp) d11_76 (by decide) (by decide) rfl ?_
        rw [eT]
        exact ⟨congrArg (fun z => some (Value.int z)) (by unfold f11; rw [if_pos c2, if_pos c32, if_neg c68]), N, rfl⟩
      · skip
        refine own_iconst X hx hby (1 : Int32) d11_71 rfl 72 rfl ?_
        refine own_goto X hx hby d11_72 76 (by decide) ?_
        refine own_retN X hx hby hret hlk (t := .boolean) (z' := (1 : Int32)) (by simp) d11_76 (by decide) (by decide) rfl ?_
        rw [eT]
        exact ⟨congrArg (fun z => some (Value.int z)) (by unfold f11; rw [if_pos c2, if_pos c32, if_pos c68]), N, rfl⟩
  · skip
    refine own_iloadN X hx hby p2 d11_5 rfl 6 rfl ?_
    refine own_iloadN X hx hby p3 d11_6 rfl 7 rfl ?_
    refine own_iconst X hx hby (4 : Int32) d11_7 rfl 8 rfl ?_
    refine own_iadd X hx hby d11_8 9 rfl ?_
    refine own_icmp_ge X hx hby d11_9 30 12 (by decide) rfl (fun c9 => ?_) (fun c9 => ?_)
    · skip
      refine own_iloadN X hx hby p2 d11_30 rfl 31 rfl ?_
      refine own_iconst X hx hby (4 : Int32) d11_31 rfl 32 rfl ?_
      refine own_icmp_ge X hx hby d11_32 50 35 (by decide) rfl (fun c32 => ?_) (fun c32 => ?_)
      · skip
        refine own_iload X hx hby p5 d11_50 rfl 52 rfl ?_
        refine own_bipush X hx hby (56 : Int32) d11_52 rfl 54 rfl ?_
        refine own_bipush X hx hby (8 : Int32) d11_54 rfl 56 rfl ?_
        refine own_iloadN X hx hby p2 d11_56 rfl 57 rfl ?_
        refine own_imul X hx hby d11_57 58 rfl ?_
        refine own_isub X hx hby d11_58 59 rfl ?_
        refine own_iushr X hx hby d11_59 60 rfl ?_
        refine own_i2b X hx hby d11_60 61 rfl ?_
        refine own_istore X hx hby d11_61 rfl (l' := #[.val (.ref a1), .val (.int p2), .val (.int p3), .val (.int p4), .val (.int p5), .val (.int p6), .val (.int (((p5.toUInt32 >>> (((56 : Int32) - ((8 : Int32) * p2)) &&& 31).toUInt32).toInt32).toInt8.toInt32))]) rfl 63 rfl ?_
        refine own_aloadN X hx hby (.ref a1) d11_63 rfl rfl 64 rfl ?_
        refine own_iloadN X hx hby p2 d11_64 rfl 65 rfl ?_
        refine own_baload X hx hby hZ (ar_a1 (Int32.toNatClampNeg p2)) eT A_a1 hin rfl d11_65 66 rfl ?_
        refine own_iload X hx hby (((p5.toUInt32 >>> (((56 : Int32) - ((8 : Int32) * p2)) &&& 31).toUInt32).toInt32).toInt8.toInt32) d11_66 rfl 68 rfl ?_
        refine own_icmp_ne X hx hby d11_68 75 71 (by decide) rfl (fun c68 => ?_) (fun c68 => ?_)
        · skip
          refine own_iconst X hx hby (0 : Int32) d11_75 rfl 76 rfl ?_
          refine own_retN X hx hby hret hlk (t := .boolean) (z' := (0 : Int32)) (by simp) d11_76 (by decide) (by decide) rfl ?_
          rw [eT]
          exact ⟨congrArg (fun z => some (Value.int z)) (by unfold f11; rw [if_neg c2, if_neg c9, if_neg c32, if_neg c68]), N, rfl⟩
        · skip
          refine own_iconst X hx hby (1 : Int32) d11_71 rfl 72 rfl ?_
          refine own_goto X hx hby d11_72 76 (by decide) ?_
          refine own_retN X hx hby hret hlk (t := .boolean) (z' := (1 : Int32)) (by simp) d11_76 (by decide) (by decide) rfl ?_
          rw [eT]
          exact ⟨congrArg (fun z => some (Value.int z)) (by unfold f11; rw [if_neg c2, if_neg c9, if_neg c32, if_pos c68]), N, rfl⟩
      · skip
        refine own_iloadN X hx hby p4 d11_35 rfl 36 rfl ?_
        refine own_bipush X hx hby (24 : Int32) d11_36 rfl 38 rfl ?_
        refine own_bipush X hx hby (8 : Int32) d11_38 rfl 40 rfl ?_
        refine own_iloadN X hx hby p2 d11_40 rfl 41 rfl ?_
        refine own_imul X hx hby d11_41 42 rfl ?_
        refine own_isub X hx hby d11_42 43 rfl ?_
        refine own_iushr X hx hby d11_43 44 rfl ?_
        refine own_i2b X hx hby d11_44 45 rfl ?_
        refine own_istore X hx hby d11_45 rfl (l' := #[.val (.ref a1), .val (.int p2), .val (.int p3), .val (.int p4), .val (.int p5), .val (.int p6), .val (.int (((p4.toUInt32 >>> (((24 : Int32) - ((8 : Int32) * p2)) &&& 31).toUInt32).toInt32).toInt8.toInt32))]) rfl 47 rfl ?_
        refine own_goto X hx hby d11_47 63 (by decide) ?_
        refine own_aloadN X hx hby (.ref a1) d11_63 rfl rfl 64 rfl ?_
        refine own_iloadN X hx hby p2 d11_64 rfl 65 rfl ?_
        refine own_baload X hx hby hZ (ar_a1 (Int32.toNatClampNeg p2)) eT A_a1 hin rfl d11_65 66 rfl ?_
        refine own_iload X hx hby (((p4.toUInt32 >>> (((24 : Int32) - ((8 : Int32) * p2)) &&& 31).toUInt32).toInt32).toInt8.toInt32) d11_66 rfl 68 rfl ?_
        refine own_icmp_ne X hx hby d11_68 75 71 (by decide) rfl (fun c68 => ?_) (fun c68 => ?_)
        · skip
          refine own_iconst X hx hby (0 : Int32) d11_75 rfl 76 rfl ?_
          refine own_retN X hx hby hret hlk (t := .boolean) (z' := (0 : Int32)) (by simp) d11_76 (by decide) (by decide) rfl ?_
          rw [eT]
          exact ⟨congrArg (fun z => some (Value.int z)) (by unfold f11; rw [if_neg c2, if_neg c9, if_pos c32, if_neg c68]), N, rfl⟩
        · skip
          refine own_iconst X hx hby (1 : Int32) d11_71 rfl 72 rfl ?_
          refine own_goto X hx hby d11_72 76 (by decide) ?_
          refine own_retN X hx hby hret hlk (t := .boolean) (z' := (1 : Int32)) (by simp) d11_76 (by decide) (by decide) rfl ?_
          rw [eT]
          exact ⟨congrArg (fun z => some (Value.int z)) (by unfold f11; rw [if_neg c2, if_neg c9, if_pos c32, if_pos c68]), N, rfl⟩
    · skip
      refine own_iload X hx hby p6 d11_12 rfl 14 rfl ?_
      refine own_bipush X hx hby (24 : Int32) d11_14 rfl 16 rfl ?_
      refine own_bipush X hx hby (8 : Int32) d11_16 rfl 18 rfl ?_
      refine own_iloadN X hx hby p2 d11_18 rfl 19 rfl ?_
      refine own_iloadN X hx hby p3 d11_19 rfl 20 rfl ?_
      refine own_isub X hx hby d11_20 21 rfl ?_
      refine own_imul X hx hby d11_21 22 rfl ?_
      refine own_isub X hx hby d11_22 23 rfl ?_
      refine own_iushr X hx hby d11_23 24 rfl ?_
      refine own_i2b X hx hby d11_24 25 rfl ?_
      refine own_istore X hx hby d11_25 rfl (l' := #[.val (.ref a1), .val (.int p2), .val (.int p3), .val (.int p4), .val (.int p5), .val (.int p6), .val (.int (((p6.toUInt32 >>> (((24 : Int32) - ((8 : Int32) * (p2 - p3))) &&& 31).toUInt32).toInt32).toInt8.toInt32))]) rfl 27 rfl ?_
      refine own_goto X hx hby d11_27 63 (by decide) ?_
      refine own_aloadN X hx hby (.ref a1) d11_63 rfl rfl 64 rfl ?_
      refine own_iloadN X hx hby p2 d11_64 rfl 65 rfl ?_
      refine own_baload X hx hby hZ (ar_a1 (Int32.toNatClampNeg p2)) eT A_a1 hin rfl d11_65 66 rfl ?_
      refine own_iload X hx hby (((p6.toUInt32 >>> (((24 : Int32) - ((8 : Int32) * (p2 - p3))) &&& 31).toUInt32).toInt32).toInt8.toInt32) d11_66 rfl 68 rfl ?_
      refine own_icmp_ne X hx hby d11_68 75 71 (by decide) rfl (fun c68 => ?_) (fun c68 => ?_)
      · skip
        refine own_iconst X hx hby (0 : Int32) d11_75 rfl 76 rfl ?_
        refine own_retN X hx hby hret hlk (t := .boolean) (z' := (0 : Int32)) (by simp) d11_76 (by decide) (by decide) rfl ?_
        rw [eT]
        exact ⟨congrArg (fun z => some (Value.int z)) (by unfold f11; rw [if_neg c2, if_pos c9, if_neg c68]), N, rfl⟩
      · skip
        refine own_iconst X hx hby (1 : Int32) d11_71 rfl 72 rfl ?_
        refine own_goto X hx hby d11_72 76 (by decide) ?_
        refine own_retN X hx hby hret hlk (t := .boolean) (z' := (1 : Int32)) (by simp) d11_76 (by decide) (by decide) rfl ?_
        rw [eT]
        exact ⟨congrArg (fun z => some (Value.int z)) (by unfold f11; rw [if_neg c2, if_pos c9, if_pos c68]), N, rfl⟩
theorem ef_0 (p1 : Int32) (p2 : Int32) (p3 : Int32) (p4 : Int32) (p5 : Int32) (m : MethodId) : entryFrame m #[(.int p1), (.int p2), (.int p3), (.int p4), (.int p5)] maxLocals = mkF m 0 #[.val (.int p1), .val (.int p2), .val (.int p3), .val (.int p4), .val (.int p5), .unset, .unset, .unset] [] := by first | (simp [entryFrame, mkF, argsToLocals, Value.category, maxLocals]; done) | rfl
def Q0 (Z : State) (p1 : Int32) (p2 : Int32) (p3 : Int32) (p4 : Int32) (p5 : Int32) (h0 : Heap) (n0 : Nat) (v : Option Value) (h : Heap) (L : List Loc) : Prop := v = some (.int (1 : Int32)) ∧ Fr n0 L
theorem own_m15 (x : Int32) : 0 ≤ (x &&& (15 : Int32)).toInt ∧ (x &&& (15 : Int32)).toInt < 16 := by
  have h := c_mask x (15 : Int32) 4 (by decide) (by decide)
  omega
theorem own_three {n : Nat} (hn : n < 16) : (¬ Int32.ofNat n < (4 : Int32) ∧ ¬ Int32.ofNat n < (8 : Int32)) ∨ (¬ Int32.ofNat n < (4 : Int32) ∧ Int32.ofNat n < (8 : Int32) ∧ n < 8) ∨ (Int32.ofNat n < (4 : Int32) ∧ n < 4) := by
  have a := own_lt hn (k := 4) (by decide)
  have b := own_lt hn (k := 8) (by decide)
  by_cases q : n < 4
  · exact Or.inr (Or.inr ⟨a.mpr q, q⟩)
  · by_cases r : n < 8
    · exact Or.inr (Or.inl ⟨fun z => q (a.mp z), b.mpr r, r⟩)
    · exact Or.inl ⟨fun z => q (a.mp z), fun z => r (b.mp z)⟩
theorem own_five (z v : Int32) (e : ((z &&& (2147483647 : Int32)) % (5 : Int32)) = v) : v = (0 : Int32) ∨ v = (1 : Int32) ∨ v = (2 : Int32) ∨ v = (3 : Int32) ∨ v = (4 : Int32) := by
  have h := c_mask z (2147483647 : Int32) 31 (by decide) (by decide)
  have h1 := c_irem (z &&& (2147483647 : Int32)) (5 : Int32) 5 (by decide)
  rw [e] at h1
  have h2 := h1.1 (by omega)
  simp only [← Int32.toInt_inj, Int32.reduceToInt]
  omega
theorem own_nb (z : Int32) : nar .byte (z.toInt8.toInt32) = z.toInt8.toInt32 := by
  show z.toInt8.toInt32.toInt8.toInt32 = z.toInt8.toInt32
  rw [Int8.toInt8_toInt32]
theorem own_n8 {n : Nat} (q : ¬ n = 8) (h : n < 16) : ¬ (8 : Int32) = Int32.ofNat n := by
  intro r
  have h1 := (own_ofN (own_s31 h)).2.2
  rw [← r] at h1
  have h2 : (8 : Int32).toInt = 8 := rfl
  omega
theorem own_cpi {f : Nat → Int32} {k i : Nat} (h : i < k) : own_cp f k i = f i := if_pos h
theorem own_ck {n : Nat} (hn : n < 16) {z : Int32} (hz : 0 ≤ z.toInt ∧ z.toInt < 16) {i : Nat} (h1 : i < n) (h2 : i < z.toNatClampNeg) : i < (f7 (Int32.ofNat n) z).toNatClampNeg := by
  have h := own_min hn z hz.1
  simp only [Int32.toNatClampNeg] at h2 ⊢
  split at h <;> omega
theorem own_okv (i t a b v sh : Int32) (ar : Nat → Int32) (h1 : ¬ i < t) (h2 : i < (t + (4 : Int32))) (h : ((24 : Int32) - ((8 : Int32) * (i - t))) = sh) (ha : ar (Int32.toNatClampNeg i) = nar .byte (((v.toUInt32 >>> (sh &&& 31).toUInt32).toInt32).toInt8.toInt32)) : ¬ f11 i t a b v ar = (0 : Int32) := by
  rw [own_nb] at ha
  unfold f11
  rw [if_neg h1, if_pos h2, h, if_pos ha]
  decide
theorem own_oka (i t a b v sh : Int32) (ar : Nat → Int32) (h1 : i < t ∨ ¬ i < (t + (4 : Int32))) (h3 : i < (4 : Int32)) (h : ((24 : Int32) - ((8 : Int32) * i)) = sh) (ha : ar (Int32.toNatClampNeg i) = nar .byte (((a.toUInt32 >>> (sh &&& 31).toUInt32).toInt32).toInt8.toInt32)) : ¬ f11 i t a b v ar = (0 : Int32) := by
  rw [own_nb] at ha
  unfold f11
  by_cases q : i < t
  · rw [if_pos q, if_pos h3, h, if_pos ha]
    decide
  · have q2 := h1.resolve_left q
    rw [if_neg q, if_neg q2, if_pos h3, h, if_pos ha]
    decide
theorem own_okb (i t a b v sh : Int32) (ar : Nat → Int32) (h1 : i < t ∨ ¬ i < (t + (4 : Int32))) (h3 : ¬ i < (4 : Int32)) (h : ((56 : Int32) - ((8 : Int32) * i)) = sh) (ha : ar (Int32.toNatClampNeg i) = nar .byte (((b.toUInt32 >>> (sh &&& 31).toUInt32).toInt32).toInt8.toInt32)) : ¬ f11 i t a b v ar = (0 : Int32) := by
  rw [own_nb] at ha
  unfold f11
  by_cases q : i < t
  · rw [if_pos q, if_neg h3, h, if_pos ha]
    decide
  · have q2 := h1.resolve_left q
    rw [if_neg q, if_neg q2, if_neg h3, h, if_pos ha]
    decide
set_option maxRecDepth 65536 in
set_option maxHeartbeats 40000000 in
theorem rm0 (l : Launch) (Z : State) (a0 : Array Value) (hw : ∀ d ∈ tables_1, d.before a0 Z = true) (p1 : Int32) (p2 : Int32) (p3 : Int32) (p4 : Int32) (p5 : Int32) (h0 : Heap) (n0 : Nat) (Zs : n0 ≤ h0.size) :
    Met1 l Z x code maxLocals ret room_1 #[(.int p1), (.int p2), (.int p3), (.int p4), (.int p5)] h0 (Q0 Z p1 p2 p3 p4 p5 h0 n0) := by
  refine own_met_of (plainFor_of_name pn_11) (ef_0 p1 p2 p3 p4 p5) ?_
  intro p e s m below meth c s₁ X hx hby hml hZ hown hnm hret hlk eT
  have hown : s.vm.findClass "com/example/daylily/daylily/engine/ByteWriterSetIntPinLaw" = some m.cls := hown
  have N := Fr.nil n0
  have K := Keep.refl h0 []
  refine own_new X hx hby hZ hown (hw _ (List.mem_of_getElem? (i := 0) rfl)) (hw _ (List.mem_of_getElem? (i := 1) rfl)) (hw _ (List.mem_of_getElem? (i := 2) rfl)) eT at_0 (by decide) (by decide) 3 rfl ?_
  intro T0 hz0 b0 gb0 X eT Ex A D
  have g_b0 : n0 ≤ b0 := by rw [gb0]; exact Zs
  have sz_b0 : h0.size ≤ b0 := by rw [gb0]; exact K.1
  have E_b0 := A
  have F_bytes_b0 : Fld Z hz0 b0 "com/example/daylily/daylily/engine/ByteWriter" "bytes" "[B" .null := D (Or.inl (hw _ (List.mem_of_getElem? (i := 11) rfl))) (ty := (.array .byte)) (by decide)
  have F_length_b0 : Fld Z hz0 b0 "com/example/daylily/daylily/engine/ByteWriter" "length" "I" (.int (0 : Int32)) := D (Or.inl (hw _ (List.mem_of_getElem? (i := 22) rfl))) (ty := .int) (by decide)
  have K := K.ext Ex
  have Zs := Nat.le_trans Zs Ex.1
  refine own_dup X hx hby at_3 rfl 4 rfl ?_
  refine own_iloadN X hx hby p1 at_4 rfl 5 rfl ?_
  refine own_bipush X hx hby (15 : Int32) at_5 rfl 7 rfl ?_
  refine own_iand X hx hby at_7 8 rfl ?_
  refine own_callC X hx hby hZ (st := [(.ref b0)]) [(.int (p1 &&& (15 : Int32)))] rfl rfl hown (hw _ (List.mem_of_getElem? (i := 3) rfl)) (hw _ (List.mem_of_getElem? (i := 4) rfl)) (hw _ (List.mem_of_getElem? (i := 2) rfl)) (hw _ (List.mem_of_getElem? (i := 5) rfl)) (by decide) at_8 (rm1 l Z a0 hw b0 (p1 &&& (15 : Int32)) hz0 n0 Zs (own_m15 p1) E_b0 F_bytes_b0 F_length_b0 g_b0) eT pd_4 rfl (by rw [hml]; rfl) (by decide) 1 rfl (by decide) (by decide) (by decide) 11 rfl ?_
  intro T8 L9 v9 X hQ
  obtain ⟨h8, eT⟩ : ∃ z, T8.heap = z := ⟨_, rfl⟩
  rw [eT] at hQ
  have lt_b0 := E_b0.lt
  obtain ⟨b8b6, rfl, N9, Kc, hs_b8b6, E_b0, F_bytes_b0, F_length_b0, A_b8b6, E_b8b6⟩ := hQ
  have g_b8b6 : n0 ≤ b8b6 := Nat.le_trans Zs hs_b8b6
  have sz_b8b6 : h0.size ≤ b8b6 := Nat.le_trans K.1 hs_b8b6
  have ne_b0_b8b6 : b0 ≠ b8b6 := Nat.ne_of_lt (Nat.lt_of_lt_of_le lt_b0 hs_b8b6)
  obtain ⟨ar8, ear8⟩ : ∃ z : Nat → Int32, (fun _ => (0 : Int32)) = z := ⟨_, rfl⟩
  rw [ear8] at A_b8b6
  have K := K.trans Kc (allS (Or.inr sz_b0) all0)
  have Zs := Nat.le_trans Zs Kc.1
  have N := Fr.app N N9
  show Go p e below _ T8 (mkF m 11 #[.val (.int p1), .val (.int p2), .val (.int p3), .val (.int p4), .val (.int p5), .unset, .unset, .unset] [(.ref b0)])
  refine own_astore X hx hby at_11 rfl (l' := #[.val (.int p1), .val (.int p2), .val (.int p3), .val (.int p4), .val (.int p5), .val (.ref b0), .unset, .unset]) rfl 13 rfl ?_
  obtain ⟨nn, enn⟩ : ∃ z : Nat, (Int32.toNatClampNeg (p1 &&& (15 : Int32))) = z := ⟨_, rfl⟩
  rw [enn] at A_b8b6
  have hnn : nn < 16 := by rw [← enn]; exact Nat.lt_of_le_of_lt (own_cap (own_m15 p1)) (by decide)
  rcases own_three hnn with ⟨k1, k2⟩ | ⟨k1, k2, k3⟩ | ⟨k1, k3⟩
  · skip
    refine own_aload X hx hby (.ref b0) at_13 rfl rfl 15 rfl ?_
    refine own_iloadN X hx hby p2 at_15 rfl 16 rfl ?_
    refine own_callV X hx hby hZ (st := []) [(.int p2)] rfl hown (hw _ (List.mem_of_getElem? (i := 12) rfl)) (hw _ (List.mem_of_getElem? (i := 13) rfl)) (hw _ (List.mem_of_getElem? (i := 15) rfl)) (hw _ (List.mem_of_getElem? (i := 14) rfl)) (hw _ (List.mem_of_getElem? (i := 2) rfl)) (hw _ (List.mem_of_getElem? (i := 16) rfl)) E_b0 (by decide) at_16 (rm3_0s l Z a0 hw b0 p2 b8b6 ar8 nn h8 n0 Zs k1 hnn A_b8b6 E_b8b6 g_b8b6 E_b0 F_bytes_b0 F_length_b0 g_b0) eT pd_4 rfl (by rw [hml]; rfl) (by decide) 0 rfl (by decide) (by decide) (by decide) 19 rfl ?_
    intro T16 L9 v9 X hQ
    obtain ⟨h16, eT⟩ : ∃ z, T16.heap = z := ⟨_, rfl⟩
    rw [eT] at hQ
    obtain ⟨rfl, N9, Kc, E_b0, F_bytes_b0, F_length_b0, A_b8b6, E_b8b6⟩ := hQ
    obtain ⟨ar16, ear16⟩ : ∃ z : Nat → Int32, (updI (updI (updI (updI ar8 0 (nar .byte (((p2.toUInt32 >>> ((24 : Int32) &&& 31).toUInt32).toInt32).toInt8.toInt32))) 1 (nar .byte (((p2.toUInt32 >>> ((16 : Int32) &&& 31).toUInt32).toInt32).toInt8.toInt32))) 2 (nar .byte (((p2.toUInt32 >>> ((8 : Int32) &&& 31).toUInt32).toInt32).toInt8.toInt32))) 3 (nar .byte (((p2.toUInt32 >>> ((0 : Int32) &&& 31).toUInt32).toInt32).toInt8.toInt32))) = z := ⟨_, rfl⟩
    rw [ear16] at A_b8b6
    have K := K.trans Kc (allS (Or.inr sz_b0) (allS (Or.inr sz_b8b6) all0))
    have Zs := Nat.le_trans Zs Kc.1
    have N := Fr.app N N9
    show Go p e below _ T16 (mkF m 19 #[.val (.int p1), .val (.int p2), .val (.int p3), .val (.int p4), .val (.int p5), .val (.ref b0), .unset, .unset] [])
    refine own_aload X hx hby (.ref b0) at_19 rfl rfl 21 rfl ?_
    refine own_iloadN X hx hby p3 at_21 rfl 22 rfl ?_
    refine own_callV X hx hby hZ (st := []) [(.int p3)] rfl hown (hw _ (List.mem_of_getElem? (i := 12) rfl)) (hw _ (List.mem_of_getElem? (i := 13) rfl)) (hw _ (List.mem_of_getElem? (i := 15) rfl)) (hw _ (List.mem_of_getElem? (i := 14) rfl)) (hw _ (List.mem_of_getElem? (i := 2) rfl)) (hw _ (List.mem_of_getElem? (i := 16) rfl)) E_b0 (by decide) at_22 (rm3_4s l Z a0 hw b0 p3 b8b6 ar16 nn h16 n0 Zs k2 hnn A_b8b6 E_b8b6 g_b8b6 E_b0 F_bytes_b0 F_length_b0 g_b0) eT pd_4 rfl (by rw [hml]; rfl) (by decide) 0 rfl (by decide) (by decide) (by decide) 25 rfl ?_
    intro T22 L9 v9 X hQ
    obtain ⟨h22, eT⟩ : ∃ z, T22.heap = z := ⟨_, rfl⟩
    rw [eT] at hQ
    obtain ⟨rfl, N9, Kc, E_b0, F_bytes_b0, F_length_b0, A_b8b6, E_b8b6⟩ := hQ
    obtain ⟨ar22, ear22⟩ : ∃ z : Nat → Int32, (updI (updI (updI (updI ar16 4 (nar .byte (((p3.toUInt32 >>> ((24 : Int32) &&& 31).toUInt32).toInt32).toInt8.toInt32))) 5 (nar .byte (((p3.toUInt32 >>> ((16 : Int32) &&& 31).toUInt32).toInt32).toInt8.toInt32))) 6 (nar .byte (((p3.toUInt32 >>> ((8 : Int32) &&& 31).toUInt32).toInt32).toInt8.toInt32))) 7 (nar .byte (((p3.toUInt32 >>> ((0 : Int32) &&& 31).toUInt32).toInt32).toInt8.toInt32))) = z := ⟨_, rfl⟩
    rw [ear22] at A_b8b6
    have K := K.trans Kc (allS (Or.inr sz_b0) (allS (Or.inr sz_b8b6) all0))
    have Zs := Nat.le_trans Zs Kc.1
    have N := Fr.app N N9
    show Go p e below _ T22 (mkF m 25 #[.val (.int p1), .val (.int p2), .val (.int p3), .val (.int p4), .val (.int p5), .val (.ref b0), .unset, .unset] [])
    obtain ⟨n3, en3⟩ : ∃ z : Nat, nn = z := ⟨_, rfl⟩
    rw [en3] at A_b8b6
    have h3 : 8 ≤ n3 ∧ n3 < 16 := by rw [← en3]; exact ⟨Nat.not_lt.mp fun q => k2 ((own_lt hnn (by decide)).mpr q), hnn⟩
    have w0 : ar22 0 = nar .byte (((p2.toUInt32 >>> ((24 : Int32) &&& 31).toUInt32).toInt32).toInt8.toInt32) := by
      rw [← ear22, ← ear16]; rfl
    have w1 : ar22 1 = nar .byte (((p2.toUInt32 >>> ((16 : Int32) &&& 31).toUInt32).toInt32).toInt8.toInt32) := by
      rw [← ear22, ← ear16]; rfl
    have w2 : ar22 2 = nar .byte (((p2.toUInt32 >>> ((8 : Int32) &&& 31).toUInt32).toInt32).toInt8.toInt32) := by
      rw [← ear22, ← ear16]; rfl
    have w3 : ar22 3 = nar .byte (((p2.toUInt32 >>> ((0 : Int32) &&& 31).toUInt32).toInt32).toInt8.toInt32) := by
      rw [← ear22, ← ear16]; rfl
    have w4 : ar22 4 = nar .byte (((p3.toUInt32 >>> ((24 : Int32) &&& 31).toUInt32).toInt32).toInt8.toInt32) := by
      rw [← ear22]; rfl
    have w5 : ar22 5 = nar .byte (((p3.toUInt32 >>> ((16 : Int32) &&& 31).toUInt32).toInt32).toInt8.toInt32) := by
      rw [← ear22]; rfl
    have w6 : ar22 6 = nar .byte (((p3.toUInt32 >>> ((8 : Int32) &&& 31).toUInt32).toInt32).toInt8.toInt32) := by
      rw [← ear22]; rfl
    have w7 : ar22 7 = nar .byte (((p3.toUInt32 >>> ((0 : Int32) &&& 31).toUInt32).toInt32).toInt8.toInt32) := by
      rw [← ear22]; rfl
    refine own_iloadN X hx hby p4 at_25 rfl 26 rfl ?_
    refine own_ldc X hx hby hZ (2147483647 : Int32) hown (hw _ (List.mem_of_getElem? (i := 38) rfl)) at_26 28 rfl ?_
    refine own_iand X hx hby at_28 29 rfl ?_
    refine own_iconst X hx hby (5 : Int32) at_29 rfl 30 rfl ?_
    refine own_irem X hx hby at_30 (by decide) 31 rfl ?_
    obtain ⟨v31, e31⟩ : ∃ z : Int32, ((p4 &&& (2147483647 : Int32)) % (5 : Int32)) = z := ⟨_, rfl⟩
    refine own_istore X hx hby at_31 e31 (l' := #[.val (.int p1), .val (.int p2), .val (.int p3), .val (.int p4), .val (.int p5), .val (.ref b0), .val (.int v31), .unset]) rfl 33 rfl ?_
    rcases (own_five _ _ e31 : v31 = (0 : Int32) ∨ v31 = (1 : Int32) ∨ v31 = (2 : Int32) ∨ v31 = (3 : Int32) ∨ v31 = (4 : Int32)) with rfl | rfl | rfl | rfl | rfl
    · skip
      refine own_aload X hx hby (.ref b0) at_33 rfl rfl 35 rfl ?_
      refine own_iload X hx hby (0 : Int32) at_35 rfl 37 rfl ?_
      refine own_iload X hx hby p5 at_37 rfl 39 rfl ?_
      refine own_callV X hx hby hZ (st := []) [(.int (0 : Int32)), (.int p5)] rfl hown (hw _ (List.mem_of_getElem? (i := 39) rfl)) (hw _ (List.mem_of_getElem? (i := 40) rfl)) (hw _ (List.mem_of_getElem? (i := 42) rfl)) (hw _ (List.mem_of_getElem? (i := 41) rfl)) (hw _ (List.mem_of_getElem? (i := 2) rfl)) (hw _ (List.mem_of_getElem? (i := 43) rfl)) E_b0 (by decide) at_39 (rm8_0 l Z a0 hw b0 p5 b8b6 ar22 n3 (8 : Int32) h22 n0 Zs h3.1 A_b8b6 E_b8b6 g_b8b6 E_b0 F_bytes_b0 F_length_b0 g_b0) eT pd_6 rfl (by rw [hml]; rfl) (by decide) 0 rfl (by decide) (by decide) (by decide) 42 rfl ?_
      intro T39 L9 v9 X hQ
      obtain ⟨h39, eT⟩ : ∃ z, T39.heap = z := ⟨_, rfl⟩
      rw [eT] at hQ
      obtain ⟨rfl, N9, Kc, A_b8b6, E_b8b6⟩ := hQ
      have E_b0 := E_b0.keep Kc
      have F_bytes_b0 := F_bytes_b0.keep Kc (ninS ne_b0_b8b6 nin0)
      have F_length_b0 := F_length_b0.keep Kc (ninS ne_b0_b8b6 nin0)
      obtain ⟨ar39, ear39⟩ : ∃ z : Nat → Int32, (updI (updI (updI (updI ar22 0 (nar .byte (((p5.toUInt32 >>> ((24 : Int32) &&& 31).toUInt32).toInt32).toInt8.toInt32))) 1 (nar .byte (((p5.toUInt32 >>> ((16 : Int32) &&& 31).toUInt32).toInt32).toInt8.toInt32))) 2 (nar .byte (((p5.toUInt32 >>> ((8 : Int32) &&& 31).toUInt32).toInt32).toInt8.toInt32))) 3 (nar .byte (((p5.toUInt32 >>> ((0 : Int32) &&& 31).toUInt32).toInt32).toInt8.toInt32))) = z := ⟨_, rfl⟩
      rw [ear39] at A_b8b6
      have K := K.trans Kc (allS (Or.inr sz_b8b6) all0)
      have Zs := Nat.le_trans Zs Kc.1
      have N := Fr.app N N9
      show Go p e below _ T39 (mkF m 42 #[.val (.int p1), .val (.int p2), .val (.int p3), .val (.int p4), .val (.int p5), .val (.ref b0), .val (.int (0 : Int32)), .unset] [])
      refine own_aload X hx hby (.ref b0) at_42 rfl rfl 44 rfl ?_
      refine own_callV X hx hby hZ (st := []) [] rfl hown (hw _ (List.mem_of_getElem? (i := 44) rfl)) (hw _ (List.mem_of_getElem? (i := 45) rfl)) (hw _ (List.mem_of_getElem? (i := 47) rfl)) (hw _ (List.mem_of_getElem? (i := 46) rfl)) (hw _ (List.mem_of_getElem? (i := 2) rfl)) (hw _ (List.mem_of_getElem? (i := 48) rfl)) E_b0 (by decide) at_44 (rm9 l Z a0 hw b0 h39 n0 Zs F_length_b0) eT pd_0 rfl (by rw [hml]; rfl) (by decide) 0 rfl (by decide) (by decide) (by decide) 47 rfl ?_
      intro T44 L9 v9 X hQ
      obtain ⟨rfl, N9, eT⟩ := hQ
      have N := Fr.app N N9
      show Go p e below _ T44 (mkF m 47 #[.val (.int p1), .val (.int p2), .val (.int p3), .val (.int p4), .val (.int p5), .val (.ref b0), .val (.int (0 : Int32)), .unset] [(.int (8 : Int32))])
      refine own_bipush X hx hby (8 : Int32) at_47 rfl 49 rfl ?_
      have c49 : (8 : Int32) = (8 : Int32) := by decide
      refine own_icmp_eq X hx hby at_49 54 52 (by decide) rfl (fun _ => ?_) (fun q => absurd c49 q)
      refine own_aload X hx hby (.ref b0) at_54 rfl rfl 56 rfl ?_
      by_cases q8 : n3 = 8
      · skip
        subst q8
        refine own_callV X hx hby hZ (st := []) [] rfl hown (hw _ (List.mem_of_getElem? (i := 49) rfl)) (hw _ (List.mem_of_getElem? (i := 50) rfl)) (hw _ (List.mem_of_getElem? (i := 52) rfl)) (hw _ (List.mem_of_getElem? (i := 51) rfl)) (hw _ (List.mem_of_getElem? (i := 2) rfl)) (hw _ (List.mem_of_getElem? (i := 53) rfl)) E_b0 (by decide) at_56 (rm10_c l Z a0 hw b0 b8b6 ar39 h39 n0 Zs A_b8b6 E_b8b6 F_bytes_b0 F_length_b0) eT pd_3 rfl (by rw [hml]; rfl) (by decide) 0 rfl (by decide) (by decide) (by decide) 59 rfl ?_
        intro T56 L9 v9 X hQ
        obtain ⟨h56, eT⟩ : ∃ z, T56.heap = z := ⟨_, rfl⟩
        rw [eT] at hQ
        have lt_b0 := E_b0.lt
        have lt_b8b6 := A_b8b6.lt
        obtain ⟨b56b8b7, rfl, N9, Kc, hs_b56b8b7, A_b56b8b7, E_b56b8b7⟩ := hQ
        have g_b56b8b7 : n0 ≤ b56b8b7 := Nat.le_trans Zs hs_b56b8b7
        have sz_b56b8b7 : h0.size ≤ b56b8b7 := Nat.le_trans K.1 hs_b56b8b7
        have ne_b0_b56b8b7 : b0 ≠ b56b8b7 := Nat.ne_of_lt (Nat.lt_of_lt_of_le lt_b0 hs_b56b8b7)
        have ne_b8b6_b56b8b7 : b8b6 ≠ b56b8b7 := Nat.ne_of_lt (Nat.lt_of_lt_of_le lt_b8b6 hs_b56b8b7)
        have E_b0 := E_b0.keep Kc
        have F_bytes_b0 := F_bytes_b0.keep Kc nin0
        have F_length_b0 := F_length_b0.keep Kc nin0
        have A_b8b6 := A_b8b6.keep Kc nin0
        have E_b8b6 := E_b8b6.keep Kc
        have K := K.trans Kc all0
        have Zs := Nat.le_trans Zs Kc.1
        have N := Fr.app N N9
        show Go p e below _ T56 (mkF m 59 #[.val (.int p1), .val (.int p2), .val (.int p3), .val (.int p4), .val (.int p5), .val (.ref b0), .val (.int (0 : Int32)), .unset] [(.ref b56b8b7)])
        refine own_astore X hx hby at_59 rfl (l' := #[.val (.int p1), .val (.int p2), .val (.int p3), .val (.int p4), .val (.int p5), .val (.ref b0), .val (.int (0 : Int32)), .val (.ref b56b8b7)]) rfl 61 rfl ?_
        refine own_aload X hx hby (.ref b56b8b7) at_61 rfl rfl 63 rfl ?_
        refine own_arraylength X hx hby hZ (8 : Int32) eT A_b56b8b7 rfl at_63 64 rfl ?_
        refine own_bipush X hx hby (8 : Int32) at_64 rfl 66 rfl ?_
        have c66 : (8 : Int32) = (8 : Int32) := by decide
        refine own_icmp_eq X hx hby at_66 71 69 (by decide) rfl (fun _ => ?_) (fun q => absurd c66 q)
        refine own_aload X hx hby (.ref b56b8b7) at_71 rfl rfl 73 rfl ?_
        refine own_iconst X hx hby (0 : Int32) at_73 rfl 74 rfl ?_
        refine own_iload X hx hby (0 : Int32) at_74 rfl 76 rfl ?_
        refine own_iloadN X hx hby p2 at_76 rfl 77 rfl ?_
        refine own_iloadN X hx hby p3 at_77 rfl 78 rfl ?_
        refine own_iload X hx hby p5 at_78 rfl 80 rfl ?_
        refine own_callS X hx hby hZ (st := []) [(.ref b56b8b7), (.int (0 : Int32)), (.int (0 : Int32)), (.int p2), (.int p3), (.int p5)] rfl hown (hw _ (List.mem_of_getElem? (i := 63) rfl)) (hw _ (List.mem_of_getElem? (i := 64) rfl)) (hw _ (List.mem_of_getElem? (i := 65) rfl)) (hw _ (List.mem_of_getElem? (i := 66) rfl)) (by decide) at_80 (rm11 l Z a0 hw b56b8b7 (0 : Int32) (0 : Int32) p2 p3 p5 ar39 h56 n0 Zs (by decide) A_b56b8b7 E_b56b8b7) eT pd_9 rfl (by rw [hml]; rfl) (by decide) 0 rfl (by decide) (by decide) (by decide) 83 rfl ?_
        intro T80 L9 v9 X hQ
        obtain ⟨rfl, N9, eT⟩ := hQ
        have N := Fr.app N N9
        show Go p e below _ T80 (mkF m 83 #[.val (.int p1), .val (.int p2), .val (.int p3), .val (.int p4), .val (.int p5), .val (.ref b0), .val (.int (0 : Int32)), .val (.ref b56b8b7)] [(.int (f11 (0 : Int32) (0 : Int32) p2 p3 p5 ar39))])
        have c83 : ¬ (f11 (0 : Int32) (0 : Int32) p2 p3 p5 ar39) = (0 : Int32) := own_okv _ _ _ _ _ (24 : Int32) _ (by decide) (by decide) (by decide) (by rw [← ear39]; rfl)
        refine own_if_eq X hx hby at_83 197 86 (by decide) rfl (fun q => absurd q c83) (fun _ => ?_)
        refine own_aload X hx hby (.ref b56b8b7) at_86 rfl rfl 88 rfl ?_
        refine own_iconst X hx hby (1 : Int32) at_88 rfl 89 rfl ?_
        refine own_iload X hx hby (0 : Int32) at_89 rfl 91 rfl ?_
        refine own_iloadN X hx hby p2 at_91 rfl 92 rfl ?_
        refine own_iloadN X hx hby p3 at_92 rfl 93 rfl ?_
        refine own_iload X hx hby p5 at_93 rfl 95 rfl ?_
        refine own_callS X hx hby hZ (st := []) [(.ref b56b8b7), (.int (1 : Int32)), (.int (0 : Int32)), (.int p2), (.int p3), (.int p5)] rfl hown (hw _ (List.mem_of_getElem? (i := 63) rfl)) (hw _ (List.mem_of_getElem? (i := 64) rfl)) (hw _ (List.mem_of_getElem? (i := 65) rfl)) (hw _ (List.mem_of_getElem? (i := 66) rfl)) (by decide) at_95 (rm11 l Z a0 hw b56b8b7 (1 : Int32) (0 : Int32) p2 p3 p5 ar39 h56 n0 Zs (by decide) A_b56b8b7 E_b56b8b7) eT pd_9 rfl (by rw [hml]; rfl) (by decide) 0 rfl (by decide) (by decide) (by decide) 98 rfl ?_
        intro T95 L9 v9 X hQ
        obtain ⟨rfl, N9, eT⟩ := hQ
        have N := Fr.app N N9
        show Go p e below _ T95 (mkF m 98 #[.val (.int p1), .val (.int p2), .val (.int p3), .val (.int p4), .val (.int p5), .val (.ref b0), .val (.int (0 : Int32)), .val (.ref b56b8b7)] [(.int (f11 (1 : Int32) (0 : Int32) p2 p3 p5 ar39))])
        have c98 : ¬ (f11 (1 : Int32) (0 : Int32) p2 p3 p5 ar39) = (0 : Int32) := own_okv _ _ _ _ _ (16 : Int32) _ (by decide) (by decide) (by decide) (by rw [← ear39]; rfl)
        refine own_if_eq X hx hby at_98 197 101 (by decide) rfl (fun q => absurd q c98) (fun _ => ?_)
        refine own_aload X hx hby (.ref b56b8b7) at_101 rfl rfl 103 rfl ?_
        refine own_iconst X hx hby (2 : Int32) at_103 rfl 104 rfl ?_
        refine own_iload X hx hby (0 : Int32) at_104 rfl 106 rfl ?_
        refine own_iloadN X hx hby p2 at_106 rfl 107 rfl ?_
        refine own_iloadN X hx hby p3 at_107 rfl 108 rfl ?_
        refine own_iload X hx hby p5 at_108 rfl 110 rfl ?_
        refine own_callS X hx hby hZ (st := []) [(.ref b56b8b7), (.int (2 : Int32)), (.int (0 : Int32)), (.int p2), (.int p3), (.int p5)] rfl hown (hw _ (List.mem_of_getElem? (i := 63) rfl)) (hw _ (List.mem_of_getElem? (i := 64) rfl)) (hw _ (List.mem_of_getElem? (i := 65) rfl)) (hw _ (List.mem_of_getElem? (i := 66) rfl)) (by decide) at_110 (rm11 l Z a0 hw b56b8b7 (2 : Int32) (0 : Int32) p2 p3 p5 ar39 h56 n0 Zs (by decide) A_b56b8b7 E_b56b8b7) eT pd_9 rfl (by rw [hml]; rfl) (by decide) 0 rfl (by decide) (by decide) (by decide) 113 rfl ?_
        intro T110 L9 v9 X hQ
        obtain ⟨rfl, N9, eT⟩ := hQ
        have N := Fr.app N N9
        show Go p e below _ T110 (mkF m 113 #[.val (.int p1), .val (.int p2), .val (.int p3), .val (.int p4), .val (.int p5), .val (.ref b0), .val (.int (0 : Int32)), .val (.ref b56b8b7)] [(.int (f11 (2 : Int32) (0 : Int32) p2 p3 p5 ar39))])
        have c113 : ¬ (f11 (2 : Int32) (0 : Int32) p2 p3 p5 ar39) = (0 : Int32) := own_okv _ _ _ _ _ (8 : Int32) _ (by decide) (by decide) (by decide) (by rw [← ear39]; rfl)
        refine own_if_eq X hx hby at_113 197 116 (by decide) rfl (fun q => absurd q c113) (fun _ => ?_)
        refine own_aload X hx hby (.ref b56b8b7) at_116 rfl rfl 118 rfl ?_
        refine own_iconst X hx hby (3 : Int32) at_118 rfl 119 rfl ?_
        refine own_iload X hx hby (0 : Int32) at_119 rfl 121 rfl ?_
        refine own_iloadN X hx hby p2 at_121 rfl 122 rfl ?_
        refine own_iloadN X hx hby p3 at_122 rfl 123 rfl ?_
        refine own_iload X hx hby p5 at_123 rfl 125 rfl ?_
        refine own_callS X hx hby hZ (st := []) [(.ref b56b8b7), (.int (3 : Int32)), (.int (0 : Int32)), (.int p2), (.int p3), (.int p5)] rfl hown (hw _ (List.mem_of_getElem? (i := 63) rfl)) (hw _ (List.mem_of_getElem? (i := 64) rfl)) (hw _ (List.mem_of_getElem? (i := 65) rfl)) (hw _ (List.mem_of_getElem? (i := 66) rfl)) (by decide) at_125 (rm11 l Z a0 hw b56b8b7 (3 : Int32) (0 : Int32) p2 p3 p5 ar39 h56 n0 Zs (by decide) A_b56b8b7 E_b56b8b7) eT pd_9 rfl (by rw [hml]; rfl) (by decide) 0 rfl (by decide) (by decide) (by decide) 128 rfl ?_
        intro T125 L9 v9 X hQ
        obtain ⟨rfl, N9, eT⟩ := hQ
        have N := Fr.app N N9
        show Go p e below _ T125 (mkF m 128 #[.val (.int p1), .val (.int p2), .val (.int p3), .val (.int p4), .val (.int p5), .val (.ref b0), .val (.int (0 : Int32)), .val (.ref b56b8b7)] [(.int (f11 (3 : Int32) (0 : Int32) p2 p3 p5 ar39))])
        have c128 : ¬ (f11 (3 : Int32) (0 : Int32) p2 p3 p5 ar39) = (0 : Int32) := own_okv _ _ _ _ _ (0 : Int32) _ (by decide) (by decide) (by decide) (by rw [← ear39]; rfl)
        refine own_if_eq X hx hby at_128 197 131 (by decide) rfl (fun q => absurd q c128) (fun _ => ?_)
        refine own_aload X hx hby (.ref b56b8b7) at_131 rfl rfl 133 rfl ?_
        refine own_iconst X hx hby (4 : Int32) at_133 rfl 134 rfl ?_
        refine own_iload X hx hby (0 : Int32) at_134 rfl 136 rfl ?_
        refine own_iloadN X hx hby p2 at_136 rfl 137 rfl ?_
        refine own_iloadN X hx hby p3 at_137 rfl 138 rfl ?_
        refine own_iload X hx hby p5 at_138 rfl 140 rfl ?_
        refine own_callS X hx hby hZ (st := []) [(.ref b56b8b7), (.int (4 : Int32)), (.int (0 : Int32)), (.int p2), (.int p3), (.int p5)] rfl hown (hw _ (List.mem_of_getElem? (i := 63) rfl)) (hw _ (List.mem_of_getElem? (i := 64) rfl)) (hw _ (List.mem_of_getElem? (i := 65) rfl)) (hw _ (List.mem_of_getElem? (i := 66) rfl)) (by decide) at_140 (rm11 l Z a0 hw b56b8b7 (4 : Int32) (0 : Int32) p2 p3 p5 ar39 h56 n0 Zs (by decide) A_b56b8b7 E_b56b8b7) eT pd_9 rfl (by rw [hml]; rfl) (by decide) 0 rfl (by decide) (by decide) (by decide) 143 rfl ?_
        intro T140 L9 v9 X hQ
        obtain ⟨rfl, N9, eT⟩ := hQ
        have N := Fr.app N N9
        show Go p e below _ T140 (mkF m 143 #[.val (.int p1), .val (.int p2), .val (.int p3), .val (.int p4), .val (.int p5), .val (.ref b0), .val (.int (0 : Int32)), .val (.ref b56b8b7)] [(.int (f11 (4 : Int32) (0 : Int32) p2 p3 p5 ar39))])
        have c143 : ¬ (f11 (4 : Int32) (0 : Int32) p2 p3 p5 ar39) = (0 : Int32) := own_okb _ _ _ _ _ (24 : Int32) _ (by decide) (by decide) (by decide) (by rw [← ear39]; exact w4)
        refine own_if_eq X hx hby at_143 197 146 (by decide) rfl (fun q => absurd q c143) (fun _ => ?_)
        refine own_aload X hx hby (.ref b56b8b7) at_146 rfl rfl 148 rfl ?_
        refine own_iconst X hx hby (5 : Int32) at_148 rfl 149 rfl ?_
        refine own_iload X hx hby (0 : Int32) at_149 rfl 151 rfl ?_
        refine own_iloadN X hx hby p2 at_151 rfl 152 rfl ?_
        refine own_iloadN X hx hby p3 at_152 rfl 153 rfl ?_
        refine own_iload X hx hby p5 at_153 rfl 155 rfl ?_
        refine own_callS X hx hby hZ (st := []) [(.ref b56b8b7), (.int (5 : Int32)), (.int (0 : Int32)), (.int p2), (.int p3), (.int p5)] rfl hown (hw _ (List.mem_of_getElem? (i := 63) rfl)) (hw _ (List.mem_of_getElem? (i := 64) rfl)) (hw _ (List.mem_of_getElem? (i := 65) rfl)) (hw _ (List.mem_of_getElem? (i := 66) rfl)) (by decide) at_155 (rm11 l Z a0 hw b56b8b7 (5 : Int32) (0 : Int32) p2 p3 p5 ar39 h56 n0 Zs (by decide) A_b56b8b7 E_b56b8b7) eT pd_9 rfl (by rw [hml]; rfl) (by decide) 0 rfl (by decide) (by decide) (by decide) 158 rfl ?_
        intro T155 L9 v9 X hQ
        obtain ⟨rfl, N9, eT⟩ := hQ
        have N := Fr.app N N9
        show Go p e below _ T155 (mkF m 158 #[.val (.int p1), .val (.int p2), .val (.int p3), .val (.int p4), .val (.int p5), .val (.ref b0), .val (.int (0 : Int32)), .val (.ref b56b8b7)] [(.int (f11 (5 : Int32) (0 : Int32) p2 p3 p5 ar39))])
        have c158 : ¬ (f11 (5 : Int32) (0 : Int32) p2 p3 p5 ar39) = (0 : Int32) := own_okb _ _ _ _ _ (16 : Int32) _ (by decide) (by decide) (by decide) (by rw [← ear39]; exact w5)
        refine own_if_eq X hx hby at_158 197 161 (by decide) rfl (fun q => absurd q c158) (fun _ => ?_)
        refine own_aload X hx hby (.ref b56b8b7) at_161 rfl rfl 163 rfl ?_
        refine own_bipush X hx hby (6 : Int32) at_163 rfl 165 rfl ?_
        refine own_iload X hx hby (0 : Int32) at_165 rfl 167 rfl ?_
        refine own_iloadN X hx hby p2 at_167 rfl 168 rfl ?_
        refine own_iloadN X hx hby p3 at_168 rfl 169 rfl ?_
        refine own_iload X hx hby p5 at_169 rfl 171 rfl ?_
        refine own_callS X hx hby hZ (st := []) [(.ref b56b8b7), (.int (6 : Int32)), (.int (0 : Int32)), (.int p2), (.int p3), (.int p5)] rfl hown (hw _ (List.mem_of_getElem? (i := 63) rfl)) (hw _ (List.mem_of_getElem? (i := 64) rfl)) (hw _ (List.mem_of_getElem? (i := 65) rfl)) (hw _ (List.mem_of_getElem? (i := 66) rfl)) (by decide) at_171 (rm11 l Z a0 hw b56b8b7 (6 : Int32) (0 : Int32) p2 p3 p5 ar39 h56 n0 Zs (by decide) A_b56b8b7 E_b56b8b7) eT pd_9 rfl (by rw [hml]; rfl) (by decide) 0 rfl (by decide) (by decide) (by decide) 174 rfl ?_
        intro T171 L9 v9 X hQ
        obtain ⟨rfl, N9, eT⟩ := hQ
        have N := Fr.app N N9
        show Go p e below _ T171 (mkF m 174 #[.val (.int p1), .val (.int p2), .val (.int p3), .val (.int p4), .val (.int p5), .val (.ref b0), .val (.int (0 : Int32)), .val (.ref b56b8b7)] [(.int (f11 (6 : Int32) (0 : Int32) p2 p3 p5 ar39))])
        have c174 : ¬ (f11 (6 : Int32) (0 : Int32) p2 p3 p5 ar39) = (0 : Int32) := own_okb _ _ _ _ _ (8 : Int32) _ (by decide) (by decide) (by decide) (by rw [← ear39]; exact w6)
        refine own_if_eq X hx hby at_174 197 177 (by decide) rfl (fun q => absurd q c174) (fun _ => ?_)
        refine own_aload X hx hby (.ref b56b8b7) at_177 rfl rfl 179 rfl ?_
        refine own_bipush X hx hby (7 : Int32) at_179 rfl 181 rfl ?_
        refine own_iload X hx hby (0 : Int32) at_181 rfl 183 rfl ?_
        refine own_iloadN X hx hby p2 at_183 rfl 184 rfl ?_
        refine own_iloadN X hx hby p3 at_184 rfl 185 rfl ?_
        refine own_iload X hx hby p5 at_185 rfl 187 rfl ?_
        refine own_callS X hx hby hZ (st := []) [(.ref b56b8b7), (.int (7 : Int32)), (.int (0 : Int32)), (.int p2), (.int p3), (.int p5)] rfl hown (hw _ (List.mem_of_getElem? (i := 63) rfl)) (hw _ (List.mem_of_getElem? (i := 64) rfl)) (hw _ (List.mem_of_getElem? (i := 65) rfl)) (hw _ (List.mem_of_getElem? (i := 66) rfl)) (by decide) at_187 (rm11 l Z a0 hw b56b8b7 (7 : Int32) (0 : Int32) p2 p3 p5 ar39 h56 n0 Zs (by decide) A_b56b8b7 E_b56b8b7) eT pd_9 rfl (by rw [hml]; rfl) (by decide) 0 rfl (by decide) (by decide) (by decide) 190 rfl ?_
        intro T187 L9 v9 X hQ
        obtain ⟨rfl, N9, eT⟩ := hQ
        have N := Fr.app N N9
        show Go p e below _ T187 (mkF m 190 #[.val (.int p1), .val (.int p2), .val (.int p3), .val (.int p4), .val (.int p5), .val (.ref b0), .val (.int (0 : Int32)), .val (.ref b56b8b7)] [(.int (f11 (7 : Int32) (0 : Int32) p2 p3 p5 ar39))])
        have c190 : ¬ (f11 (7 : Int32) (0 : Int32) p2 p3 p5 ar39) = (0 : Int32) := own_okb _ _ _ _ _ (0 : Int32) _ (by decide) (by decide) (by decide) (by rw [← ear39]; exact w7)
        refine own_if_eq X hx hby at_190 197 193 (by decide) rfl (fun q => absurd q c190) (fun _ => ?_)
        refine own_iconst X hx hby (1 : Int32) at_193 rfl 194 rfl ?_
        refine own_goto X hx hby at_194 198 (by decide) ?_
        refine own_retN X hx hby hret hlk (t := .boolean) (z' := (1 : Int32)) (by simp) at_198 (by decide) (by decide) rfl ?_
        rw [eT]
        exact ⟨rfl, N⟩
      · skip
        refine own_callV X hx hby hZ (st := []) [] rfl hown (hw _ (List.mem_of_getElem? (i := 49) rfl)) (hw _ (List.mem_of_getElem? (i := 50) rfl)) (hw _ (List.mem_of_getElem? (i := 52) rfl)) (hw _ (List.mem_of_getElem? (i := 51) rfl)) (hw _ (List.mem_of_getElem? (i := 2) rfl)) (hw _ (List.mem_of_getElem? (i := 53) rfl)) E_b0 (by decide) at_56 (rm10_n l Z a0 hw b0 b8b6 ar39 n3 h39 n0 Zs (own_n8 q8 h3.2) h3.2 A_b8b6 E_b8b6 F_bytes_b0 F_length_b0) eT pd_3 rfl (by rw [hml]; rfl) (by decide) 0 rfl (by decide) (by decide) (by decide) 59 rfl ?_
        intro T56 L9 v9 X hQ
        obtain ⟨h56, eT⟩ : ∃ z, T56.heap = z := ⟨_, rfl⟩
        rw [eT] at hQ
        have lt_b0 := E_b0.lt
        have lt_b8b6 := A_b8b6.lt
        obtain ⟨b56b8b15, rfl, N9, Kc, hs_b56b8b15, A_b56b8b15, E_b56b8b15⟩ := hQ
        have g_b56b8b15 : n0 ≤ b56b8b15 := Nat.le_trans Zs hs_b56b8b15
        have sz_b56b8b15 : h0.size ≤ b56b8b15 := Nat.le_trans K.1 hs_b56b8b15
        have ne_b0_b56b8b15 : b0 ≠ b56b8b15 := Nat.ne_of_lt (Nat.lt_of_lt_of_le lt_b0 hs_b56b8b15)
        have ne_b8b6_b56b8b15 : b8b6 ≠ b56b8b15 := Nat.ne_of_lt (Nat.lt_of_lt_of_le lt_b8b6 hs_b56b8b15)
        have E_b0 := E_b0.keep Kc
        have F_bytes_b0 := F_bytes_b0.keep Kc nin0
        have F_length_b0 := F_length_b0.keep Kc nin0
        have A_b8b6 := A_b8b6.keep Kc nin0
        have E_b8b6 := E_b8b6.keep Kc
        obtain ⟨ar56, ear56⟩ : ∃ z : Nat → Int32, (own_cp ar39 (Int32.toNatClampNeg (f7 (Int32.ofNat n3) (8 : Int32)))) = z := ⟨_, rfl⟩
        rw [ear56] at A_b56b8b15
        have K := K.trans Kc all0
        have Zs := Nat.le_trans Zs Kc.1
        have N := Fr.app N N9
        show Go p e below _ T56 (mkF m 59 #[.val (.int p1), .val (.int p2), .val (.int p3), .val (.int p4), .val (.int p5), .val (.ref b0), .val (.int (0 : Int32)), .unset] [(.ref b56b8b15)])
        refine own_astore X hx hby at_59 rfl (l' := #[.val (.int p1), .val (.int p2), .val (.int p3), .val (.int p4), .val (.int p5), .val (.ref b0), .val (.int (0 : Int32)), .val (.ref b56b8b15)]) rfl 61 rfl ?_
        refine own_aload X hx hby (.ref b56b8b15) at_61 rfl rfl 63 rfl ?_
        refine own_arraylength X hx hby hZ (8 : Int32) eT A_b56b8b15 rfl at_63 64 rfl ?_
        refine own_bipush X hx hby (8 : Int32) at_64 rfl 66 rfl ?_
        have c66 : (8 : Int32) = (8 : Int32) := by decide
        refine own_icmp_eq X hx hby at_66 71 69 (by decide) rfl (fun _ => ?_) (fun q => absurd c66 q)
        refine own_aload X hx hby (.ref b56b8b15) at_71 rfl rfl 73 rfl ?_
        refine own_iconst X hx hby (0 : Int32) at_73 rfl 74 rfl ?_
        refine own_iload X hx hby (0 : Int32) at_74 rfl 76 rfl ?_
        refine own_iloadN X hx hby p2 at_76 rfl 77 rfl ?_
        refine own_iloadN X hx hby p3 at_77 rfl 78 rfl ?_
        refine own_iload X hx hby p5 at_78 rfl 80 rfl ?_
        refine own_callS X hx hby hZ (st := []) [(.ref b56b8b15), (.int (0 : Int32)), (.int (0 : Int32)), (.int p2), (.int p3), (.int p5)] rfl hown (hw _ (List.mem_of_getElem? (i := 63) rfl)) (hw _ (List.mem_of_getElem? (i := 64) rfl)) (hw _ (List.mem_of_getElem? (i := 65) rfl)) (hw _ (List.mem_of_getElem? (i := 66) rfl)) (by decide) at_80 (rm11 l Z a0 hw b56b8b15 (0 : Int32) (0 : Int32) p2 p3 p5 ar56 h56 n0 Zs (by decide) A_b56b8b15 E_b56b8b15) eT pd_9 rfl (by rw [hml]; rfl) (by decide) 0 rfl (by decide) (by decide) (by decide) 83 rfl ?_
        intro T80 L9 v9 X hQ
        obtain ⟨rfl, N9, eT⟩ := hQ
        have N := Fr.app N N9
        show Go p e below _ T80 (mkF m 83 #[.val (.int p1), .val (.int p2), .val (.int p3), .val (.int p4), .val (.int p5), .val (.ref b0), .val (.int (0 : Int32)), .val (.ref b56b8b15)] [(.int (f11 (0 : Int32) (0 : Int32) p2 p3 p5 ar56))])
        have c83 : ¬ (f11 (0 : Int32) (0 : Int32) p2 p3 p5 ar56) = (0 : Int32) := own_okv _ _ _ _ _ (24 : Int32) _ (by decide) (by decide) (by decide) (by rw [← ear56]; refine (own_cpi (own_ck h3.2 (by decide) (Nat.lt_of_lt_of_le (by decide) h3.1) (by decide))).trans ?_; rw [← ear39]; rfl)
        refine own_if_eq X hx hby at_83 197 86 (by decide) rfl (fun q => absurd q c83) (fun _ => ?_)
        refine own_aload X hx hby (.ref b56b8b15) at_86 rfl rfl 88 rfl ?_
        refine own_iconst X hx hby (1 : Int32) at_88 rfl 89 rfl ?_
        refine own_iload X hx hby (0 : Int32) at_89 rfl 91 rfl ?_
        refine own_iloadN X hx hby p2 at_91 rfl 92 rfl ?_
        refine own_iloadN X hx hby p3 at_92 rfl 93 rfl ?_
        refine own_iload X hx hby p5 at_93 rfl 95 rfl ?_
        refine own_callS X hx hby hZ (st := []) [(.ref b56b8b15), (.int (1 : Int32)), (.int (0 : Int32)), (.int p2), (.int p3), (.int p5)] rfl hown (hw _ (List.mem_of_getElem? (i := 63) rfl)) (hw _ (List.mem_of_getElem? (i := 64) rfl)) (hw _ (List.mem_of_getElem? (i := 65) rfl)) (hw _ (List.mem_of_getElem? (i := 66) rfl)) (by decide) at_95 (rm11 l Z a0 hw b56b8b15 (1 : Int32) (0 : Int32) p2 p3 p5 ar56 h56 n0 Zs (by decide) A_b56b8b15 E_b56b8b15) eT pd_9 rfl (by rw [hml]; rfl) (by decide) 0 rfl (by decide) (by decide) (by decide) 98 rfl ?_
        intro T95 L9 v9 X hQ
        obtain ⟨rfl, N9, eT⟩ := hQ
        have N := Fr.app N N9
        show Go p e below _ T95 (mkF m 98 #[.val (.int p1), .val (.int p2), .val (.int p3), .val (.int p4), .val (.int p5), .val (.ref b0), .val (.int (0 : Int32)), .val (.ref b56b8b15)] [(.int (f11 (1 : Int32) (0 : Int32) p2 p3 p5 ar56))])
        have c98 : ¬ (f11 (1 : Int32) (0 : Int32) p2 p3 p5 ar56) = (0 : Int32) := own_okv _ _ _ _ _ (16 : Int32) _ (by decide) (by decide) (by decide) (by rw [← ear56]; refine (own_cpi (own_ck h3.2 (by decide) (Nat.lt_of_lt_of_le (by decide) h3.1) (by decide))).trans ?_; rw [← ear39]; rfl)
        refine own_if_eq X hx hby at_98 197 101 (by decide) rfl (fun q => absurd q c98) (fun _ => ?_)
        refine own_aload X hx hby (.ref b56b8b15) at_101 rfl rfl 103 rfl ?_
        refine own_iconst X hx hby (2 : Int32) at_103 rfl 104 rfl ?_
        refine own_iload X hx hby (0 : Int32) at_104 rfl 106 rfl ?_
        refine own_iloadN X hx hby p2 at_106 rfl 107 rfl ?_
        refine own_iloadN X hx hby p3 at_107 rfl 108 rfl ?_
        refine own_iload X hx hby p5 at_108 rfl 110 rfl ?_
        refine own_callS X hx hby hZ (st := []) [(.ref b56b8b15), (.int (2 : Int32)), (.int (0 : Int32)), (.int p2), (.int p3), (.int p5)] rfl hown (hw _ (List.mem_of_getElem? (i := 63) rfl)) (hw _ (List.mem_of_getElem? (i := 64) rfl)) (hw _ (List.mem_of_getElem? (i := 65) rfl)) (hw _ (List.mem_of_getElem? (i := 66) rfl)) (by decide) at_110 (rm11 l Z a0 hw b56b8b15 (2 : Int32) (0 : Int32) p2 p3 p5 ar56 h56 n0 Zs (by decide) A_b56b8b15 E_b56b8b15) eT pd_9 rfl (by rw [hml]; rfl) (by decide) 0 rfl (by decide) (by decide) (by decide) 113 rfl ?_
        intro T110 L9 v9 X hQ
        obtain ⟨rfl, N9, eT⟩ := hQ
        have N := Fr.app N N9
        show Go p e below _ T110 (mkF m 113 #[.val (.int p1), .val (.int p2), .val (.int p3), .val (.int p4), .val (.int p5), .val (.ref b0), .val (.int (0 : Int32)), .val (.ref b56b8b15)] [(.int (f11 (2 : Int32) (0 : Int32) p2 p3 p5 ar56))])
        have c113 : ¬ (f11 (2 : Int32) (0 : Int32) p2 p3 p5 ar56) = (0 : Int32) := own_okv _ _ _ _ _ (8 : Int32) _ (by decide) (by decide) (by decide) (by rw [← ear56]; refine (own_cpi (own_ck h3.2 (by decide) (Nat.lt_of_lt_of_le (by decide) h3.1) (by decide))).trans ?_; rw [← ear39]; rfl)
        refine own_if_eq X hx hby at_113 197 116 (by decide) rfl (fun q => absurd q c113) (fun _ => ?_)
        refine own_aload X hx hby (.ref b56b8b15) at_116 rfl rfl 118 rfl ?_
        refine own_iconst X hx hby (3 : Int32) at_118 rfl 119 rfl ?_
        refine own_iload X hx hby (0 : Int32) at_119 rfl 121 rfl ?_
        refine own_iloadN X hx hby p2 at_121 rfl 122 rfl ?_
        refine own_iloadN X hx hby p3 at_122 rfl 123 rfl ?_
        refine own_iload X hx hby p5 at_123 rfl 125 rfl ?_
        refine own_callS X hx hby hZ (st := []) [(.ref b56b8b15), (.int (3 : Int32)), (.int (0 : Int32)), (.int p2), (.int p3), (.int p5)] rfl hown (hw _ (List.mem_of_getElem? (i := 63) rfl)) (hw _ (List.mem_of_getElem? (i := 64) rfl)) (hw _ (List.mem_of_getElem? (i := 65) rfl)) (hw _ (List.mem_of_getElem? (i := 66) rfl)) (by decide) at_125 (rm11 l Z a0 hw b56b8b15 (3 : Int32) (0 : Int32) p2 p3 p5 ar56 h56 n0 Zs (by decide) A_b56b8b15 E_b56b8b15) eT pd_9 rfl (by rw [hml]; rfl) (by decide) 0 rfl (by decide) (by decide) (by decide) 128 rfl ?_
        intro T125 L9 v9 X hQ
        obtain ⟨rfl, N9, eT⟩ := hQ
        have N := Fr.app N N9
        show Go p e below _ T125 (mkF m 128 #[.val (.int p1), .val (.int p2), .val (.int p3), .val (.int p4), .val (.int p5), .val (.ref b0), .val (.int (0 : Int32)), .val (.ref b56b8b15)] [(.int (f11 (3 : Int32) (0 : Int32) p2 p3 p5 ar56))])
        have c128 : ¬ (f11 (3 : Int32) (0 : Int32) p2 p3 p5 ar56) = (0 : Int32) := own_okv _ _ _ _ _ (0 : Int32) _ (by decide) (by decide) (by decide) (by rw [← ear56]; refine (own_cpi (own_ck h3.2 (by decide) (Nat.lt_of_lt_of_le (by decide) h3.1) (by decide))).trans ?_; rw [← ear39]; rfl)
        refine own_if_eq X hx hby at_128 197 131 (by decide) rfl (fun q => absurd q c128) (fun _ => ?_)
        refine own_aload X hx hby (.ref b56b8b15) at_131 rfl rfl 133 rfl ?_
        refine own_iconst X hx hby (4 : Int32) at_133 rfl 134 rfl ?_
        refine own_iload X hx hby (0 : Int32) at_134 rfl 136 rfl ?_
        refine own_iloadN X hx hby p2 at_136 rfl 137 rfl ?_
        refine own_iloadN X hx hby p3 at_137 rfl 138 rfl ?_
        refine own_iload X hx hby p5 at_138 rfl 140 rfl ?_
        refine own_callS X hx hby hZ (st := []) [(.ref b56b8b15), (.int (4 : Int32)), (.int (0 : Int32)), (.int p2), (.int p3), (.int p5)] rfl hown (hw _ (List.mem_of_getElem? (i := 63) rfl)) (hw _ (List.mem_of_getElem? (i := 64) rfl)) (hw _ (List.mem_of_getElem? (i := 65) rfl)) (hw _ (List.mem_of_getElem? (i := 66) rfl)) (by decide) at_140 (rm11 l Z a0 hw b56b8b15 (4 : Int32) (0 : Int32) p2 p3 p5 ar56 h56 n0 Zs (by decide) A_b56b8b15 E_b56b8b15) eT pd_9 rfl (by rw [hml]; rfl) (by decide) 0 rfl (by decide) (by decide) (by decide) 143 rfl ?_
        intro T140 L9 v9 X hQ
        obtain ⟨rfl, N9, eT⟩ := hQ
        have N := Fr.app N N9
        show Go p e below _ T140 (mkF m 143 #[.val (.int p1), .val (.int p2), .val (.int p3), .val (.int p4), .val (.int p5), .val (.ref b0), .val (.int (0 : Int32)), .val (.ref b56b8b15)] [(.int (f11 (4 : Int32) (0 : Int32) p2 p3 p5 ar56))])
        have c143 : ¬ (f11 (4 : Int32) (0 : Int32) p2 p3 p5 ar56) = (0 : Int32) := own_okb _ _ _ _ _ (24 : Int32) _ (by decide) (by decide) (by decide) (by rw [← ear56]; refine (own_cpi (own_ck h3.2 (by decide) (Nat.lt_of_lt_of_le (by decide) h3.1) (by decide))).trans ?_; rw [← ear39]; exact w4)
        refine own_if_eq X hx hby at_143 197 146 (by decide) rfl (fun q => absurd q c143) (fun _ => ?_)
        refine own_aload X hx hby (.ref b56b8b15) at_146 rfl rfl 148 rfl ?_
        refine own_iconst X hx hby (5 : Int32) at_148 rfl 149 rfl ?_
        refine own_iload X hx hby (0 : Int32) at_149 rfl 151 rfl ?_
        refine own_iloadN X hx hby p2 at_151 rfl 152 rfl ?_
        refine own_iloadN X hx hby p3 at_152 rfl 153 rfl ?_
        refine own_iload X hx hby p5 at_153 rfl 155 rfl ?_
        refine own_callS X hx hby hZ (st := []) [(.ref b56b8b15), (.int (5 : Int32)), (.int (0 : Int32)), (.int p2), (.int p3), (.int p5)] rfl hown (hw _ (List.mem_of_getElem? (i := 63) rfl)) (hw _ (List.mem_of_getElem? (i := 64) rfl)) (hw _ (List.mem_of_getElem? (i := 65) rfl)) (hw _ (List.mem_of_getElem? (i := 66) rfl)) (by decide) at_155 (rm11 l Z a0 hw b56b8b15 (5 : Int32) (0 : Int32) p2 p3 p5 ar56 h56 n0 Zs (by decide) A_b56b8b15 E_b56b8b15) eT pd_9 rfl (by rw [hml]; rfl) (by decide) 0 rfl (by decide) (by decide) (by decide) 158 rfl ?_
        intro T155 L9 v9 X hQ
        obtain ⟨rfl, N9, eT⟩ := hQ
        have N := Fr.app N N9
        show Go p e below _ T155 (mkF m 158 #[.val (.int p1), .val (.int p2), .val (.int p3), .val (.int p4), .val (.int p5), .val (.ref b0), .val (.int (0 : Int32)), .val (.ref b56b8b15)] [(.int (f11 (5 : Int32) (0 : Int32) p2 p3 p5 ar56))])
        have c158 : ¬ (f11 (5 : Int32) (0 : Int32) p2 p3 p5 ar56) = (0 : Int32) := own_okb _ _ _ _ _ (16 : Int32) _ (by decide) (by decide) (by decide) (by rw [← ear56]; refine (own_cpi (own_ck h3.2 (by decide) (Nat.lt_of_lt_of_le (by decide) h3.1) (by decide))).trans ?_; rw [← ear39]; exact w5)
        refine own_if_eq X hx hby at_158 197 161 (by decide) rfl (fun q => absurd q c158) (fun _ => ?_)
        refine own_aload X hx hby (.ref b56b8b15) at_161 rfl rfl 163 rfl ?_
        refine own_bipush X hx hby (6 : Int32) at_163 rfl 165 rfl ?_
        refine own_iload X hx hby (0 : Int32) at_165 rfl 167 rfl ?_
        refine own_iloadN X hx hby p2 at_167 rfl 168 rfl ?_
        refine own_iloadN X hx hby p3 at_168 rfl 169 rfl ?_
        refine own_iload X hx hby p5 at_169 rfl 171 rfl ?_
        refine own_callS X hx hby hZ (st := []) [(.ref b56b8b15), (.int (6 : Int32)), (.int (0 : Int32)), (.int p2), (.int p3), (.int p5)] rfl hown (hw _ (List.mem_of_getElem? (i := 63) rfl)) (hw _ (List.mem_of_getElem? (i := 64) rfl)) (hw _ (List.mem_of_getElem? (i := 65) rfl)) (hw _ (List.mem_of_getElem? (i := 66) rfl)) (by decide) at_171 (rm11 l Z a0 hw b56b8b15 (6 : Int32) (0 : Int32) p2 p3 p5 ar56 h56 n0 Zs (by decide) A_b56b8b15 E_b56b8b15) eT pd_9 rfl (by rw [hml]; rfl) (by decide) 0 rfl (by decide) (by decide) (by decide) 174 rfl ?_
        intro T171 L9 v9 X hQ
        obtain ⟨rfl, N9, eT⟩ := hQ
        have N := Fr.app N N9
        show Go p e below _ T171 (mkF m 174 #[.val (.int p1), .val (.int p2), .val (.int p3), .val (.int p4), .val (.int p5), .val (.ref b0), .val (.int (0 : Int32)), .val (.ref b56b8b15)] [(.int (f11 (6 : Int32) (0 : Int32) p2 p3 p5 ar56))])
        have c174 : ¬ (f11 (6 : Int32) (0 : Int32) p2 p3 p5 ar56) = (0 : Int32) := own_okb _ _ _ _ _ (8 : Int32) _ (by decide) (by decide) (by decide) (by rw [← ear56]; refine (own_cpi (own_ck h3.2 (by decide) (Nat.lt_of_lt_of_le (by decide) h3.1) (by decide))).trans ?_; rw [← ear39]; exact w6)
        refine own_if_eq X hx hby at_174 197 177 (by decide) rfl (fun q => absurd q c174) (fun _ => ?_)
        refine own_aload X hx hby (.ref b56b8b15) at_177 rfl rfl 179 rfl ?_
        refine own_bipush X hx hby (7 : Int32) at_179 rfl 181 rfl ?_
        refine own_iload X hx hby (0 : Int32) at_181 rfl 183 rfl ?_
        refine own_iloadN X hx hby p2 at_183 rfl 184 rfl ?_
        refine own_iloadN X hx hby p3 at_184 rfl 185 rfl ?_
        refine own_iload X hx hby p5 at_185 rfl 187 rfl ?_
        refine own_callS X hx hby hZ (st := []) [(.ref b56b8b15), (.int (7 : Int32)), (.int (0 : Int32)), (.int p2), (.int p3), (.int p5)] rfl hown (hw _ (List.mem_of_getElem? (i := 63) rfl)) (hw _ (List.mem_of_getElem? (i := 64) rfl)) (hw _ (List.mem_of_getElem? (i := 65) rfl)) (hw _ (List.mem_of_getElem? (i := 66) rfl)) (by decide) at_187 (rm11 l Z a0 hw b56b8b15 (7 : Int32) (0 : Int32) p2 p3 p5 ar56 h56 n0 Zs (by decide) A_b56b8b15 E_b56b8b15) eT pd_9 rfl (by rw [hml]; rfl) (by decide) 0 rfl (by decide) (by decide) (by decide) 190 rfl ?_
        intro T187 L9 v9 X hQ
        obtain ⟨rfl, N9, eT⟩ := hQ
        have N := Fr.app N N9
        show Go p e below _ T187 (mkF m 190 #[.val (.int p1), .val (.int p2), .val (.int p3), .val (.int p4), .val (.int p5), .val (.ref b0), .val (.int (0 : Int32)), .val (.ref b56b8b15)] [(.int (f11 (7 : Int32) (0 : Int32) p2 p3 p5 ar56))])
        have c190 : ¬ (f11 (7 : Int32) (0 : Int32) p2 p3 p5 ar56) = (0 : Int32) := own_okb _ _ _ _ _ (0 : Int32) _ (by decide) (by decide) (by decide) (by rw [← ear56]; refine (own_cpi (own_ck h3.2 (by decide) (Nat.lt_of_lt_of_le (by decide) h3.1) (by decide))).trans ?_; rw [← ear39]; exact w7)
        refine own_if_eq X hx hby at_190 197 193 (by decide) rfl (fun q => absurd q c190) (fun _ => ?_)
        refine own_iconst X hx hby (1 : Int32) at_193 rfl 194 rfl ?_
        refine own_goto X hx hby at_194 198 (by decide) ?_
        refine own_retN X hx hby hret hlk (t := .boolean) (z' := (1 : Int32)) (by simp) at_198 (by decide) (by decide) rfl ?_
        rw [eT]
        exact ⟨rfl, N⟩
    · skip
      refine own_aload X hx hby (.ref b0) at_33 rfl rfl 35 rfl ?_
      refine own_iload X hx hby (1 : Int32) at_35 rfl 37 rfl ?_
      refine own_iload X hx hby p5 at_37 rfl 39 rfl ?_
      refine own_callV X hx hby hZ (st := []) [(.int (1 : Int32)), (.int p5)] rfl hown (hw _ (List.mem_of_getElem? (i := 39) rfl)) (hw _ (List.mem_of_getElem? (i := 40) rfl)) (hw _ (List.mem_of_getElem? (i := 42) rfl)) (hw _ (List.mem_of_getElem? (i := 41) rfl)) (hw _ (List.mem_of_getElem? (i := 2) rfl)) (hw _ (List.mem_of_getElem? (i := 43) rfl)) E_b0 (by decide) at_39 (rm8_1 l Z a0 hw b0 p5 b8b6 ar22 n3 (8 : Int32) h22 n0 Zs h3.1 A_b8b6 E_b8b6 g_b8b6 E_b0 F_bytes_b0 F_length_b0 g_b0) eT pd_6 rfl (by rw [hml]; rfl) (by decide) 0 rfl (by decide) (by decide) (by decide) 42 rfl ?_
      intro T39 L9 v9 X hQ
      obtain ⟨h39, eT⟩ : ∃ z, T39.heap = z := ⟨_, rfl⟩
      rw [eT] at hQ
      obtain ⟨rfl, N9, Kc, A_b8b6, E_b8b6⟩ := hQ
      have E_b0 := E_b0.keep Kc
      have F_bytes_b0 := F_bytes_b0.keep Kc (ninS ne_b0_b8b6 nin0)
      have F_length_b0 := F_length_b0.keep Kc (ninS ne_b0_b8b6 nin0)
      obtain ⟨ar39, ear39⟩ : ∃ z : Nat → Int32, (updI (updI (updI (updI ar22 1 (nar .byte (((p5.toUInt32 >>> ((24 : Int32) &&& 31).toUInt32).toInt32).toInt8.toInt32))) 2 (nar .byte (((p5.toUInt32 >>> ((16 : Int32) &&& 31).toUInt32).toInt32).toInt8.toInt32))) 3 (nar .byte (((p5.toUInt32 >>> ((8 : Int32) &&& 31).toUInt32).toInt32).toInt8.toInt32))) 4 (nar .byte (((p5.toUInt32 >>> ((0 : Int32) &&& 31).toUInt32).toInt32).toInt8.toInt32))) = z := ⟨_, rfl⟩
      rw [ear39] at A_b8b6
      have K := K.trans Kc (allS (Or.inr sz_b8b6) all0)
      have Zs := Nat.le_trans Zs Kc.1
      have N := Fr.app N N9
      show Go p e below _ T39 (mkF m 42 #[.val (.int p1), .val (.int p2), .val (.int p3), .val (.int p4), .val (.int p5), .val (.ref b0), .val (.int (1 : Int32)), .unset] [])
      refine own_aload X hx hby (.ref b0) at_42 rfl rfl 44 rfl ?_
      refine own_callV X hx hby hZ (st := []) [] rfl hown (hw _ (List.mem_of_getElem? (i := 44) rfl)) (hw _ (List.mem_of_getElem? (i := 45) rfl)) (hw _ (List.mem_of_getElem? (i := 47) rfl)) (hw _ (List.mem_of_getElem? (i := 46) rfl)) (hw _ (List.mem_of_getElem? (i := 2) rfl)) (hw _ (List.mem_of_getElem? (i := 48) rfl)) E_b0 (by decide) at_44 (rm9 l Z a0 hw b0 h39 n0 Zs F_length_b0) eT pd_0 rfl (by rw [hml]; rfl) (by decide) 0 rfl (by decide) (by decide) (by decide) 47 rfl ?_
      intro T44 L9 v9 X hQ
      obtain ⟨rfl, N9, eT⟩ := hQ
      have N := Fr.app N N9
      show Go p e below _ T44 (mkF m 47 #[.val (.int p1), .val (.int p2), .val (.int p3), .val (.int p4), .val (.int p5), .val (.ref b0), .val (.int (1 : Int32)), .unset] [(.int (8 : Int32))])
      refine own_bipush X hx hby (8 : Int32) at_47 rfl 49 rfl ?_
      have c49 : (8 : Int32) = (8 : Int32) := by decide
      refine own_icmp_eq X hx hby at_49 54 52 (by decide) rfl (fun _ => ?_) (fun q => absurd c49 q)
      refine own_aload X hx hby (.ref b0) at_54 rfl rfl 56 rfl ?_
      by_cases q8 : n3 = 8
      · skip
        subst q8
        refine own_callV X hx hby hZ (st := []) [] rfl hown (hw _ (List.mem_of_getElem? (i := 49) rfl)) (hw _ (List.mem_of_getElem? (i := 50) rfl)) (hw _ (List.mem_of_getElem? (i := 52) rfl)) (hw _ (List.mem_of_getElem? (i := 51) rfl)) (hw _ (List.mem_of_getElem? (i := 2) rfl)) (hw _ (List.mem_of_getElem? (i := 53) rfl)) E_b0 (by decide) at_56 (rm10_c l Z a0 hw b0 b8b6 ar39 h39 n0 Zs A_b8b6 E_b8b6 F_bytes_b0 F_length_b0) eT pd_3 rfl (by rw [hml]; rfl) (by decide) 0 rfl (by decide) (by decide) (by decide) 59 rfl ?_
        intro T56 L9 v9 X hQ
        obtain ⟨h56, eT⟩ : ∃ z, T56.heap = z := ⟨_, rfl⟩
        rw [eT] at hQ
        have lt_b0 := E_b0.lt
        have lt_b8b6 := A_b8b6.lt
        obtain ⟨b56b8b7, rfl, N9, Kc, hs_b56b8b7, A_b56b8b7, E_b56b8b7⟩ := hQ
        have g_b56b8b7 : n0 ≤ b56b8b7 := Nat.le_trans Zs hs_b56b8b7
        have sz_b56b8b7 : h0.size ≤ b56b8b7 := Nat.le_trans K.1 hs_b56b8b7
        have ne_b0_b56b8b7 : b0 ≠ b56b8b7 := Nat.ne_of_lt (Nat.lt_of_lt_of_le lt_b0 hs_b56b8b7)
        have ne_b8b6_b56b8b7 : b8b6 ≠ b56b8b7 := Nat.ne_of_lt (Nat.lt_of_lt_of_le lt_b8b6 hs_b56b8b7)
        have E_b0 := E_b0.keep Kc
        have F_bytes_b0 := F_bytes_b0.keep Kc nin0
        have F_length_b0 := F_length_b0.keep Kc nin0
        have A_b8b6 := A_b8b6.keep Kc nin0
        have E_b8b6 := E_b8b6.keep Kc
        have K := K.trans Kc all0
        have Zs := Nat.le_trans Zs Kc.1
        have N := Fr.app N N9
        show Go p e below _ T56 (mkF m 59 #[.val (.int p1), .val (.int p2), .val (.int p3), .val (.int p4), .val (.int p5), .val (.ref b0), .val (.int (1 : Int32)), .unset] [(.ref b56b8b7)])
        refine own_astore X hx hby at_59 rfl (l' := #[.val (.int p1), .val (.int p2), .val (.int p3), .val (.int p4), .val (.int p5), .val (.ref b0), .val (.int (1 : Int32)), .val (.ref b56b8b7)]) rfl 61 rfl ?_
        refine own_aload X hx hby (.ref b56b8b7) at_61 rfl rfl 63 rfl ?_
        refine own_arraylength X hx hby hZ (8 : Int32) eT A_b56b8b7 rfl at_63 64 rfl ?_
        refine own_bipush X hx hby (8 : Int32) at_64 rfl 66 rfl ?_
        have c66 : (8 : Int32) = (8 : Int32) := by decide
        refine own_icmp_eq X hx hby at_66 71 69 (by decide) rfl (fun _ => ?_) (fun q => absurd c66 q)
        refine own_aload X hx hby (.ref b56b8b7) at_71 rfl rfl 73 rfl ?_
        refine own_iconst X hx hby (0 : Int32) at_73 rfl 74 rfl ?_
        refine own_iload X hx hby (1 : Int32) at_74 rfl 76 rfl ?_
        refine own_iloadN X hx hby p2 at_76 rfl 77 rfl ?_
        refine own_iloadN X hx hby p3 at_77 rfl 78 rfl ?_
        refine own_iload X hx hby p5 at_78 rfl 80 rfl ?_
        refine own_callS X hx hby hZ (st := []) [(.ref b56b8b7), (.int (0 : Int32)), (.int (1 : Int32)), (.int p2), (.int p3), (.int p5)] rfl hown (hw _ (List.mem_of_getElem? (i := 63) rfl)) (hw _ (List.mem_of_getElem? (i := 64) rfl)) (hw _ (List.mem_of_getElem? (i := 65) rfl)) (hw _ (List.mem_of_getElem? (i := 66) rfl)) (by decide) at_80 (rm11 l Z a0 hw b56b8b7 (0 : Int32) (1 : Int32) p2 p3 p5 ar39 h56 n0 Zs (by decide) A_b56b8b7 E_b56b8b7) eT pd_9 rfl (by rw [hml]; rfl) (by decide) 0 rfl (by decide) (by decide) (by decide) 83 rfl ?_
        intro T80 L9 v9 X hQ
        obtain ⟨rfl, N9, eT⟩ := hQ
        have N := Fr.app N N9
        show Go p e below _ T80 (mkF m 83 #[.val (.int p1), .val (.int p2), .val (.int p3), .val (.int p4), .val (.int p5), .val (.ref b0), .val (.int (1 : Int32)), .val (.ref b56b8b7)] [(.int (f11 (0 : Int32) (1 : Int32) p2 p3 p5 ar39))])
        have c83 : ¬ (f11 (0 : Int32) (1 : Int32) p2 p3 p5 ar39) = (0 : Int32) := own_oka _ _ _ _ _ (24 : Int32) _ (by decide) (by decide) (by decide) (by rw [← ear39]; exact w0)
        refine own_if_eq X hx hby at_83 197 86 (by decide) rfl (fun q => absurd q c83) (fun _ => ?_)
        refine own_aload X hx hby (.ref b56b8b7) at_86 rfl rfl 88 rfl ?_
        refine own_iconst X hx hby (1 : Int32) at_88 rfl 89 rfl ?_
        refine own_iload X hx hby (1 : Int32) at_89 rfl 91 rfl ?_
        refine own_iloadN X hx hby p2 at_91 rfl 92 rfl ?_
        refine own_iloadN X hx hby p3 at_92 rfl 93 rfl ?_
        refine own_iload X hx hby p5 at_93 rfl 95 rfl ?_
        refine own_callS X hx hby hZ (st := []) [(.ref b56b8b7), (.int (1 : Int32)), (.int (1 : Int32)), (.int p2), (.int p3), (.int p5)] rfl hown (hw _ (List.mem_of_getElem? (i := 63) rfl)) (hw _ (List.mem_of_getElem? (i := 64) rfl)) (hw _ (List.mem_of_getElem? (i := 65) rfl)) (hw _ (List.mem_of_getElem? (i := 66) rfl)) (by decide) at_95 (rm11 l Z a0 hw b56b8b7 (1 : Int32) (1 : Int32) p2 p3 p5 ar39 h56 n0 Zs (by decide) A_b56b8b7 E_b56b8b7) eT pd_9 rfl (by rw [hml]; rfl) (by decide) 0 rfl (by decide) (by decide) (by decide) 98 rfl ?_
        intro T95 L9 v9 X hQ
        obtain ⟨rfl, N9, eT⟩ := hQ
        have N := Fr.app N N9
        show Go p e below _ T95 (mkF m 98 #[.val (.int p1), .val (.int p2), .val (.int p3), .val (.int p4), .val (.int p5), .val (.ref b0), .val (.int (1 : Int32)), .val (.ref b56b8b7)] [(.int (f11 (1 : Int32) (1 : Int32) p2 p3 p5 ar39))])
        have c98 : ¬ (f11 (1 : Int32) (1 : Int32) p2 p3 p5 ar39) = (0 : Int32) := own_okv _ _ _ _ _ (24 : Int32) _ (by decide) (by decide) (by decide) (by rw [← ear39]; rfl)
        refine own_if_eq X hx hby at_98 197 101 (by decide) rfl (fun q => absurd q c98) (fun _ => ?_)
        refine own_aload X hx hby (.ref b56b8b7) at_101 rfl rfl 103 rfl ?_
        refine own_iconst X hx hby (2 : Int32) at_103 rfl 104 rfl ?_
        refine own_iload X hx hby (1 : Int32) at_104 rfl 106 rfl ?_
        refine own_iloadN X hx hby p2 at_106 rfl 107 rfl ?_
        refine own_iloadN X hx hby p3 at_107 rfl 108 rfl ?_
        refine own_iload X hx hby p5 at_108 rfl 110 rfl ?_
        refine own_callS X hx hby hZ (st := []) [(.ref b56b8b7), (.int (2 : Int32)), (.int (1 : Int32)), (.int p2), (.int p3), (.int p5)] rfl hown (hw _ (List.mem_of_getElem? (i := 63) rfl)) (hw _ (List.mem_of_getElem? (i := 64) rfl)) (hw _ (List.mem_of_getElem? (i := 65) rfl)) (hw _ (List.mem_of_getElem? (i := 66) rfl)) (by decide) at_110 (rm11 l Z a0 hw b56b8b7 (2 : Int32) (1 : Int32) p2 p3 p5 ar39 h56 n0 Zs (by decide) A_b56b8b7 E_b56b8b7) eT pd_9 rfl (by rw [hml]; rfl) (by decide) 0 rfl (by decide) (by decide) (by decide) 113 rfl ?_
        intro T110 L9 v9 X hQ
        obtain ⟨rfl, N9, eT⟩ := hQ
        have N := Fr.app N N9
        show Go p e below _ T110 (mkF m 113 #[.val (.int p1), .val (.int p2), .val (.int p3), .val (.int p4), .val (.int p5), .val (.ref b0), .val (.int (1 : Int32)), .val (.ref b56b8b7)] [(.int (f11 (2 : Int32) (1 : Int32) p2 p3 p5 ar39))])
        have c113 : ¬ (f11 (2 : Int32) (1 : Int32) p2 p3 p5 ar39) = (0 : Int32) := own_okv _ _ _ _ _ (16 : Int32) _ (by decide) (by decide) (by decide) (by rw [← ear39]; rfl)
        refine own_if_eq X hx hby at_113 197 116 (by decide) rfl (fun q => absurd q c113) (fun _ => ?_)
        refine own_aload X hx hby (.ref b56b8b7) at_116 rfl rfl 118 rfl ?_
        refine own_iconst X hx hby (3 : Int32) at_118 rfl 119 rfl ?_
        refine own_iload X hx hby (1 : Int32) at_119 rfl 121 rfl ?_
        refine own_iloadN X hx hby p2 at_121 rfl 122 rfl ?_
        refine own_iloadN X hx hby p3 at_122 rfl 123 rfl ?_
        refine own_iload X hx hby p5 at_123 rfl 125 rfl ?_
        refine own_callS X hx hby hZ (st := []) [(.ref b56b8b7), (.int (3 : Int32)), (.int (1 : Int32)), (.int p2), (.int p3), (.int p5)] rfl hown (hw _ (List.mem_of_getElem? (i := 63) rfl)) (hw _ (List.mem_of_getElem? (i := 64) rfl)) (hw _ (List.mem_of_getElem? (i := 65) rfl)) (hw _ (List.mem_of_getElem? (i := 66) rfl)) (by decide) at_125 (rm11 l Z a0 hw b56b8b7 (3 : Int32) (1 : Int32) p2 p3 p5 ar39 h56 n0 Zs (by decide) A_b56b8b7 E_b56b8b7) eT pd_9 rfl (by rw [hml]; rfl) (by decide) 0 rfl (by decide) (by decide) (by decide) 128 rfl ?_
        intro T125 L9 v9 X hQ
        obtain ⟨rfl, N9, eT⟩ := hQ
        have N := Fr.app N N9
        show Go p e below _ T125 (mkF m 128 #[.val (.int p1), .val (.int p2), .val (.int p3), .val (.int p4), .val (.int p5), .val (.ref b0), .val (.int (1 : Int32)), .val (.ref b56b8b7)] [(.int (f11 (3 : Int32) (1 : Int32) p2 p3 p5 ar39))])
        have c128 : ¬ (f11 (3 : Int32) (1 : Int32) p2 p3 p5 ar39) = (0 : Int32) := own_okv _ _ _ _ _ (8 : Int32) _ (by decide) (by decide) (by decide) (by rw [← ear39]; rfl)
        refine own_if_eq X hx hby at_128 197 131 (by decide) rfl (fun q => absurd q c128) (fun _ => ?_)
        refine own_aload X hx hby (.ref b56b8b7) at_131 rfl rfl 133 rfl ?_
        refine own_iconst X hx hby (4 : Int32) at_133 rfl 134 rfl ?_
        refine own_iload X hx hby (1 : Int32) at_134 rfl 136 rfl ?_
        refine own_iloadN X hx hby p2 at_136 rfl 137 rfl ?_
        refine own_iloadN X hx hby p3 at_137 rfl 138 rfl ?_
        refine own_iload X hx hby p5 at_138 rfl 140 rfl ?_
        refine own_callS X hx hby hZ (st := []) [(.ref b56b8b7), (.int (4 : Int32)), (.int (1 : Int32)), (.int p2), (.int p3), (.int p5)] rfl hown (hw _ (List.mem_of_getElem? (i := 63) rfl)) (hw _ (List.mem_of_getElem? (i := 64) rfl)) (hw _ (List.mem_of_getElem? (i := 65) rfl)) (hw _ (List.mem_of_getElem? (i := 66) rfl)) (by decide) at_140 (rm11 l Z a0 hw b56b8b7 (4 : Int32) (1 : Int32) p2 p3 p5 ar39 h56 n0 Zs (by decide) A_b56b8b7 E_b56b8b7) eT pd_9 rfl (by rw [hml]; rfl) (by decide) 0 rfl (by decide) (by decide) (by decide) 143 rfl ?_
        intro T140 L9 v9 X hQ
        obtain ⟨rfl, N9, eT⟩ := hQ
        have N := Fr.app N N9
        show Go p e below _ T140 (mkF m 143 #[.val (.int p1), .val (.int p2), .val (.int p3), .val (.int p4), .val (.int p5), .val (.ref b0), .val (.int (1 : Int32)), .val (.ref b56b8b7)] [(.int (f11 (4 : Int32) (1 : Int32) p2 p3 p5 ar39))])
        have c143 : ¬ (f11 (4 : Int32) (1 : Int32) p2 p3 p5 ar39) = (0 : Int32) := own_okv _ _ _ _ _ (0 : Int32) _ (by decide) (by decide) (by decide) (by rw [← ear39]; rfl)
        refine own_if_eq X hx hby at_143 197 146 (by decide) rfl (fun q => absurd q c143) (fun _ => ?_)
        refine own_aload X hx hby (.ref b56b8b7) at_146 rfl rfl 148 rfl ?_
        refine own_iconst X hx hby (5 : Int32) at_148 rfl 149 rfl ?_
        refine own_iload X hx hby (1 : Int32) at_149 rfl 151 rfl ?_
        refine own_iloadN X hx hby p2 at_151 rfl 152 rfl ?_
        refine own_iloadN X hx hby p3 at_152 rfl 153 rfl ?_
        refine own_iload X hx hby p5 at_153 rfl 155 rfl ?_
        refine own_callS X hx hby hZ (st := []) [(.ref b56b8b7), (.int (5 : Int32)), (.int (1 : Int32)), (.int p2), (.int p3), (.int p5)] rfl hown (hw _ (List.mem_of_getElem? (i := 63) rfl)) (hw _ (List.mem_of_getElem? (i := 64) rfl)) (hw _ (List.mem_of_getElem? (i := 65) rfl)) (hw _ (List.mem_of_getElem? (i := 66) rfl)) (by decide) at_155 (rm11 l Z a0 hw b56b8b7 (5 : Int32) (1 : Int32) p2 p3 p5 ar39 h56 n0 Zs (by decide) A_b56b8b7 E_b56b8b7) eT pd_9 rfl (by rw [hml]; rfl) (by decide) 0 rfl (by decide) (by decide) (by decide) 158 rfl ?_
        intro T155 L9 v9 X hQ
        obtain ⟨rfl, N9, eT⟩ := hQ
        have N := Fr.app N N9
        show Go p e below _ T155 (mkF m 158 #[.val (.int p1), .val (.int p2), .val (.int p3), .val (.int p4), .val (.int p5), .val (.ref b0), .val (.int (1 : Int32)), .val (.ref b56b8b7)] [(.int (f11 (5 : Int32) (1 : Int32) p2 p3 p5 ar39))])
        have c158 : ¬ (f11 (5 : Int32) (1 : Int32) p2 p3 p5 ar39) = (0 : Int32) := own_okb _ _ _ _ _ (16 : Int32) _ (by decide) (by decide) (by decide) (by rw [← ear39]; exact w5)
        refine own_if_eq X hx hby at_158 197 161 (by decide) rfl (fun q => absurd q c158) (fun _ => ?_)
        refine own_aload X hx hby (.ref b56b8b7) at_161 rfl rfl 163 rfl ?_
        refine own_bipush X hx hby (6 : Int32) at_163 rfl 165 rfl ?_
        refine own_iload X hx hby (1 : Int32) at_165 rfl 167 rfl ?_
        refine own_iloadN X hx hby p2 at_167 rfl 168 rfl ?_
        refine own_iloadN X hx hby p3 at_168 rfl 169 rfl ?_
        refine own_iload X hx hby p5 at_169 rfl 171 rfl ?_
        refine own_callS X hx hby hZ (st := []) [(.ref b56b8b7), (.int (6 : Int32)), (.int (1 : Int32)), (.int p2), (.int p3), (.int p5)] rfl hown (hw _ (List.mem_of_getElem? (i := 63) rfl)) (hw _ (List.mem_of_getElem? (i := 64) rfl)) (hw _ (List.mem_of_getElem? (i := 65) rfl)) (hw _ (List.mem_of_getElem? (i := 66) rfl)) (by decide) at_171 (rm11 l Z a0 hw b56b8b7 (6 : Int32) (1 : Int32) p2 p3 p5 ar39 h56 n0 Zs (by decide) A_b56b8b7 E_b56b8b7) eT pd_9 rfl (by rw [hml]; rfl) (by decide) 0 rfl (by decide) (by decide) (by decide) 174 rfl ?_
        intro T171 L9 v9 X hQ
        obtain ⟨rfl, N9, eT⟩ := hQ
        have N := Fr.app N N9
        show Go p e below _ T171 (mkF m 174 #[.val (.int p1), .val (.int p2), .val (.int p3), .val (.int p4), .val (.int p5), .val (.ref b0), .val (.int (1 : Int32)), .val (.ref b56b8b7)] [(.int (f11 (6 : Int32) (1 : Int32) p2 p3 p5 ar39))])
        have c174 : ¬ (f11 (6 : Int32) (1 : Int32) p2 p3 p5 ar39) = (0 : Int32) := own_okb _ _ _ _ _ (8 : Int32) _ (by decide) (by decide) (by decide) (by rw [← ear39]; exact w6)
        refine own_if_eq X hx hby at_174 197 177 (by decide) rfl (fun q => absurd q c174) (fun _ => ?_)
        refine own_aload X hx hby (.ref b56b8b7) at_177 rfl rfl 179 rfl ?_
        refine own_bipush X hx hby (7 : Int32) at_179 rfl 181 rfl ?_
        refine own_iload X hx hby (1 : Int32) at_181 rfl 183 rfl ?_
        refine own_iloadN X hx hby p2 at_183 rfl 184 rfl ?_
        refine own_iloadN X hx hby p3 at_184 rfl 185 rfl ?_
        refine own_iload X hx hby p5 at_185 rfl 187 rfl ?_
        refine own_callS X hx hby hZ (st := []) [(.ref b56b8b7), (.int (7 : Int32)), (.int (1 : Int32)), (.int p2), (.int p3), (.int p5)] rfl hown (hw _ (List.mem_of_getElem? (i := 63) rfl)) (hw _ (List.mem_of_getElem? (i := 64) rfl)) (hw _ (List.mem_of_getElem? (i := 65) rfl)) (hw _ (List.mem_of_getElem? (i := 66) rfl)) (by decide) at_187 (rm11 l Z a0 hw b56b8b7 (7 : Int32) (1 : Int32) p2 p3 p5 ar39 h56 n0 Zs (by decide) A_b56b8b7 E_b56b8b7) eT pd_9 rfl (by rw [hml]; rfl) (by decide) 0 rfl (by decide) (by decide) (by decide) 190 rfl ?_
        intro T187 L9 v9 X hQ
        obtain ⟨rfl, N9, eT⟩ := hQ
        have N := Fr.app N N9
        show Go p e below _ T187 (mkF m 190 #[.val (.int p1), .val (.int p2), .val (.int p3), .val (.int p4), .val (.int p5), .val (.ref b0), .val (.int (1 : Int32)), .val (.ref b56b8b7)] [(.int (f11 (7 : Int32) (1 : Int32) p2 p3 p5 ar39))])
        have c190 : ¬ (f11 (7 : Int32) (1 : Int32) p2 p3 p5 ar39) = (0 : Int32) := own_okb _ _ _ _ _ (0 : Int32) _ (by decide) (by decide) (by decide) (by rw [← ear39]; exact w7)
        refine own_if_eq X hx hby at_190 197 193 (by decide) rfl (fun q => absurd q c190) (fun _ => ?_)
        refine own_iconst X hx hby (1 : Int32) at_193 rfl 194 rfl ?_
        refine own_goto X hx hby at_194 198 (by decide) ?_
        refine own_retN X hx hby hret hlk (t := .boolean) (z' := (1 : Int32)) (by simp) at_198 (by decide) (by decide) rfl ?_
        rw [eT]
        exact ⟨rfl, N⟩
      · skip
        refine own_callV X hx hby hZ (st := []) [] rfl hown (hw _ (List.mem_of_getElem? (i := 49) rfl)) (hw _ (List.mem_of_getElem? (i := 50) rfl)) (hw _ (List.mem_of_getElem? (i := 52) rfl)) (hw _ (List.mem_of_getElem? (i := 51) rfl)) (hw _ (List.mem_of_getElem? (i := 2) rfl)) (hw _ (List.mem_of_getElem? (i := 53) rfl)) E_b0 (by decide) at_56 (rm10_n l Z a0 hw b0 b8b6 ar39 n3 h39 n0 Zs (own_n8 q8 h3.2) h3.2 A_b8b6 E_b8b6 F_bytes_b0 F_length_b0) eT pd_3 rfl (by rw [hml]; rfl) (by decide) 0 rfl (by decide) (by decide) (by decide) 59 rfl ?_
        intro T56 L9 v9 X hQ
        obtain ⟨h56, eT⟩ : ∃ z, T56.heap = z := ⟨_, rfl⟩
        rw [eT] at hQ
        have lt_b0 := E_b0.lt
        have lt_b8b6 := A_b8b6.lt
        obtain ⟨b56b8b15, rfl, N9, Kc, hs_b56b8b15, A_b56b8b15, E_b56b8b15⟩ := hQ
        have g_b56b8b15 : n0 ≤ b56b8b15 := Nat.le_trans Zs hs_b56b8b15
        have sz_b56b8b15 : h0.size ≤ b56b8b15 := Nat.le_trans K.1 hs_b56b8b15
        have ne_b0_b56b8b15 : b0 ≠ b56b8b15 := Nat.ne_of_lt (Nat.lt_of_lt_of_le lt_b0 hs_b56b8b15)
        have ne_b8b6_b56b8b15 : b8b6 ≠ b56b8b15 := Nat.ne_of_lt (Nat.lt_of_lt_of_le lt_b8b6 hs_b56b8b15)
        have E_b0 := E_b0.keep Kc
        have F_bytes_b0 := F_bytes_b0.keep Kc nin0
        have F_length_b0 := F_length_b0.keep Kc nin0
        have A_b8b6 := A_b8b6.keep Kc nin0
        have E_b8b6 := E_b8b6.keep Kc
        obtain ⟨ar56, ear56⟩ : ∃ z : Nat → Int32, (own_cp ar39 (Int32.toNatClampNeg (f7 (Int32.ofNat n3) (8 : Int32)))) = z := ⟨_, rfl⟩
        rw [ear56] at A_b56b8b15
        have K := K.trans Kc all0
        have Zs := Nat.le_trans Zs Kc.1
        have N := Fr.app N N9
        show Go p e below _ T56 (mkF m 59 #[.val (.int p1), .val (.int p2), .val (.int p3), .val (.int p4), .val (.int p5), .val (.ref b0), .val (.int (1 : Int32)), .unset] [(.ref b56b8b15)])
        refine own_astore X hx hby at_59 rfl (l' := #[.val (.int p1), .val (.int p2), .val (.int p3), .val (.int p4), .val (.int p5), .val (.ref b0), .val (.int (1 : Int32)), .val (.ref b56b8b15)]) rfl 61 rfl ?_
        refine own_aload X hx hby (.ref b56b8b15) at_61 rfl rfl 63 rfl ?_
        refine own_arraylength X hx hby hZ (8 : Int32) eT A_b56b8b15 rfl at_63 64 rfl ?_
        refine own_bipush X hx hby (8 : Int32) at_64 rfl 66 rfl ?_
        have c66 : (8 : Int32) = (8 : Int32) := by decide
        refine own_icmp_eq X hx hby at_66 71 69 (by decide) rfl (fun _ => ?_) (fun q => absurd c66 q)
        refine own_aload X hx hby (.ref b56b8b15) at_71 rfl rfl 73 rfl ?_
        refine own_iconst X hx hby (0 : Int32) at_73 rfl 74 rfl ?_
        refine own_iload X hx hby (1 : Int32) at_74 rfl 76 rfl ?_
        refine own_iloadN X hx hby p2 at_76 rfl 77 rfl ?_
        refine own_iloadN X hx hby p3 at_77 rfl 78 rfl ?_
        refine own_iload X hx hby p5 at_78 rfl 80 rfl ?_
        refine own_callS X hx hby hZ (st := []) [(.ref b56b8b15), (.int (0 : Int32)), (.int (1 : Int32)), (.int p2), (.int p3), (.int p5)] rfl hown (hw _ (List.mem_of_getElem? (i := 63) rfl)) (hw _ (List.mem_of_getElem? (i := 64) rfl)) (hw _ (List.mem_of_getElem? (i := 65) rfl)) (hw _ (List.mem_of_getElem? (i := 66) rfl)) (by decide) at_80 (rm11 l Z a0 hw b56b8b15 (0 : Int32) (1 : Int32) p2 p3 p5 ar56 h56 n0 Zs (by decide) A_b56b8b15 E_b56b8b15) eT pd_9 rfl (by rw [hml]; rfl) (by decide) 0 rfl (by decide) (by decide) (by decide) 83 rfl ?_
        intro T80 L9 v9 X hQ
        obtain ⟨rfl, N9, eT⟩ := hQ
        have N := Fr.app N N9
        show Go p e below _ T80 (mkF m 83 #[.val (.int p1), .val (.int p2), .val (.int p3), .val (.int p4), .val (.int p5), .val (.ref b0), .val (.int (1 : Int32)), .val (.ref b56b8b15)] [(.int (f11 (0 : Int32) (1 : Int32) p2 p3 p5 ar56))])
        have c83 : ¬ (f11 (0 : Int32) (1 : Int32) p2 p3 p5 ar56) = (0 : Int32) := own_oka _ _ _ _ _ (24 : Int32) _ (by decide) (by decide) (by decide) (by rw [← ear56]; refine (own_cpi (own_ck h3.2 (by decide) (Nat.lt_of_lt_of_le (by decide) h3.1) (by decide))).trans ?_; rw [← ear39]; exact w0)
        refine own_if_eq X hx hby at_83 197 86 (by decide) rfl (fun q => absurd q c83) (fun _ => ?_)
        refine own_aload X hx hby (.ref b56b8b15) at_86 rfl rfl 88 rfl ?_
        refine own_iconst X hx hby (1 : Int32) at_88 rfl 89 rfl ?_
        refine own_iload X hx hby (1 : Int32) at_89 rfl 91 rfl ?_
        refine own_iloadN X hx hby p2 at_91 rfl 92 rfl ?_
        refine own_iloadN X hx hby p3 at_92 rfl 93 rfl ?_
        refine own_iload X hx hby p5 at_93 rfl 95 rfl ?_
        refine own_callS X hx hby hZ (st := []) [(.ref b56b8b15), (.int (1 : Int32)), (.int (1 : Int32)), (.int p2), (.int p3), (.int p5)] rfl hown (hw _ (List.mem_of_getElem? (i := 63) rfl)) (hw _ (List.mem_of_getElem? (i := 64) rfl)) (hw _ (List.mem_of_getElem? (i := 65) rfl)) (hw _ (List.mem_of_getElem? (i := 66) rfl)) (by decide) at_95 (rm11 l Z a0 hw b56b8b15 (1 : Int32) (1 : Int32) p2 p3 p5 ar56 h56 n0 Zs (by decide) A_b56b8b15 E_b56b8b15) eT pd_9 rfl (by rw [hml]; rfl) (by decide) 0 rfl (by decide) (by decide) (by decide) 98 rfl ?_
        intro T95 L9 v9 X hQ
        obtain ⟨rfl, N9, eT⟩ := hQ
        have N := Fr.app N N9
        show Go p e below _ T95 (mkF m 98 #[.val (.int p1), .val (.int p2), .val (.int p3), .val (.int p4), .val (.int p5), .val (.ref b0), .val (.int (1 : Int32)), .val (.ref b56b8b15)] [(.int (f11 (1 : Int32) (1 : Int32) p2 p3 p5 ar56))])
        have c98 : ¬ (f11 (1 : Int32) (1 : Int32) p2 p3 p5 ar56) = (0 : Int32) := own_okv _ _ _ _ _ (24 : Int32) _ (by decide) (by decide) (by decide) (by rw [← ear56]; refine (own_cpi (own_ck h3.2 (by decide) (Nat.lt_of_lt_of_le (by decide) h3.1) (by decide))).trans ?_; rw [← ear39]; rfl)
        refine own_if_eq X hx hby at_98 197 101 (by decide) rfl (fun q => absurd q c98) (fun _ => ?_)
        refine own_aload X hx hby (.ref b56b8b15) at_101 rfl rfl 103 rfl ?_
        refine own_iconst X hx hby (2 : Int32) at_103 rfl 104 rfl ?_
        refine own_iload X hx hby (1 : Int32) at_104 rfl 106 rfl ?_
        refine own_iloadN X hx hby p2 at_106 rfl 107 rfl ?_
        refine own_iloadN X hx hby p3 at_107 rfl 108 rfl ?_
        refine own_iload X hx hby p5 at_108 rfl 110 rfl ?_
        refine own_callS X hx hby hZ (st := []) [(.ref b56b8b15), (.int (2 : Int32)), (.int (1 : Int32)), (.int p2), (.int p3), (.int p5)] rfl hown (hw _ (List.mem_of_getElem? (i := 63) rfl)) (hw _ (List.mem_of_getElem? (i := 64) rfl)) (hw _ (List.mem_of_getElem? (i := 65) rfl)) (hw _ (List.mem_of_getElem? (i := 66) rfl)) (by decide) at_110 (rm11 l Z a0 hw b56b8b15 (2 : Int32) (1 : Int32) p2 p3 p5 ar56 h56 n0 Zs (by decide) A_b56b8b15 E_b56b8b15) eT pd_9 rfl (by rw [hml]; rfl) (by decide) 0 rfl (by decide) (by decide) (by decide) 113 rfl ?_
        intro T110 L9 v9 X hQ
        obtain ⟨rfl, N9, eT⟩ := hQ
        have N := Fr.app N N9
        show Go p e below _ T110 (mkF m 113 #[.val (.int p1), .val (.int p2), .val (.int p3), .val (.int p4), .val (.int p5), .val (.ref b0), .val (.int (1 : Int32)), .val (.ref b56b8b15)] [(.int (f11 (2 : Int32) (1 : Int32) p2 p3 p5 ar56))])
        have c113 : ¬ (f11 (2 : Int32) (1 : Int32) p2 p3 p5 ar56) = (0 : Int32) := own_okv _ _ _ _ _ (16 : Int32) _ (by decide) (by decide) (by decide) (by rw [← ear56]; refine (own_cpi (own_ck h3.2 (by decide) (Nat.lt_of_lt_of_le (by decide) h3.1) (by decide))).trans ?_; rw [← ear39]; rfl)
        refine own_if_eq X hx hby at_113 197 116 (by decide) rfl (fun q => absurd q c113) (fun _ => ?_)
        refine own_aload X hx hby (.ref b56b8b15) at_116 rfl rfl 118 rfl ?_
        refine own_iconst X hx hby (3 : Int32) at_118 rfl 119 rfl ?_
        refine own_iload X hx hby (1 : Int32) at_119 rfl 121 rfl ?_
        refine own_iloadN X hx hby p2 at_121 rfl 122 rfl ?_
        refine own_iloadN X hx hby p3 at_122 rfl 123 rfl ?_
        refine own_iload X hx hby p5 at_123 rfl 125 rfl ?_
        refine own_callS X hx hby hZ (st := []) [(.ref b56b8b15), (.int (3 : Int32)), (.int (1 : Int32)), (.int p2), (.int p3), (.int p5)] rfl hown (hw _ (List.mem_of_getElem? (i := 63) rfl)) (hw _ (List.mem_of_getElem? (i := 64) rfl)) (hw _ (List.mem_of_getElem? (i := 65) rfl)) (hw _ (List.mem_of_getElem? (i := 66) rfl)) (by decide) at_125 (rm11 l Z a0 hw b56b8b15 (3 : Int32) (1 : Int32) p2 p3 p5 ar56 h56 n0 Zs (by decide) A_b56b8b15 E_b56b8b15) eT pd_9 rfl (by rw [hml]; rfl) (by decide) 0 rfl (by decide) (by decide) (by decide) 128 rfl ?_
        intro T125 L9 v9 X hQ
        obtain ⟨rfl, N9, eT⟩ := hQ
        have N := Fr.app N N9
        show Go p e below _ T125 (mkF m 128 #[.val (.int p1), .val (.int p2), .val (.int p3), .val (.int p4), .val (.int p5), .val (.ref b0), .val (.int (1 : Int32)), .val (.ref b56b8b15)] [(.int (f11 (3 : Int32) (1 : Int32) p2 p3 p5 ar56))])
        have c128 : ¬ (f11 (3 : Int32) (1 : Int32) p2 p3 p5 ar56) = (0 : Int32) := own_okv _ _ _ _ _ (8 : Int32) _ (by decide) (by decide) (by decide) (by rw [← ear56]; refine (own_cpi (own_ck h3.2 (by decide) (Nat.lt_of_lt_of_le (by decide) h3.1) (by decide))).trans ?_; rw [← ear39]; rfl)
        refine own_if_eq X hx hby at_128 197 131 (by decide) rfl (fun q => absurd q c128) (fun _ => ?_)
        refine own_aload X hx hby (.ref b56b8b15) at_131 rfl rfl 133 rfl ?_
        refine own_iconst X hx hby (4 : Int32) at_133 rfl 134 rfl ?_
        refine own_iload X hx hby (1 : Int32) at_134 rfl 136 rfl ?_
        refine own_iloadN X hx hby p2 at_136 rfl 137 rfl ?_
        refine own_iloadN X hx hby p3 at_137 rfl 138 rfl ?_
        refine own_iload X hx hby p5 at_138 rfl 140 rfl ?_
        refine own_callS X hx hby hZ (st := []) [(.ref b56b8b15), (.int (4 : Int32)), (.int (1 : Int32)), (.int p2), (.int p3), (.int p5)] rfl hown (hw _ (List.mem_of_getElem? (i := 63) rfl)) (hw _ (List.mem_of_getElem? (i := 64) rfl)) (hw _ (List.mem_of_getElem? (i := 65) rfl)) (hw _ (List.mem_of_getElem? (i := 66) rfl)) (by decide) at_140 (rm11 l Z a0 hw b56b8b15 (4 : Int32) (1 : Int32) p2 p3 p5 ar56 h56 n0 Zs (by decide) A_b56b8b15 E_b56b8b15) eT pd_9 rfl (by rw [hml]; rfl) (by decide) 0 rfl (by decide) (by decide) (by decide) 143 rfl ?_
        intro T140 L9 v9 X hQ
        obtain ⟨rfl, N9, eT⟩ := hQ
        have N := Fr.app N N9
        show Go p e below _ T140 (mkF m 143 #[.val (.int p1), .val (.int p2), .val (.int p3), .val (.int p4), .val (.int p5), .val (.ref b0), .val (.int (1 : Int32)), .val (.ref b56b8b15)] [(.int (f11 (4 : Int32) (1 : Int32) p2 p3 p5 ar56))])
        have c143 : ¬ (f11 (4 : Int32) (1 : Int32) p2 p3 p5 ar56) = (0 : Int32) := own_okv _ _ _ _ _ (0 : Int32) _ (by decide) (by decide) (by decide) (by rw [← ear56]; refine (own_cpi (own_ck h3.2 (by decide) (Nat.lt_of_lt_of_le (by decide) h3.1) (by decide))).trans ?_; rw [← ear39]; rfl)
        refine own_if_eq X hx hby at_143 197 146 (by decide) rfl (fun q => absurd q c143) (fun _ => ?_)
        refine own_aload X hx hby (.ref b56b8b15) at_146 rfl rfl 148 rfl ?_
        refine own_iconst X hx hby (5 : Int32) at_148 rfl 149 rfl ?_
        refine own_iload X hx hby (1 : Int32) at_149 rfl 151 rfl ?_
        refine own_iloadN X hx hby p2 at_151 rfl 152 rfl ?_
        refine own_iloadN X hx hby p3 at_152 rfl 153 rfl ?_
        refine own_iload X hx hby p5 at_153 rfl 155 rfl ?_
        refine own_callS X hx hby hZ (st := []) [(.ref b56b8b15), (.int (5 : Int32)), (.int (1 : Int32)), (.int p2), (.int p3), (.int p5)] rfl hown (hw _ (List.mem_of_getElem? (i := 63) rfl)) (hw _ (List.mem_of_getElem? (i := 64) rfl)) (hw _ (List.mem_of_getElem? (i := 65) rfl)) (hw _ (List.mem_of_getElem? (i := 66) rfl)) (by decide) at_155 (rm11 l Z a0 hw b56b8b15 (5 : Int32) (1 : Int32) p2 p3 p5 ar56 h56 n0 Zs (by decide) A_b56b8b15 E_b56b8b15) eT pd_9 rfl (by rw [hml]; rfl) (by decide) 0 rfl (by decide) (by decide) (by decide) 158 rfl ?_
        intro T155 L9 v9 X hQ
        obtain ⟨rfl, N9, eT⟩ := hQ
        have N := Fr.app N N9
        show Go p e below _ T155 (mkF m 158 #[.val (.int p1), .val (.int p2), .val (.int p3), .val (.int p4), .val (.int p5), .val (.ref b0), .val (.int (1 : Int32)), .val (.ref b56b8b15)] [(.int (f11 (5 : Int32) (1 : Int32) p2 p3 p5 ar56))])
        have c158 : ¬ (f11 (5 : Int32) (1 : Int32) p2 p3 p5 ar56) = (0 : Int32) := own_okb _ _ _ _ _ (16 : Int32) _ (by decide) (by decide) (by decide) (by rw [← ear56]; refine (own_cpi (own_ck h3.2 (by decide) (Nat.lt_of_lt_of_le (by decide) h3.1) (by decide))).trans ?_; rw [← ear39]; exact w5)
        refine own_if_eq X hx hby at_158 197 161 (by decide) rfl (fun q => absurd q c158) (fun _ => ?_)
        refine own_aload X hx hby (.ref b56b8b15) at_161 rfl rfl 163 rfl ?_
        refine own_bipush X hx hby (6 : Int32) at_163 rfl 165 rfl ?_
        refine own_iload X hx hby (1 : Int32) at_165 rfl 167 rfl ?_
        refine own_iloadN X hx hby p2 at_167 rfl 168 rfl ?_
        refine own_iloadN X hx hby p3 at_168 rfl 169 rfl ?_
        refine own_iload X hx hby p5 at_169 rfl 171 rfl ?_
        refine own_callS X hx hby hZ (st := []) [(.ref b56b8b15), (.int (6 : Int32)), (.int (1 : Int32)), (.int p2), (.int p3), (.int p5)] rfl hown (hw _ (List.mem_of_getElem? (i := 63) rfl)) (hw _ (List.mem_of_getElem? (i := 64) rfl)) (hw _ (List.mem_of_getElem? (i := 65) rfl)) (hw _ (List.mem_of_getElem? (i := 66) rfl)) (by decide) at_171 (rm11 l Z a0 hw b56b8b15 (6 : Int32) (1 : Int32) p2 p3 p5 ar56 h56 n0 Zs (by decide) A_b56b8b15 E_b56b8b15) eT pd_9 rfl (by rw [hml]; rfl) (by decide) 0 rfl (by decide) (by decide) (by decide) 174 rfl ?_
        intro T171 L9 v9 X hQ
        obtain ⟨rfl, N9, eT⟩ := hQ
        have N := Fr.app N N9
        show Go p e below _ T171 (mkF m 174 #[.val (.int p1), .val (.int p2), .val (.int p3), .val (.int p4), .val (.int p5), .val (.ref b0), .val (.int (1 : Int32)), .val (.ref b56b8b15)] [(.int (f11 (6 : Int32) (1 : Int32) p2 p3 p5 ar56))])
        have c174 : ¬ (f11 (6 : Int32) (1 : Int32) p2 p3 p5 ar56) = (0 : Int32) := own_okb _ _ _ _ _ (8 : Int32) _ (by decide) (by decide) (by decide) (by rw [← ear56]; refine (own_cpi (own_ck h3.2 (by decide) (Nat.lt_of_lt_of_le (by decide) h3.1) (by decide))).trans ?_; rw [← ear39]; exact w6)
        refine own_if_eq X hx hby at_174 197 177 (by decide) rfl (fun q => absurd q c174) (fun _ => ?_)
        refine own_aload X hx hby (.ref b56b8b15) at_177 rfl rfl 179 rfl ?_
        refine own_bipush X hx hby (7 : Int32) at_179 rfl 181 rfl ?_
        refine own_iload X hx hby (1 : Int32) at_181 rfl 183 rfl ?_
        refine own_iloadN X hx hby p2 at_183 rfl 184 rfl ?_
        refine own_iloadN X hx hby p3 at_184 rfl 185 rfl ?_
        refine own_iload X hx hby p5 at_185 rfl 187 rfl ?_
        refine own_callS X hx hby hZ (st := []) [(.ref b56b8b15), (.int (7 : Int32)), (.int (1 : Int32)), (.int p2), (.int p3), (.int p5)] rfl hown (hw _ (List.mem_of_getElem? (i := 63) rfl)) (hw _ (List.mem_of_getElem? (i := 64) rfl)) (hw _ (List.mem_of_getElem? (i := 65) rfl)) (hw _ (List.mem_of_getElem? (i := 66) rfl)) (by decide) at_187 (rm11 l Z a0 hw b56b8b15 (7 : Int32) (1 : Int32) p2 p3 p5 ar56 h56 n0 Zs (by decide) A_b56b8b15 E_b56b8b15) eT pd_9 rfl (by rw [hml]; rfl) (by decide) 0 rfl (by decide) (by decide) (by decide) 190 rfl ?_
        intro T187 L9 v9 X hQ
        obtain ⟨rfl, N9, eT⟩ := hQ
        have N := Fr.app N N9
        show Go p e below _ T187 (mkF m 190 #[.val (.int p1), .val (.int p2), .val (.int p3), .val (.int p4), .val (.int p5), .val (.ref b0), .val (.int (1 : Int32)), .val (.ref b56b8b15)] [(.int (f11 (7 : Int32) (1 : Int32) p2 p3 p5 ar56))])
        have c190 : ¬ (f11 (7 : Int32) (1 : Int32) p2 p3 p5 ar56) = (0 : Int32) := own_okb _ _ _ _ _ (0 : Int32) _ (by decide) (by decide) (by decide) (by rw [← ear56]; refine (own_cpi (own_ck h3.2 (by decide) (Nat.lt_of_lt_of_le (by decide) h3.1) (by decide))).trans ?_; rw [← ear39]; exact w7)
        refine own_if_eq X hx hby at_190 197 193 (by decide) rfl (fun q => absurd q c190) (fun _ => ?_)
        refine own_iconst X hx hby (1 : Int32) at_193 rfl 194 rfl ?_
        refine own_goto X hx hby at_194 198 (by decide) ?_
        refine own_retN X hx hby hret hlk (t := .boolean) (z' := (1 : Int32)) (by simp) at_198 (by decide) (by decide) rfl ?_
        rw [eT]
        exact ⟨rfl, N⟩
    · skip
      refine own_aload X hx hby (.ref b0) at_33 rfl rfl 35 rfl ?_
      refine own_iload X hx hby (2 : Int32) at_35 rfl 37 rfl ?_
      refine own_iload X hx hby p5 at_37 rfl 39 rfl ?_
      refine own_callV X hx hby hZ (st := []) [(.int (2 : Int32)), (.int p5)] rfl hown (hw _ (List.mem_of_getElem? (i := 39) rfl)) (hw _ (List.mem_of_getElem? (i := 40) rfl)) (hw _ (List.mem_of_getElem? (i := 42) rfl)) (hw _ (List.mem_of_getElem? (i := 41) rfl)) (hw _ (List.mem_of_getElem? (i := 2) rfl)) (hw _ (List.mem_of_getElem? (i := 43) rfl)) E_b0 (by decide) at_39 (rm8_2 l Z a0 hw b0 p5 b8b6 ar22 n3 (8 : Int32) h22 n0 Zs h3.1 A_b8b6 E_b8b6 g_b8b6 E_b0 F_bytes_b0 F_length_b0 g_b0) eT pd_6 rfl (by rw [hml]; rfl) (by decide) 0 rfl (by decide) (by decide) (by decide) 42 rfl ?_
      intro T39 L9 v9 X hQ
      obtain ⟨h39, eT⟩ : ∃ z, T39.heap = z := ⟨_, rfl⟩
      rw [eT] at hQ
      obtain ⟨rfl, N9, Kc, A_b8b6, E_b8b6⟩ := hQ
      have E_b0 := E_b0.keep Kc
      have F_bytes_b0 := F_bytes_b0.keep Kc (ninS ne_b0_b8b6 nin0)
      have F_length_b0 := F_length_b0.keep Kc (ninS ne_b0_b8b6 nin0)
      obtain ⟨ar39, ear39⟩ : ∃ z : Nat → Int32, (updI (updI (updI (updI ar22 2 (nar .byte (((p5.toUInt32 >>> ((24 : Int32) &&& 31).toUInt32).toInt32).toInt8.toInt32))) 3 (nar .byte (((p5.toUInt32 >>> ((16 : Int32) &&& 31).toUInt32).toInt32).toInt8.toInt32))) 4 (nar .byte (((p5.toUInt32 >>> ((8 : Int32) &&& 31).toUInt32).toInt32).toInt8.toInt32))) 5 (nar .byte (((p5.toUInt32 >>> ((0 : Int32) &&& 31).toUInt32).toInt32).toInt8.toInt32))) = z := ⟨_, rfl⟩
      rw [ear39] at A_b8b6
      have K := K.trans Kc (allS (Or.inr sz_b8b6) all0)
      have Zs := Nat.le_trans Zs Kc.1
      have N := Fr.app N N9
      show Go p e below _ T39 (mkF m 42 #[.val (.int p1), .val (.int p2), .val (.int p3), .val (.int p4), .val (.int p5), .val (.ref b0), .val (.int (2 : Int32)), .unset] [])
      refine own_aload X hx hby (.ref b0) at_42 rfl rfl 44 rfl ?_
      refine own_callV X hx hby hZ (st := []) [] rfl hown (hw _ (List.mem_of_getElem? (i := 44) rfl)) (hw _ (List.mem_of_getElem? (i := 45) rfl)) (hw _ (List.mem_of_getElem? (i := 47) rfl)) (hw _ (List.mem_of_getElem? (i := 46) rfl)) (hw _ (List.mem_of_getElem? (i := 2) rfl)) (hw _ (List.mem_of_getElem? (i := 48) rfl)) E_b0 (by decide) at_44 (rm9 l Z a0 hw b0 h39 n0 Zs F_length_b0) eT pd_0 rfl (by rw [hml]; rfl) (by decide) 0 rfl (by decide) (by decide) (by decide) 47 rfl ?_
      intro T44 L9 v9 X hQ
      obtain ⟨rfl, N9, eT⟩ := hQ
      have N := Fr.app N N9
      show Go p e below _ T44 (mkF m 47 #[.val (.int p1), .val (.int p2), .val (.int p3), .val (.int p4), .val (.int p5), .val (.ref b0), .val (.int (2 : Int32)), .unset] [(.int (8 : Int32))])
      refine own_bipush X hx hby (8 : Int32) at_47 rfl 49 rfl ?_
      have c49 : (8 : Int32) = (8 : Int32) := by decide
      refine own_icmp_eq X hx hby at_49 54 52 (by decide) rfl (fun _ => ?_) (fun q => absurd c49 q)
      refine own_aload X hx hby (.ref b0) at_54 rfl rfl 56 rfl ?_
      by_cases q8 : n3 = 8
      · skip
        subst q8
        refine own_callV X hx hby hZ (st := []) [] rfl hown (hw _ (List.mem_of_getElem? (i := 49) rfl)) (hw _ (List.mem_of_getElem? (i := 50) rfl)) (hw _ (List.mem_of_getElem? (i := 52) rfl)) (hw _ (List.mem_of_getElem? (i := 51) rfl)) (hw _ (List.mem_of_getElem? (i := 2) rfl)) (hw _ (List.mem_of_getElem? (i := 53) rfl)) E_b0 (by decide) at_56 (rm10_c l Z a0 hw b0 b8b6 ar39 h39 n0 Zs A_b8b6 E_b8b6 F_bytes_b0 F_length_b0) eT pd_3 rfl (by rw [hml]; rfl) (by decide) 0 rfl (by decide) (by decide) (by decide) 59 rfl ?_
        intro T56 L9 v9 X hQ
        obtain ⟨h56, eT⟩ : ∃ z, T56.heap = z := ⟨_, rfl⟩
        rw [eT] at hQ
        have lt_b0 := E_b0.lt
        have lt_b8b6 := A_b8b6.lt
        obtain ⟨b56b8b7, rfl, N9, Kc, hs_b56b8b7, A_b56b8b7, E_b56b8b7⟩ := hQ
        have g_b56b8b7 : n0 ≤ b56b8b7 := Nat.le_trans Zs hs_b56b8b7
        have sz_b56b8b7 : h0.size ≤ b56b8b7 := Nat.le_trans K.1 hs_b56b8b7
        have ne_b0_b56b8b7 : b0 ≠ b56b8b7 := Nat.ne_of_lt (Nat.lt_of_lt_of_le lt_b0 hs_b56b8b7)
        have ne_b8b6_b56b8b7 : b8b6 ≠ b56b8b7 := Nat.ne_of_lt (Nat.lt_of_lt_of_le lt_b8b6 hs_b56b8b7)
        have E_b0 := E_b0.keep Kc
        have F_bytes_b0 := F_bytes_b0.keep Kc nin0
        have F_length_b0 := F_length_b0.keep Kc nin0
        have A_b8b6 := A_b8b6.keep Kc nin0
        have E_b8b6 := E_b8b6.keep Kc
        have K := K.trans Kc all0
        have Zs := Nat.le_trans Zs Kc.1
        have N := Fr.app N N9
        show Go p e below _ T56 (mkF m 59 #[.val (.int p1), .val (.int p2), .val (.int p3), .val (.int p4), .val (.int p5), .val (.ref b0), .val (.int (2 : Int32)), .unset] [(.ref b56b8b7)])
        refine own_astore X hx hby at_59 rfl (l' := #[.val (.int p1), .val (.int p2), .val (.int p3), .val (.int p4), .val (.int p5), .val (.ref b0), .val (.int (2 : Int32)), .val (.ref b56b8b7)]) rfl 61 rfl ?_
        refine own_aload X hx hby (.ref b56b8b7) at_61 rfl rfl 63 rfl ?_
        refine own_arraylength X hx hby hZ (8 : Int32) eT A_b56b8b7 rfl at_63 64 rfl ?_
        refine own_bipush X hx hby (8 : Int32) at_64 rfl 66 rfl ?_
        have c66 : (8 : Int32) = (8 : Int32) := by decide
        refine own_icmp_eq X hx hby at_66 71 69 (by decide) rfl (fun _ => ?_) (fun q => absurd c66 q)
        refine own_aload X hx hby (.ref b56b8b7) at_71 rfl rfl 73 rfl ?_
        refine own_iconst X hx hby (0 : Int32) at_73 rfl 74 rfl ?_
        refine own_iload X hx hby (2 : Int32) at_74 rfl 76 rfl ?_
        refine own_iloadN X hx hby p2 at_76 rfl 77 rfl ?_
        refine own_iloadN X hx hby p3 at_77 rfl 78 rfl ?_
        refine own_iload X hx hby p5 at_78 rfl 80 rfl ?_
        refine own_callS X hx hby hZ (st := []) [(.ref b56b8b7), (.int (0 : Int32)), (.int (2 : Int32)), (.int p2), (.int p3), (.int p5)] rfl hown (hw _ (List.mem_of_getElem? (i := 63) rfl)) (hw _ (List.mem_of_getElem? (i := 64) rfl)) (hw _ (List.mem_of_getElem? (i := 65) rfl)) (hw _ (List.mem_of_getElem? (i := 66) rfl)) (by decide) at_80 (rm11 l Z a0 hw b56b8b7 (0 : Int32) (2 : Int32) p2 p3 p5 ar39 h56 n0 Zs (by decide) A_b56b8b7 E_b56b8b7) eT pd_9 rfl (by rw [hml]; rfl) (by decide) 0 rfl (by decide) (by decide) (by decide) 83 rfl ?_
        intro T80 L9 v9 X hQ
        obtain ⟨rfl, N9, eT⟩ := hQ
        have N := Fr.app N N9
        show Go p e below _ T80 (mkF m 83 #[.val (.int p1), .val (.int p2), .val (.int p3), .val (.int p4), .val (.int p5), .val (.ref b0), .val (.int (2 : Int32)), .val (.ref b56b8b7)] [(.int (f11 (0 : Int32) (2 : Int32) p2 p3 p5 ar39))])
        have c83 : ¬ (f11 (0 : Int32) (2 : Int32) p2 p3 p5 ar39) = (0 : Int32) := own_oka _ _ _ _ _ (24 : Int32) _ (by decide) (by decide) (by decide) (by rw [← ear39]; exact w0)
        refine own_if_eq X hx hby at_83 197 86 (by decide) rfl (fun q => absurd q c83) (fun _ => ?_)
        refine own_aload X hx hby (.ref b56b8b7) at_86 rfl rfl 88 rfl ?_
        refine own_iconst X hx hby (1 : Int32) at_88 rfl 89 rfl ?_
        refine own_iload X hx hby (2 : Int32) at_89 rfl 91 rfl ?_
        refine own_iloadN X hx hby p2 at_91 rfl 92 rfl ?_
        refine own_iloadN X hx hby p3 at_92 rfl 93 rfl ?_
        refine own_iload X hx hby p5 at_93 rfl 95 rfl ?_
        refine own_callS X hx hby hZ (st := []) [(.ref b56b8b7), (.int (1 : Int32)), (.int (2 : Int32)), (.int p2), (.int p3), (.int p5)] rfl hown (hw _ (List.mem_of_getElem? (i := 63) rfl)) (hw _ (List.mem_of_getElem? (i := 64) rfl)) (hw _ (List.mem_of_getElem? (i := 65) rfl)) (hw _ (List.mem_of_getElem? (i := 66) rfl)) (by decide) at_95 (rm11 l Z a0 hw b56b8b7 (1 : Int32) (2 : Int32) p2 p3 p5 ar39 h56 n0 Zs (by decide) A_b56b8b7 E_b56b8b7) eT pd_9 rfl (by rw [hml]; rfl) (by decide) 0 rfl (by decide) (by decide) (by decide) 98 rfl ?_
        intro T95 L9 v9 X hQ
        obtain ⟨rfl, N9, eT⟩ := hQ
        have N := Fr.app N N9
        show Go p e below _ T95 (mkF m 98 #[.val (.int p1), .val (.int p2), .val (.int p3), .val (.int p4), .val (.int p5), .val (.ref b0), .val (.int (2 : Int32)), .val (.ref b56b8b7)] [(.int (f11 (1 : Int32) (2 : Int32) p2 p3 p5 ar39))])
        have c98 : ¬ (f11 (1 : Int32) (2 : Int32) p2 p3 p5 ar39) = (0 : Int32) := own_oka _ _ _ _ _ (16 : Int32) _ (by decide) (by decide) (by decide) (by rw [← ear39]; exact w1)
        refine own_if_eq X hx hby at_98 197 101 (by decide) rfl (fun q => absurd q c98) (fun _ => ?_)
        refine own_aload X hx hby (.ref b56b8b7) at_101 rfl rfl 103 rfl ?_
        refine own_iconst X hx hby (2 : Int32) at_103 rfl 104 rfl ?_
        refine own_iload X hx hby (2 : Int32) at_104 rfl 106 rfl ?_
        refine own_iloadN X hx hby p2 at_106 rfl 107 rfl ?_
        refine own_iloadN X hx hby p3 at_107 rfl 108 rfl ?_
        refine own_iload X hx hby p5 at_108 rfl 110 rfl ?_
        refine own_callS X hx hby hZ (st := []) [(.ref b56b8b7), (.int (2 : Int32)), (.int (2 : Int32)), (.int p2), (.int p3), (.int p5)] rfl hown (hw _ (List.mem_of_getElem? (i := 63) rfl)) (hw _ (List.mem_of_getElem? (i := 64) rfl)) (hw _ (List.mem_of_getElem? (i := 65) rfl)) (hw _ (List.mem_of_getElem? (i := 66) rfl)) (by decide) at_110 (rm11 l Z a0 hw b56b8b7 (2 : Int32) (2 : Int32) p2 p3 p5 ar39 h56 n0 Zs (by decide) A_b56b8b7 E_b56b8b7) eT pd_9 rfl (by rw [hml]; rfl) (by decide) 0 rfl (by decide) (by decide) (by decide) 113 rfl ?_
        intro T110 L9 v9 X hQ
        obtain ⟨rfl, N9, eT⟩ := hQ
        have N := Fr.app N N9
        show Go p e below _ T110 (mkF m 113 #[.val (.int p1), .val (.int p2), .val (.int p3), .val (.int p4), .val (.int p5), .val (.ref b0), .val (.int (2 : Int32)), .val (.ref b56b8b7)] [(.int (f11 (2 : Int32) (2 : Int32) p2 p3 p5 ar39))])
        have c113 : ¬ (f11 (2 : Int32) (2 : Int32) p2 p3 p5 ar39) = (0 : Int32) := own_okv _ _ _ _ _ (24 : Int32) _ (by decide) (by decide) (by decide) (by rw [← ear39]; rfl)
        refine own_if_eq X hx hby at_113 197 116 (by decide) rfl (fun q => absurd q c113) (fun _ => ?_)
        refine own_aload X hx hby (.ref b56b8b7) at_116 rfl rfl 118 rfl ?_
        refine own_iconst X hx hby (3 : Int32) at_118 rfl 119 rfl ?_
        refine own_iload X hx hby (2 : Int32) at_119 rfl 121 rfl ?_
        refine own_iloadN X hx hby p2 at_121 rfl 122 rfl ?_
        refine own_iloadN X hx hby p3 at_122 rfl 123 rfl ?_
        refine own_iload X hx hby p5 at_123 rfl 125 rfl ?_
        refine own_callS X hx hby hZ (st := []) [(.ref b56b8b7), (.int (3 : Int32)), (.int (2 : Int32)), (.int p2), (.int p3), (.int p5)] rfl hown (hw _ (List.mem_of_getElem? (i := 63) rfl)) (hw _ (List.mem_of_getElem? (i := 64) rfl)) (hw _ (List.mem_of_getElem? (i := 65) rfl)) (hw _ (List.mem_of_getElem? (i := 66) rfl)) (by decide) at_125 (rm11 l Z a0 hw b56b8b7 (3 : Int32) (2 : Int32) p2 p3 p5 ar39 h56 n0 Zs (by decide) A_b56b8b7 E_b56b8b7) eT pd_9 rfl (by rw [hml]; rfl) (by decide) 0 rfl (by decide) (by decide) (by decide) 128 rfl ?_
        intro T125 L9 v9 X hQ
        obtain ⟨rfl, N9, eT⟩ := hQ
        have N := Fr.app N N9
        show Go p e below _ T125 (mkF m 128 #[.val (.int p1), .val (.int p2), .val (.int p3), .val (.int p4), .val (.int p5), .val (.ref b0), .val (.int (2 : Int32)), .val (.ref b56b8b7)] [(.int (f11 (3 : Int32) (2 : Int32) p2 p3 p5 ar39))])
        have c128 : ¬ (f11 (3 : Int32) (2 : Int32) p2 p3 p5 ar39) = (0 : Int32) := own_okv _ _ _ _ _ (16 : Int32) _ (by decide) (by decide) (by decide) (by rw [← ear39]; rfl)
        refine own_if_eq X hx hby at_128 197 131 (by decide) rfl (fun q => absurd q c128) (fun _ => ?_)
        refine own_aload X hx hby (.ref b56b8b7) at_131 rfl rfl 133 rfl ?_
        refine own_iconst X hx hby (4 : Int32) at_133 rfl 134 rfl ?_
        refine own_iload X hx hby (2 : Int32) at_134 rfl 136 rfl ?_
        refine own_iloadN X hx hby p2 at_136 rfl 137 rfl ?_
        refine own_iloadN X hx hby p3 at_137 rfl 138 rfl ?_
        refine own_iload X hx hby p5 at_138 rfl 140 rfl ?_
        refine own_callS X hx hby hZ (st := []) [(.ref b56b8b7), (.int (4 : Int32)), (.int (2 : Int32)), (.int p2), (.int p3), (.int p5)] rfl hown (hw _ (List.mem_of_getElem? (i := 63) rfl)) (hw _ (List.mem_of_getElem? (i := 64) rfl)) (hw _ (List.mem_of_getElem? (i := 65) rfl)) (hw _ (List.mem_of_getElem? (i := 66) rfl)) (by decide) at_140 (rm11 l Z a0 hw b56b8b7 (4 : Int32) (2 : Int32) p2 p3 p5 ar39 h56 n0 Zs (by decide) A_b56b8b7 E_b56b8b7) eT pd_9 rfl (by rw [hml]; rfl) (by decide) 0 rfl (by decide) (by decide) (by decide) 143 rfl ?_
        intro T140 L9 v9 X hQ
        obtain ⟨rfl, N9, eT⟩ := hQ
        have N := Fr.app N N9
        show Go p e below _ T140 (mkF m 143 #[.val (.int p1), .val (.int p2), .val (.int p3), .val (.int p4), .val (.int p5), .val (.ref b0), .val (.int (2 : Int32)), .val (.ref b56b8b7)] [(.int (f11 (4 : Int32) (2 : Int32) p2 p3 p5 ar39))])
        have c143 : ¬ (f11 (4 : Int32) (2 : Int32) p2 p3 p5 ar39) = (0 : Int32) := own_okv _ _ _ _ _ (8 : Int32) _ (by decide) (by decide) (by decide) (by rw [← ear39]; rfl)
        refine own_if_eq X hx hby at_143 197 146 (by decide) rfl (fun q => absurd q c143) (fun _ => ?_)
        refine own_aload X hx hby (.ref b56b8b7) at_146 rfl rfl 148 rfl ?_
        refine own_iconst X hx hby (5 : Int32) at_148 rfl 149 rfl ?_
        refine own_iload X hx hby (2 : Int32) at_149 rfl 151 rfl ?_
        refine own_iloadN X hx hby p2 at_151 rfl 152 rfl ?_
        refine own_iloadN X hx hby p3 at_152 rfl 153 rfl ?_
        refine own_iload X hx hby p5 at_153 rfl 155 rfl ?_
        refine own_callS X hx hby hZ (st := []) [(.ref b56b8b7), (.int (5 : Int32)), (.int (2 : Int32)), (.int p2), (.int p3), (.int p5)] rfl hown (hw _ (List.mem_of_getElem? (i := 63) rfl)) (hw _ (List.mem_of_getElem? (i := 64) rfl)) (hw _ (List.mem_of_getElem? (i := 65) rfl)) (hw _ (List.mem_of_getElem? (i := 66) rfl)) (by decide) at_155 (rm11 l Z a0 hw b56b8b7 (5 : Int32) (2 : Int32) p2 p3 p5 ar39 h56 n0 Zs (by decide) A_b56b8b7 E_b56b8b7) eT pd_9 rfl (by rw [hml]; rfl) (by decide) 0 rfl (by decide) (by decide) (by decide) 158 rfl ?_
        intro T155 L9 v9 X hQ
        obtain ⟨rfl, N9, eT⟩ := hQ
        have N := Fr.app N N9
        show Go p e below _ T155 (mkF m 158 #[.val (.int p1), .val (.int p2), .val (.int p3), .val (.int p4), .val (.int p5), .val (.ref b0), .val (.int (2 : Int32)), .val (.ref b56b8b7)] [(.int (f11 (5 : Int32) (2 : Int32) p2 p3 p5 ar39))])
        have c158 : ¬ (f11 (5 : Int32) (2 : Int32) p2 p3 p5 ar39) = (0 : Int32) := own_okv _ _ _ _ _ (0 : Int32) _ (by decide) (by decide) (by decide) (by rw [← ear39]; rfl)
        refine own_if_eq X hx hby at_158 197 161 (by decide) rfl (fun q => absurd q c158) (fun _ => ?_)
        refine own_aload X hx hby (.ref b56b8b7) at_161 rfl rfl 163 rfl ?_
        refine own_bipush X hx hby (6 : Int32) at_163 rfl 165 rfl ?_
        refine own_iload X hx hby (2 : Int32) at_165 rfl 167 rfl ?_
        refine own_iloadN X hx hby p2 at_167 rfl 168 rfl ?_
        refine own_iloadN X hx hby p3 at_168 rfl 169 rfl ?_
        refine own_iload X hx hby p5 at_169 rfl 171 rfl ?_
        refine own_callS X hx hby hZ (st := []) [(.ref b56b8b7), (.int (6 : Int32)), (.int (2 : Int32)), (.int p2), (.int p3), (.int p5)] rfl hown (hw _ (List.mem_of_getElem? (i := 63) rfl)) (hw _ (List.mem_of_getElem? (i := 64) rfl)) (hw _ (List.mem_of_getElem? (i := 65) rfl)) (hw _ (List.mem_of_getElem? (i := 66) rfl)) (by decide) at_171 (rm11 l Z a0 hw b56b8b7 (6 : Int32) (2 : Int32) p2 p3 p5 ar39 h56 n0 Zs (by decide) A_b56b8b7 E_b56b8b7) eT pd_9 rfl (by rw [hml]; rfl) (by decide) 0 rfl (by decide) (by decide) (by decide) 174 rfl ?_
        intro T171 L9 v9 X hQ
        obtain ⟨rfl, N9, eT⟩ := hQ
        have N := Fr.app N N9
        show Go p e below _ T171 (mkF m 174 #[.val (.int p1), .val (.int p2), .val (.int p3), .val (.int p4), .val (.int p5), .val (.ref b0), .val (.int (2 : Int32)), .val (.ref b56b8b7)] [(.int (f11 (6 : Int32) (2 : Int32) p2 p3 p5 ar39))])
        have c174 : ¬ (f11 (6 : Int32) (2 : Int32) p2 p3 p5 ar39) = (0 : Int32) := own_okb _ _ _ _ _ (8 : Int32) _ (by decide) (by decide) (by decide) (by rw [← ear39]; exact w6)
        refine own_if_eq X hx hby at_174 197 177 (by decide) rfl (fun q => absurd q c174) (fun _ => ?_)
        refine own_aload X hx hby (.ref b56b8b7) at_177 rfl rfl 179 rfl ?_
        refine own_bipush X hx hby (7 : Int32) at_179 rfl 181 rfl ?_
        refine own_iload X hx hby (2 : Int32) at_181 rfl 183 rfl ?_
        refine own_iloadN X hx hby p2 at_183 rfl 184 rfl ?_
        refine own_iloadN X hx hby p3 at_184 rfl 185 rfl ?_
        refine own_iload X hx hby p5 at_185 rfl 187 rfl ?_
        refine own_callS X hx hby hZ (st := []) [(.ref b56b8b7), (.int (7 : Int32)), (.int (2 : Int32)), (.int p2), (.int p3), (.int p5)] rfl hown (hw _ (List.mem_of_getElem? (i := 63) rfl)) (hw _ (List.mem_of_getElem? (i := 64) rfl)) (hw _ (List.mem_of_getElem? (i := 65) rfl)) (hw _ (List.mem_of_getElem? (i := 66) rfl)) (by decide) at_187 (rm11 l Z a0 hw b56b8b7 (7 : Int32) (2 : Int32) p2 p3 p5 ar39 h56 n0 Zs (by decide) A_b56b8b7 E_b56b8b7) eT pd_9 rfl (by rw [hml]; rfl) (by decide) 0 rfl (by decide) (by decide) (by decide) 190 rfl ?_
        intro T187 L9 v9 X hQ
        obtain ⟨rfl, N9, eT⟩ := hQ
        have N := Fr.app N N9
        show Go p e below _ T187 (mkF m 190 #[.val (.int p1), .val (.int p2), .val (.int p3), .val (.int p4), .val (.int p5), .val (.ref b0), .val (.int (2 : Int32)), .val (.ref b56b8b7)] [(.int (f11 (7 : Int32) (2 : Int32) p2 p3 p5 ar39))])
        have c190 : ¬ (f11 (7 : Int32) (2 : Int32) p2 p3 p5 ar39) = (0 : Int32) := own_okb _ _ _ _ _ (0 : Int32) _ (by decide) (by decide) (by decide) (by rw [← ear39]; exact w7)
        refine own_if_eq X hx hby at_190 197 193 (by decide) rfl (fun q => absurd q c190) (fun _ => ?_)
        refine own_iconst X hx hby (1 : Int32) at_193 rfl 194 rfl ?_
        refine own_goto X hx hby at_194 198 (by decide) ?_
        refine own_retN X hx hby hret hlk (t := .boolean) (z' := (1 : Int32)) (by simp) at_198 (by decide) (by decide) rfl ?_
        rw [eT]
        exact ⟨rfl, N⟩
      · skip
        refine own_callV X hx hby hZ (st := []) [] rfl hown (hw _ (List.mem_of_getElem? (i := 49) rfl)) (hw _ (List.mem_of_getElem? (i := 50) rfl)) (hw _ (List.mem_of_getElem? (i := 52) rfl)) (hw _ (List.mem_of_getElem? (i := 51) rfl)) (hw _ (List.mem_of_getElem? (i := 2) rfl)) (hw _ (List.mem_of_getElem? (i := 53) rfl)) E_b0 (by decide) at_56 (rm10_n l Z a0 hw b0 b8b6 ar39 n3 h39 n0 Zs (own_n8 q8 h3.2) h3.2 A_b8b6 E_b8b6 F_bytes_b0 F_length_b0) eT pd_3 rfl (by rw [hml]; rfl) (by decide) 0 rfl (by decide) (by decide) (by decide) 59 rfl ?_
        intro T56 L9 v9 X hQ
        obtain ⟨h56, eT⟩ : ∃ z, T56.heap = z := ⟨_, rfl⟩
        rw [eT] at hQ
        have lt_b0 := E_b0.lt
        have lt_b8b6 := A_b8b6.lt
        obtain ⟨b56b8b15, rfl, N9, Kc, hs_b56b8b15, A_b56b8b15, E_b56b8b15⟩ := hQ
        have g_b56b8b15 : n0 ≤ b56b8b15 := Nat.le_trans Zs hs_b56b8b15
        have sz_b56b8b15 : h0.size ≤ b56b8b15 := Nat.le_trans K.1 hs_b56b8b15
        have ne_b0_b56b8b15 : b0 ≠ b56b8b15 := Nat.ne_of_lt (Nat.lt_of_lt_of_le lt_b0 hs_b56b8b15)
        have ne_b8b6_b56b8b15 : b8b6 ≠ b56b8b15 := Nat.ne_of_lt (Nat.lt_of_lt_of_le lt_b8b6 hs_b56b8b15)
        have E_b0 := E_b0.keep Kc
        have F_bytes_b0 := F_bytes_b0.keep Kc nin0
        have F_length_b0 := F_length_b0.keep Kc nin0
        have A_b8b6 := A_b8b6.keep Kc nin0
        have E_b8b6 := E_b8b6.keep Kc
        obtain ⟨ar56, ear56⟩ : ∃ z : Nat → Int32, (own_cp ar39 (Int32.toNatClampNeg (f7 (Int32.ofNat n3) (8 : Int32)))) = z := ⟨_, rfl⟩
        rw [ear56] at A_b56b8b15
        have K := K.trans Kc all0
        have Zs := Nat.le_trans Zs Kc.1
        have N := Fr.app N N9
        show Go p e below _ T56 (mkF m 59 #[.val (.int p1), .val (.int p2), .val (.int p3), .val (.int p4), .val (.int p5), .val (.ref b0), .val (.int (2 : Int32)), .unset] [(.ref b56b8b15)])
        refine own_astore X hx hby at_59 rfl (l' := #[.val (.int p1), .val (.int p2), .val (.int p3), .val (.int p4), .val (.int p5), .val (.ref b0), .val (.int (2 : Int32)), .val (.ref b56b8b15)]) rfl 61 rfl ?_
        refine own_aload X hx hby (.ref b56b8b15) at_61 rfl rfl 63 rfl ?_
        refine own_arraylength X hx hby hZ (8 : Int32) eT A_b56b8b15 rfl at_63 64 rfl ?_
        refine own_bipush X hx hby (8 : Int32) at_64 rfl 66 rfl ?_
        have c66 : (8 : Int32) = (8 : Int32) := by decide
        refine own_icmp_eq X hx hby at_66 71 69 (by decide) rfl (fun _ => ?_) (fun q => absurd c66 q)
        refine own_aload X hx hby (.ref b56b8b15) at_71 rfl rfl 73 rfl ?_
        refine own_iconst X hx hby (0 : Int32) at_73 rfl 74 rfl ?_
        refine own_iload X hx hby (2 : Int32) at_74 rfl 76 rfl ?_
        refine own_iloadN X hx hby p2 at_76 rfl 77 rfl ?_
        refine own_iloadN X hx hby p3 at_77 rfl 78 rfl ?_
        refine own_iload X hx hby p5 at_78 rfl 80 rfl ?_
        refine own_callS X hx hby hZ (st := []) [(.ref b56b8b15), (.int (0 : Int32)), (.int (2 : Int32)), (.int p2), (.int p3), (.int p5)] rfl hown (hw _ (List.mem_of_getElem? (i := 63) rfl)) (hw _ (List.mem_of_getElem? (i := 64) rfl)) (hw _ (List.mem_of_getElem? (i := 65) rfl)) (hw _ (List.mem_of_getElem? (i := 66) rfl)) (by decide) at_80 (rm11 l Z a0 hw b56b8b15 (0 : Int32) (2 : Int32) p2 p3 p5 ar56 h56 n0 Zs (by decide) A_b56b8b15 E_b56b8b15) eT pd_9 rfl (by rw [hml]; rfl) (by decide) 0 rfl (by decide) (by decide) (by decide) 83 rfl ?_
        intro T80 L9 v9 X hQ
        obtain ⟨rfl, N9, eT⟩ := hQ
        have N := Fr.app N N9
        show Go p e below _ T80 (mkF m 83 #[.val (.int p1), .val (.int p2), .val (.int p3), .val (.int p4), .val (.int p5), .val (.ref b0), .val (.int (2 : Int32)), .val (.ref b56b8b15)] [(.int (f11 (0 : Int32) (2 : Int32) p2 p3 p5 ar56))])
        have c83 : ¬ (f11 (0 : Int32) (2 : Int32) p2 p3 p5 ar56) = (0 : Int32) := own_oka _ _ _ _ _ (24 : Int32) _ (by decide) (by decide) (by decide) (by rw [← ear56]; refine (own_cpi (own_ck h3.2 (by decide) (Nat.lt_of_lt_of_le (by decide) h3.1) (by decide))).trans ?_; rw [← ear39]; exact w0)
        refine own_if_eq X hx hby at_83 197 86 (by decide) rfl (fun q => absurd q c83) (fun _ => ?_)
        refine own_aload X hx hby (.ref b56b8b15) at_86 rfl rfl 88 rfl ?_
        refine own_iconst X hx hby (1 : Int32) at_88 rfl 89 rfl ?_
        refine own_iload X hx hby (2 : Int32) at_89 rfl 91 rfl ?_
        refine own_iloadN X hx hby p2 at_91 rfl 92 rfl ?_
        refine own_iloadN X hx hby p3 at_92 rfl 93 rfl ?_
        refine own_iload X hx hby p5 at_93 rfl 95 rfl ?_
        refine own_callS X hx hby hZ (st := []) [(.ref b56b8b15), (.int (1 : Int32)), (.int (2 : Int32)), (.int p2), (.int p3), (.int p5)] rfl hown (hw _ (List.mem_of_getElem? (i := 63) rfl)) (hw _ (List.mem_of_getElem? (i := 64) rfl)) (hw _ (List.mem_of_getElem? (i := 65) rfl)) (hw _ (List.mem_of_getElem? (i := 66) rfl)) (by decide) at_95 (rm11 l Z a0 hw b56b8b15 (1 : Int32) (2 : Int32) p2 p3 p5 ar56 h56 n0 Zs (by decide) A_b56b8b15 E_b56b8b15) eT pd_9 rfl (by rw [hml]; rfl) (by decide) 0 rfl (by decide) (by decide) (by decide) 98 rfl ?_
        intro T95 L9 v9 X hQ
        obtain ⟨rfl, N9, eT⟩ := hQ
        have N := Fr.app N N9
        show Go p e below _ T95 (mkF m 98 #[.val (.int p1), .val (.int p2), .val (.int p3), .val (.int p4), .val (.int p5), .val (.ref b0), .val (.int (2 : Int32)), .val (.ref b56b8b15)] [(.int (f11 (1 : Int32) (2 : Int32) p2 p3 p5 ar56))])
        have c98 : ¬ (f11 (1 : Int32) (2 : Int32) p2 p3 p5 ar56) = (0 : Int32) := own_oka _ _ _ _ _ (16 : Int32) _ (by decide) (by decide) (by decide) (by rw [← ear56]; refine (own_cpi (own_ck h3.2 (by decide) (Nat.lt_of_lt_of_le (by decide) h3.1) (by decide))).trans ?_; rw [← ear39]; exact w1)
        refine own_if_eq X hx hby at_98 197 101 (by decide) rfl (fun q => absurd q c98) (fun _ => ?_)
        refine own_aload X hx hby (.ref b56b8b15) at_101 rfl rfl 103 rfl ?_
        refine own_iconst X hx hby (2 : Int32) at_103 rfl 104 rfl ?_
        refine own_iload X hx hby (2 : Int32) at_104 rfl 106 rfl ?_
        refine own_iloadN X hx hby p2 at_106 rfl 107 rfl ?_
        refine own_iloadN X hx hby p3 at_107 rfl 108 rfl ?_
        refine own_iload X hx hby p5 at_108 rfl 110 rfl ?_
        refine own_callS X hx hby hZ (st := []) [(.ref b56b8b15), (.int (2 : Int32)), (.int (2 : Int32)), (.int p2), (.int p3), (.int p5)] rfl hown (hw _ (List.mem_of_getElem? (i := 63) rfl)) (hw _ (List.mem_of_getElem? (i := 64) rfl)) (hw _ (List.mem_of_getElem? (i := 65) rfl)) (hw _ (List.mem_of_getElem? (i := 66) rfl)) (by decide) at_110 (rm11 l Z a0 hw b56b8b15 (2 : Int32) (2 : Int32) p2 p3 p5 ar56 h56 n0 Zs (by decide) A_b56b8b15 E_b56b8b15) eT pd_9 rfl (by rw [hml]; rfl) (by decide) 0 rfl (by decide) (by decide) (by decide) 113 rfl ?_
        intro T110 L9 v9 X hQ
        obtain ⟨rfl, N9, eT⟩ := hQ
        have N := Fr.app N N9
        show Go p e below _ T110 (mkF m 113 #[.val (.int p1), .val (.int p2), .val (.int p3), .val (.int p4), .val (.int p5), .val (.ref b0), .val (.int (2 : Int32)), .val (.ref b56b8b15)] [(.int (f11 (2 : Int32) (2 : Int32) p2 p3 p5 ar56))])
        have c113 : ¬ (f11 (2 : Int32) (2 : Int32) p2 p3 p5 ar56) = (0 : Int32) := own_okv _ _ _ _ _ (24 : Int32) _ (by decide) (by decide) (by decide) (by rw [← ear56]; refine (own_cpi (own_ck h3.2 (by decide) (Nat.lt_of_lt_of_le (by decide) h3.1) (by decide))).trans ?_; rw [← ear39]; rfl)
        refine own_if_eq X hx hby at_113 197 116 (by decide) rfl (fun q => absurd q c113) (fun _ => ?_)
        refine own_aload X hx hby (.ref b56b8b15) at_116 rfl rfl 118 rfl ?_
        refine own_iconst X hx hby (3 : Int32) at_118 rfl 119 rfl ?_
        refine own_iload X hx hby (2 : Int32) at_119 rfl 121 rfl ?_
        refine own_iloadN X hx hby p2 at_121 rfl 122 rfl ?_
        refine own_iloadN X hx hby p3 at_122 rfl 123 rfl ?_
        refine own_iload X hx hby p5 at_123 rfl 125 rfl ?_
        refine own_callS X hx hby hZ (st := []) [(.ref b56b8b15), (.int (3 : Int32)), (.int (2 : Int32)), (.int p2), (.int p3), (.int p5)] rfl hown (hw _ (List.mem_of_getElem? (i := 63) rfl)) (hw _ (List.mem_of_getElem? (i := 64) rfl)) (hw _ (List.mem_of_getElem? (i := 65) rfl)) (hw _ (List.mem_of_getElem? (i := 66) rfl)) (by decide) at_125 (rm11 l Z a0 hw b56b8b15 (3 : Int32) (2 : Int32) p2 p3 p5 ar56 h56 n0 Zs (by decide) A_b56b8b15 E_b56b8b15) eT pd_9 rfl (by rw [hml]; rfl) (by decide) 0 rfl (by decide) (by decide) (by decide) 128 rfl ?_
        intro T125 L9 v9 X hQ
        obtain ⟨rfl, N9, eT⟩ := hQ
        have N := Fr.app N N9
        show Go p e below _ T125 (mkF m 128 #[.val (.int p1), .val (.int p2), .val (.int p3), .val (.int p4), .val (.int p5), .val (.ref b0), .val (.int (2 : Int32)), .val (.ref b56b8b15)] [(.int (f11 (3 : Int32) (2 : Int32) p2 p3 p5 ar56))])
        have c128 : ¬ (f11 (3 : Int32) (2 : Int32) p2 p3 p5 ar56) = (0 : Int32) := own_okv _ _ _ _ _ (16 : Int32) _ (by decide) (by decide) (by decide) (by rw [← ear56]; refine (own_cpi (own_ck h3.2 (by decide) (Nat.lt_of_lt_of_le (by decide) h3.1) (by decide))).trans ?_; rw [← ear39]; rfl)
        refine own_if_eq X hx hby at_128 197 131 (by decide) rfl (fun q => absurd q c128) (fun _ => ?_)
        refine own_aload X hx hby (.ref b56b8b15) at_131 rfl rfl 133 rfl ?_
        refine own_iconst X hx hby (4 : Int32) at_133 rfl 134 rfl ?_
        refine own_iload X hx hby (2 : Int32) at_134 rfl 136 rfl ?_
        refine own_iloadN X hx hby p2 at_136 rfl 137 rfl ?_
        refine own_iloadN X hx hby p3 at_137 rfl 138 rfl ?_
        refine own_iload X hx hby p5 at_138 rfl 140 rfl ?_
        refine own_callS X hx hby hZ (st := []) [(.ref b56b8b15), (.int (4 : Int32)), (.int (2 : Int32)), (.int p2), (.int p3), (.int p5)] rfl hown (hw _ (List.mem_of_getElem? (i := 63) rfl)) (hw _ (List.mem_of_getElem? (i := 64) rfl)) (hw _ (List.mem_of_getElem? (i := 65) rfl)) (hw _ (List.mem_of_getElem? (i := 66) rfl)) (by decide) at_140 (rm11 l Z a0 hw b56b8b15 (4 : Int32) (2 : Int32) p2 p3 p5 ar56 h56 n0 Zs (by decide) A_b56b8b15 E_b56b8b15) eT pd_9 rfl (by rw [hml]; rfl) (by decide) 0 rfl (by decide) (by decide) (by decide) 143 rfl ?_
        intro T140 L9 v9 X hQ
        obtain ⟨rfl, N9, eT⟩ := hQ
        have N := Fr.app N N9
        show Go p e below _ T140 (mkF m 143 #[.val (.int p1), .val (.int p2), .val (.int p3), .val (.int p4), .val (.int p5), .val (.ref b0), .val (.int (2 : Int32)), .val (.ref b56b8b15)] [(.int (f11 (4 : Int32) (2 : Int32) p2 p3 p5 ar56))])
        have c143 : ¬ (f11 (4 : Int32) (2 : Int32) p2 p3 p5 ar56) = (0 : Int32) := own_okv _ _ _ _ _ (8 : Int32) _ (by decide) (by decide) (by decide) (by rw [← ear56]; refine (own_cpi (own_ck h3.2 (by decide) (Nat.lt_of_lt_of_le (by decide) h3.1) (by decide))).trans ?_; rw [← ear39]; rfl)
        refine own_if_eq X hx hby at_143 197 146 (by decide) rfl (fun q => absurd q c143) (fun _ => ?_)
        refine own_aload X hx hby (.ref b56b8b15) at_146 rfl rfl 148 rfl ?_
        refine own_iconst X hx hby (5 : Int32) at_148 rfl 149 rfl ?_
        refine own_iload X hx hby (2 : Int32) at_149 rfl 151 rfl ?_
        refine own_iloadN X hx hby p2 at_151 rfl 152 rfl ?_
        refine own_iloadN X hx hby p3 at_152 rfl 153 rfl ?_
        refine own_iload X hx hby p5 at_153 rfl 155 rfl ?_
        refine own_callS X hx hby hZ (st := []) [(.ref b56b8b15), (.int (5 : Int32)), (.int (2 : Int32)), (.int p2), (.int p3), (.int p5)] rfl hown (hw _ (List.mem_of_getElem? (i := 63) rfl)) (hw _ (List.mem_of_getElem? (i := 64) rfl)) (hw _ (List.mem_of_getElem? (i := 65) rfl)) (hw _ (List.mem_of_getElem? (i := 66) rfl)) (by decide) at_155 (rm11 l Z a0 hw b56b8b15 (5 : Int32) (2 : Int32) p2 p3 p5 ar56 h56 n0 Zs (by decide) A_b56b8b15 E_b56b8b15) eT pd_9 rfl (by rw [hml]; rfl) (by decide) 0 rfl (by decide) (by decide) (by decide) 158 rfl ?_
        intro T155 L9 v9 X hQ
        obtain ⟨rfl, N9, eT⟩ := hQ
        have N := Fr.app N N9
        show Go p e below _ T155 (mkF m 158 #[.val (.int p1), .val (.int p2), .val (.int p3), .val (.int p4), .val (.int p5), .val (.ref b0), .val (.int (2 : Int32)), .val (.ref b56b8b15)] [(.int (f11 (5 : Int32) (2 : Int32) p2 p3 p5 ar56))])
        have c158 : ¬ (f11 (5 : Int32) (2 : Int32) p2 p3 p5 ar56) = (0 : Int32) := own_okv _ _ _ _ _ (0 : Int32) _ (by decide) (by decide) (by decide) (by rw [← ear56]; refine (own_cpi (own_ck h3.2 (by decide) (Nat.lt_of_lt_of_le (by decide) h3.1) (by decide))).trans ?_; rw [← ear39]; rfl)
        refine own_if_eq X hx hby at_158 197 161 (by decide) rfl (fun q => absurd q c158) (fun _ => ?_)
        refine own_aload X hx hby (.ref b56b8b15) at_161 rfl rfl 163 rfl ?_
        refine own_bipush X hx hby (6 : Int32) at_163 rfl 165 rfl ?_
        refine own_iload X hx hby (2 : Int32) at_165 rfl 167 rfl ?_
        refine own_iloadN X hx hby p2 at_167 rfl 168 rfl ?_
        refine own_iloadN X hx hby p3 at_168 rfl 169 rfl ?_
        refine own_iload X hx hby p5 at_169 rfl 171 rfl ?_
        refine own_callS X hx hby hZ (st := []) [(.ref b56b8b15), (.int (6 : Int32)), (.int (2 : Int32)), (.int p2), (.int p3), (.int p5)] rfl hown (hw _ (List.mem_of_getElem? (i := 63) rfl)) (hw _ (List.mem_of_getElem? (i := 64) rfl)) (hw _ (List.mem_of_getElem? (i := 65) rfl)) (hw _ (List.mem_of_getElem? (i := 66) rfl)) (by decide) at_171 (rm11 l Z a0 hw b56b8b15 (6 : Int32) (2 : Int32) p2 p3 p5 ar56 h56 n0 Zs (by decide) A_b56b8b15 E_b56b8b15) eT pd_9 rfl (by rw [hml]; rfl) (by decide) 0 rfl (by decide) (by decide) (by decide) 174 rfl ?_
        intro T171 L9 v9 X hQ
        obtain ⟨rfl, N9, eT⟩ := hQ
        have N := Fr.app N N9
        show Go p e below _ T171 (mkF m 174 #[.val (.int p1), .val (.int p2), .val (.int p3), .val (.int p4), .val (.int p5), .val (.ref b0), .val (.int (2 : Int32)), .val (.ref b56b8b15)] [(.int (f11 (6 : Int32) (2 : Int32) p2 p3 p5 ar56))])
        have c174 : ¬ (f11 (6 : Int32) (2 : Int32) p2 p3 p5 ar56) = (0 : Int32) := own_okb _ _ _ _ _ (8 : Int32) _ (by decide) (by decide) (by decide) (by rw [← ear56]; refine (own_cpi (own_ck h3.2 (by decide) (Nat.lt_of_lt_of_le (by decide) h3.1) (by decide))).trans ?_; rw [← ear39]; exact w6)
        refine own_if_eq X hx hby at_174 197 177 (by decide) rfl (fun q => absurd q c174) (fun _ => ?_)
        refine own_aload X hx hby (.ref b56b8b15) at_177 rfl rfl 179 rfl ?_
        refine own_bipush X hx hby (7 : Int32) at_179 rfl 181 rfl ?_
        refine own_iload X hx hby (2 : Int32) at_181 rfl 183 rfl ?_
        refine own_iloadN X hx hby p2 at_183 rfl 184 rfl ?_
        refine own_iloadN X hx hby p3 at_184 rfl 185 rfl ?_
        refine own_iload X hx hby p5 at_185 rfl 187 rfl ?_
        refine own_callS X hx hby hZ (st := []) [(.ref b56b8b15), (.int (7 : Int32)), (.int (2 : Int32)), (.int p2), (.int p3), (.int p5)] rfl hown (hw _ (List.mem_of_getElem? (i := 63) rfl)) (hw _ (List.mem_of_getElem? (i := 64) rfl)) (hw _ (List.mem_of_getElem? (i := 65) rfl)) (hw _ (List.mem_of_getElem? (i := 66) rfl)) (by decide) at_187 (rm11 l Z a0 hw b56b8b15 (7 : Int32) (2 : Int32) p2 p3 p5 ar56 h56 n0 Zs (by decide) A_b56b8b15 E_b56b8b15) eT pd_9 rfl (by rw [hml]; rfl) (by decide) 0 rfl (by decide) (by decide) (by decide) 190 rfl ?_
        intro T187 L9 v9 X hQ
        obtain ⟨rfl, N9, eT⟩ := hQ
        have N := Fr.app N N9
        show Go p e below _ T187 (mkF m 190 #[.val (.int p1), .val (.int p2), .val (.int p3), .val (.int p4), .val (.int p5), .val (.ref b0), .val (.int (2 : Int32)), .val (.ref b56b8b15)] [(.int (f11 (7 : Int32) (2 : Int32) p2 p3 p5 ar56))])
        have c190 : ¬ (f11 (7 : Int32) (2 : Int32) p2 p3 p5 ar56) = (0 : Int32) := own_okb _ _ _ _ _ (0 : Int32) _ (by decide) (by decide) (by decide) (by rw [← ear56]; refine (own_cpi (own_ck h3.2 (by decide) (Nat.lt_of_lt_of_le (by decide) h3.1) (by decide))).trans ?_; rw [← ear39]; exact w7)
        refine own_if_eq X hx hby at_190 197 193 (by decide) rfl (fun q => absurd q c190) (fun _ => ?_)
        refine own_iconst X hx hby (1 : Int32) at_193 rfl 194 rfl ?_
        refine own_goto X hx hby at_194 198 (by decide) ?_
        refine own_retN X hx hby hret hlk (t := .boolean) (z' := (1 : Int32)) (by simp) at_198 (by decide) (by decide) rfl ?_
        rw [eT]
        exact ⟨rfl, N⟩
    · skip
      refine own_aload X hx hby (.ref b0) at_33 rfl rfl 35 rfl ?_
      refine own_iload X hx hby (3 : Int32) at_35 rfl 37 rfl ?_
      refine own_iload X hx hby p5 at_37 rfl 39 rfl ?_
      refine own_callV X hx hby hZ (st := []) [(.int (3 : Int32)), (.int p5)] rfl hown (hw _ (List.mem_of_getElem? (i := 39) rfl)) (hw _ (List.mem_of_getElem? (i := 40) rfl)) (hw _ (List.mem_of_getElem? (i := 42) rfl)) (hw _ (List.mem_of_getElem? (i := 41) rfl)) (hw _ (List.mem_of_getElem? (i := 2) rfl)) (hw _ (List.mem_of_getElem? (i := 43) rfl)) E_b0 (by decide) at_39 (rm8_3 l Z a0 hw b0 p5 b8b6 ar22 n3 (8 : Int32) h22 n0 Zs h3.1 A_b8b6 E_b8b6 g_b8b6 E_b0 F_bytes_b0 F_length_b0 g_b0) eT pd_6 rfl (by rw [hml]; rfl) (by decide) 0 rfl (by decide) (by decide) (by decide) 42 rfl ?_
      intro T39 L9 v9 X hQ
      obtain ⟨h39, eT⟩ : ∃ z, T39.heap = z := ⟨_, rfl⟩
      rw [eT] at hQ
      obtain ⟨rfl, N9, Kc, A_b8b6, E_b8b6⟩ := hQ
      have E_b0 := E_b0.keep Kc
      have F_bytes_b0 := F_bytes_b0.keep Kc (ninS ne_b0_b8b6 nin0)
      have F_length_b0 := F_length_b0.keep Kc (ninS ne_b0_b8b6 nin0)
      obtain ⟨ar39, ear39⟩ : ∃ z : Nat → Int32, (updI (updI (updI (updI ar22 3 (nar .byte (((p5.toUInt32 >>> ((24 : Int32) &&& 31).toUInt32).toInt32).toInt8.toInt32))) 4 (nar .byte (((p5.toUInt32 >>> ((16 : Int32) &&& 31).toUInt32).toInt32).toInt8.toInt32))) 5 (nar .byte (((p5.toUInt32 >>> ((8 : Int32) &&& 31).toUInt32).toInt32).toInt8.toInt32))) 6 (nar .byte (((p5.toUInt32 >>> ((0 : Int32) &&& 31).toUInt32).toInt32).toInt8.toInt32))) = z := ⟨_, rfl⟩
      rw [ear39] at A_b8b6
      have K := K.trans Kc (allS (Or.inr sz_b8b6) all0)
      have Zs := Nat.le_trans Zs Kc.1
      have N := Fr.app N N9
      show Go p e below _ T39 (mkF m 42 #[.val (.int p1), .val (.int p2), .val (.int p3), .val (.int p4), .val (.int p5), .val (.ref b0), .val (.int (3 : Int32)), .unset] [])
      refine own_aload X hx hby (.ref b0) at_42 rfl rfl 44 rfl ?_
      refine own_callV X hx hby hZ (st := []) [] rfl hown (hw _ (List.mem_of_getElem? (i := 44) rfl)) (hw _ (List.mem_of_getElem? (i := 45) rfl)) (hw _ (List.mem_of_getElem? (i := 47) rfl)) (hw _ (List.mem_of_getElem? (i := 46) rfl)) (hw _ (List.mem_of_getElem? (i := 2) rfl)) (hw _ (List.mem_of_getElem? (i := 48) rfl)) E_b0 (by decide) at_44 (rm9 l Z a0 hw b0 h39 n0 Zs F_length_b0) eT pd_0 rfl (by rw [hml]; rfl) (by decide) 0 rfl (by decide) (by decide) (by decide) 47 rfl ?_
      intro T44 L9 v9 X hQ
      obtain ⟨rfl, N9, eT⟩ := hQ
      have N := Fr.app N N9
      show Go p e below _ T44 (mkF m 47 #[.val (.int p1), .val (.int p2), .val (.int p3), .val (.int p4), .val (.int p5), .val (.ref b0), .val (.int (3 : Int32)), .unset] [(.int (8 : Int32))])
      refine own_bipush X hx hby (8 : Int32) at_47 rfl 49 rfl ?_
      have c49 : (8 : Int32) = (8 : Int32) := by decide
      refine own_icmp_eq X hx hby at_49 54 52 (by decide) rfl (fun _ => ?_) (fun q => absurd c49 q)
      refine own_aload X hx hby (.ref b0) at_54 rfl rfl 56 rfl ?_
      by_cases q8 : n3 = 8
      · skip
        subst q8
        refine own_callV X hx hby hZ (st := []) [] rfl hown (hw _ (List.mem_of_getElem? (i := 49) rfl)) (hw _ (List.mem_of_getElem? (i := 50) rfl)) (hw _ (List.mem_of_getElem? (i := 52) rfl)) (hw _ (List.mem_of_getElem? (i := 51) rfl)) (hw _ (List.mem_of_getElem? (i := 2) rfl)) (hw _ (List.mem_of_getElem? (i := 53) rfl)) E_b0 (by decide) at_56 (rm10_c l Z a0 hw b0 b8b6 ar39 h39 n0 Zs A_b8b6 E_b8b6 F_bytes_b0 F_length_b0) eT pd_3 rfl (by rw [hml]; rfl) (by decide) 0 rfl (by decide) (by decide) (by decide) 59 rfl ?_
        intro T56 L9 v9 X hQ
        obtain ⟨h56, eT⟩ : ∃ z, T56.heap = z := ⟨_, rfl⟩
        rw [eT] at hQ
        have lt_b0 := E_b0.lt
        have lt_b8b6 := A_b8b6.lt
        obtain ⟨b56b8b7, rfl, N9, Kc, hs_b56b8b7, A_b56b8b7, E_b56b8b7⟩ := hQ
        have g_b56b8b7 : n0 ≤ b56b8b7 := Nat.le_trans Zs hs_b56b8b7
        have sz_b56b8b7 : h0.size ≤ b56b8b7 := Nat.le_trans K.1 hs_b56b8b7
        have ne_b0_b56b8b7 : b0 ≠ b56b8b7 := Nat.ne_of_lt (Nat.lt_of_lt_of_le lt_b0 hs_b56b8b7)
        have ne_b8b6_b56b8b7 : b8b6 ≠ b56b8b7 := Nat.ne_of_lt (Nat.lt_of_lt_of_le lt_b8b6 hs_b56b8b7)
        have E_b0 := E_b0.keep Kc
        have F_bytes_b0 := F_bytes_b0.keep Kc nin0
        have F_length_b0 := F_length_b0.keep Kc nin0
        have A_b8b6 := A_b8b6.keep Kc nin0
        have E_b8b6 := E_b8b6.keep Kc
        have K := K.trans Kc all0
        have Zs := Nat.le_trans Zs Kc.1
        have N := Fr.app N N9
        show Go p e below _ T56 (mkF m 59 #[.val (.int p1), .val (.int p2), .val (.int p3), .val (.int p4), .val (.int p5), .val (.ref b0), .val (.int (3 : Int32)), .unset] [(.ref b56b8b7)])
        refine own_astore X hx hby at_59 rfl (l' := #[.val (.int p1), .val (.int p2), .val (.int p3), .val (.int p4), .val (.int p5), .val (.ref b0), .val (.int (3 : Int32)), .val (.ref b56b8b7)]) rfl 61 rfl ?_
        refine own_aload X hx hby (.ref b56b8b7) at_61 rfl rfl 63 rfl ?_
        refine own_arraylength X hx hby hZ (8 : Int32) eT A_b56b8b7 rfl at_63 64 rfl ?_
        refine own_bipush X hx hby (8 : Int32) at_64 rfl 66 rfl ?_
        have c66 : (8 : Int32) = (8 : Int32) := by decide
        refine own_icmp_eq X hx hby at_66 71 69 (by decide) rfl (fun _ => ?_) (fun q => absurd c66 q)
        refine own_aload X hx hby (.ref b56b8b7) at_71 rfl rfl 73 rfl ?_
        refine own_iconst X hx hby (0 : Int32) at_73 rfl 74 rfl ?_
        refine own_iload X hx hby (3 : Int32) at_74 rfl 76 rfl ?_
        refine own_iloadN X hx hby p2 at_76 rfl 77 rfl ?_
        refine own_iloadN X hx hby p3 at_77 rfl 78 rfl ?_
        refine own_iload X hx hby p5 at_78 rfl 80 rfl ?_
        refine own_callS X hx hby hZ (st := []) [(.ref b56b8b7), (.int (0 : Int32)), (.int (3 : Int32)), (.int p2), (.int p3), (.int p5)] rfl hown (hw _ (List.mem_of_getElem? (i := 63) rfl)) (hw _ (List.mem_of_getElem? (i := 64) rfl)) (hw _ (List.mem_of_getElem? (i := 65) rfl)) (hw _ (List.mem_of_getElem? (i := 66) rfl)) (by decide) at_80 (rm11 l Z a0 hw b56b8b7 (0 : Int32) (3 : Int32) p2 p3 p5 ar39 h56 n0 Zs (by decide) A_b56b8b7 E_b56b8b7) eT pd_9 rfl (by rw [hml]; rfl) (by decide) 0 rfl (by decide) (by decide) (by decide) 83 rfl ?_
        intro T80 L9 v9 X hQ
        obtain ⟨rfl, N9, eT⟩ := hQ
        have N := Fr.app N N9
        show Go p e below _ T80 (mkF m 83 #[.val (.int p1), .val (.int p2), .val (.int p3), .val (.int p4), .val (.int p5), .val (.ref b0), .val (.int (3 : Int32)), .val (.ref b56b8b7)] [(.int (f11 (0 : Int32) (3 : Int32) p2 p3 p5 ar39))])
        have c83 : ¬ (f11 (0 : Int32) (3 : Int32) p2 p3 p5 ar39) = (0 : Int32) := own_oka _ _ _ _ _ (24 : Int32) _ (by decide) (by decide) (by decide) (by rw [← ear39]; exact w0)
        refine own_if_eq X hx hby at_83 197 86 (by decide) rfl (fun q => absurd q c83) (fun _ => ?_)
        refine own_aload X hx hby (.ref b56b8b7) at_86 rfl rfl 88 rfl ?_
        refine own_iconst X hx hby (1 : Int32) at_88 rfl 89 rfl ?_
        refine own_iload X hx hby (3 : Int32) at_89 rfl 91 rfl ?_
        refine own_iloadN X hx hby p2 at_91 rfl 92 rfl ?_
        refine own_iloadN X hx hby p3 at_92 rfl 93 rfl ?_
        refine own_iload X hx hby p5 at_93 rfl 95 rfl ?_
        refine own_callS X hx hby hZ (st := []) [(.ref b56b8b7), (.int (1 : Int32)), (.int (3 : Int32)), (.int p2), (.int p3), (.int p5)] rfl hown (hw _ (List.mem_of_getElem? (i := 63) rfl)) (hw _ (List.mem_of_getElem? (i := 64) rfl)) (hw _ (List.mem_of_getElem? (i := 65) rfl)) (hw _ (List.mem_of_getElem? (i := 66) rfl)) (by decide) at_95 (rm11 l Z a0 hw b56b8b7 (1 : Int32) (3 : Int32) p2 p3 p5 ar39 h56 n0 Zs (by decide) A_b56b8b7 E_b56b8b7) eT pd_9 rfl (by rw [hml]; rfl) (by decide) 0 rfl (by decide) (by decide) (by decide) 98 rfl ?_
        intro T95 L9 v9 X hQ
        obtain ⟨rfl, N9, eT⟩ := hQ
        have N := Fr.app N N9
        show Go p e below _ T95 (mkF m 98 #[.val (.int p1), .val (.int p2), .val (.int p3), .val (.int p4), .val (.int p5), .val (.ref b0), .val (.int (3 : Int32)), .val (.ref b56b8b7)] [(.int (f11 (1 : Int32) (3 : Int32) p2 p3 p5 ar39))])
        have c98 : ¬ (f11 (1 : Int32) (3 : Int32) p2 p3 p5 ar39) = (0 : Int32) := own_oka _ _ _ _ _ (16 : Int32) _ (by decide) (by decide) (by decide) (by rw [← ear39]; exact w1)
        refine own_if_eq X hx hby at_98 197 101 (by decide) rfl (fun q => absurd q c98) (fun _ => ?_)
        refine own_aload X hx hby (.ref b56b8b7) at_101 rfl rfl 103 rfl ?_
        refine own_iconst X hx hby (2 : Int32) at_103 rfl 104 rfl ?_
        refine own_iload X hx hby (3 : Int32) at_104 rfl 106 rfl ?_
        refine own_iloadN X hx hby p2 at_106 rfl 107 rfl ?_
        refine own_iloadN X hx hby p3 at_107 rfl 108 rfl ?_
        refine own_iload X hx hby p5 at_108 rfl 110 rfl ?_
        refine own_callS X hx hby hZ (st := []) [(.ref b56b8b7), (.int (2 : Int32)), (.int (3 : Int32)), (.int p2), (.int p3), (.int p5)] rfl hown (hw _ (List.mem_of_getElem? (i := 63) rfl)) (hw _ (List.mem_of_getElem? (i := 64) rfl)) (hw _ (List.mem_of_getElem? (i := 65) rfl)) (hw _ (List.mem_of_getElem? (i := 66) rfl)) (by decide) at_110 (rm11 l Z a0 hw b56b8b7 (2 : Int32) (3 : Int32) p2 p3 p5 ar39 h56 n0 Zs (by decide) A_b56b8b7 E_b56b8b7) eT pd_9 rfl (by rw [hml]; rfl) (by decide) 0 rfl (by decide) (by decide) (by decide) 113 rfl ?_
        intro T110 L9 v9 X hQ
        obtain ⟨rfl, N9, eT⟩ := hQ
        have N := Fr.app N N9
        show Go p e below _ T110 (mkF m 113 #[.val (.int p1), .val (.int p2), .val (.int p3), .val (.int p4), .val (.int p5), .val (.ref b0), .val (.int (3 : Int32)), .val (.ref b56b8b7)] [(.int (f11 (2 : Int32) (3 : Int32) p2 p3 p5 ar39))])
        have c113 : ¬ (f11 (2 : Int32) (3 : Int32) p2 p3 p5 ar39) = (0 : Int32) := own_oka _ _ _ _ _ (8 : Int32) _ (by decide) (by decide) (by decide) (by rw [← ear39]; exact w2)
        refine own_if_eq X hx hby at_113 197 116 (by decide) rfl (fun q => absurd q c113) (fun _ => ?_)
        refine own_aload X hx hby (.ref b56b8b7) at_116 rfl rfl 118 rfl ?_
        refine own_iconst X hx hby (3 : Int32) at_118 rfl 119 rfl ?_
        refine own_iload X hx hby (3 : Int32) at_119 rfl 121 rfl ?_
        refine own_iloadN X hx hby p2 at_121 rfl 122 rfl ?_
        refine own_iloadN X hx hby p3 at_122 rfl 123 rfl ?_
        refine own_iload X hx hby p5 at_123 rfl 125 rfl ?_
        refine own_callS X hx hby hZ (st := []) [(.ref b56b8b7), (.int (3 : Int32)), (.int (3 : Int32)), (.int p2), (.int p3), (.int p5)] rfl hown (hw _ (List.mem_of_getElem? (i := 63) rfl)) (hw _ (List.mem_of_getElem? (i := 64) rfl)) (hw _ (List.mem_of_getElem? (i := 65) rfl)) (hw _ (List.mem_of_getElem? (i := 66) rfl)) (by decide) at_125 (rm11 l Z a0 hw b56b8b7 (3 : Int32) (3 : Int32) p2 p3 p5 ar39 h56 n0 Zs (by decide) A_b56b8b7 E_b56b8b7) eT pd_9 rfl (by rw [hml]; rfl) (by decide) 0 rfl (by decide) (by decide) (by decide) 128 rfl ?_
        intro T125 L9 v9 X hQ
        obtain ⟨rfl, N9, eT⟩ := hQ
        have N := Fr.app N N9
        show Go p e below _ T125 (mkF m 128 #[.val (.int p1), .val (.int p2), .val (.int p3), .val (.int p4), .val (.int p5), .val (.ref b0), .val (.int (3 : Int32)), .val (.ref b56b8b7)] [(.int (f11 (3 : Int32) (3 : Int32) p2 p3 p5 ar39))])
        have c128 : ¬ (f11 (3 : Int32) (3 : Int32) p2 p3 p5 ar39) = (0 : Int32) := own_okv _ _ _ _ _ (24 : Int32) _ (by decide) (by decide) (by decide) (by rw [← ear39]; rfl)
        refine own_if_eq X hx hby at_128 197 131 (by decide) rfl (fun q => absurd q c128) (fun _ => ?_)
        refine own_aload X hx hby (.ref b56b8b7) at_131 rfl rfl 133 rfl ?_
        refine own_iconst X hx hby (4 : Int32) at_133 rfl 134 rfl ?_
        refine own_iload X hx hby (3 : Int32) at_134 rfl 136 rfl ?_
        refine own_iloadN X hx hby p2 at_136 rfl 137 rfl ?_
        refine own_iloadN X hx hby p3 at_137 rfl 138 rfl ?_
        refine own_iload X hx hby p5 at_138 rfl 140 rfl ?_
        refine own_callS X hx hby hZ (st := []) [(.ref b56b8b7), (.int (4 : Int32)), (.int (3 : Int32)), (.int p2), (.int p3), (.int p5)] rfl hown (hw _ (List.mem_of_getElem? (i := 63) rfl)) (hw _ (List.mem_of_getElem? (i := 64) rfl)) (hw _ (List.mem_of_getElem? (i := 65) rfl)) (hw _ (List.mem_of_getElem? (i := 66) rfl)) (by decide) at_140 (rm11 l Z a0 hw b56b8b7 (4 : Int32) (3 : Int32) p2 p3 p5 ar39 h56 n0 Zs (by decide) A_b56b8b7 E_b56b8b7) eT pd_9 rfl (by rw [hml]; rfl) (by decide) 0 rfl (by decide) (by decide) (by decide) 143 rfl ?_
        intro T140 L9 v9 X hQ
        obtain ⟨rfl, N9, eT⟩ := hQ
        have N := Fr.app N N9
        show Go p e below _ T140 (mkF m 143 #[.val (.int p1), .val (.int p2), .val (.int p3), .val (.int p4), .val (.int p5), .val (.ref b0), .val (.int (3 : Int32)), .val (.ref b56b8b7)] [(.int (f11 (4 : Int32) (3 : Int32) p2 p3 p5 ar39))])
        have c143 : ¬ (f11 (4 : Int32) (3 : Int32) p2 p3 p5 ar39) = (0 : Int32) := own_okv _ _ _ _ _ (16 : Int32) _ (by decide) (by decide) (by decide) (by rw [← ear39]; rfl)
        refine own_if_eq X hx hby at_143 197 146 (by decide) rfl (fun q => absurd q c143) (fun _ => ?_)
        refine own_aload X hx hby (.ref b56b8b7) at_146 rfl rfl 148 rfl ?_
        refine own_iconst X hx hby (5 : Int32) at_148 rfl 149 rfl ?_
        refine own_iload X hx hby (3 : Int32) at_149 rfl 151 rfl ?_
        refine own_iloadN X hx hby p2 at_151 rfl 152 rfl ?_
        refine own_iloadN X hx hby p3 at_152 rfl 153 rfl ?_
        refine own_iload X hx hby p5 at_153 rfl 155 rfl ?_
        refine own_callS X hx hby hZ (st := []) [(.ref b56b8b7), (.int (5 : Int32)), (.int (3 : Int32)), (.int p2), (.int p3), (.int p5)] rfl hown (hw _ (List.mem_of_getElem? (i := 63) rfl)) (hw _ (List.mem_of_getElem? (i := 64) rfl)) (hw _ (List.mem_of_getElem? (i := 65) rfl)) (hw _ (List.mem_of_getElem? (i := 66) rfl)) (by decide) at_155 (rm11 l Z a0 hw b56b8b7 (5 : Int32) (3 : Int32) p2 p3 p5 ar39 h56 n0 Zs (by decide) A_b56b8b7 E_b56b8b7) eT pd_9 rfl (by rw [hml]; rfl) (by decide) 0 rfl (by decide) (by decide) (by decide) 158 rfl ?_
        intro T155 L9 v9 X hQ
        obtain ⟨rfl, N9, eT⟩ := hQ
        have N := Fr.app N N9
        show Go p e below _ T155 (mkF m 158 #[.val (.int p1), .val (.int p2), .val (.int p3), .val (.int p4), .val (.int p5), .val (.ref b0), .val (.int (3 : Int32)), .val (.ref b56b8b7)] [(.int (f11 (5 : Int32) (3 : Int32) p2 p3 p5 ar39))])
        have c158 : ¬ (f11 (5 : Int32) (3 : Int32) p2 p3 p5 ar39) = (0 : Int32) := own_okv _ _ _ _ _ (8 : Int32) _ (by decide) (by decide) (by decide) (by rw [← ear39]; rfl)
        refine own_if_eq X hx hby at_158 197 161 (by decide) rfl (fun q => absurd q c158) (fun _ => ?_)
        refine own_aload X hx hby (.ref b56b8b7) at_161 rfl rfl 163 rfl ?_
        refine own_bipush X hx hby (6 : Int32) at_163 rfl 165 rfl ?_
        refine own_iload X hx hby (3 : Int32) at_165 rfl 167 rfl ?_
        refine own_iloadN X hx hby p2 at_167 rfl 168 rfl ?_
        refine own_iloadN X hx hby p3 at_168 rfl 169 rfl ?_
        refine own_iload X hx hby p5 at_169 rfl 171 rfl ?_
        refine own_callS X hx hby hZ (st := []) [(.ref b56b8b7), (.int (6 : Int32)), (.int (3 : Int32)), (.int p2), (.int p3), (.int p5)] rfl hown (hw _ (List.mem_of_getElem? (i := 63) rfl)) (hw _ (List.mem_of_getElem? (i := 64) rfl)) (hw _ (List.mem_of_getElem? (i := 65) rfl)) (hw _ (List.mem_of_getElem? (i := 66) rfl)) (by decide) at_171 (rm11 l Z a0 hw b56b8b7 (6 : Int32) (3 : Int32) p2 p3 p5 ar39 h56 n0 Zs (by decide) A_b56b8b7 E_b56b8b7) eT pd_9 rfl (by rw [hml]; rfl) (by decide) 0 rfl (by decide) (by decide) (by decide) 174 rfl ?_
        intro T171 L9 v9 X hQ
        obtain ⟨rfl, N9, eT⟩ := hQ
        have N := Fr.app N N9
        show Go p e below _ T171 (mkF m 174 #[.val (.int p1), .val (.int p2), .val (.int p3), .val (.int p4), .val (.int p5), .val (.ref b0), .val (.int (3 : Int32)), .val (.ref b56b8b7)] [(.int (f11 (6 : Int32) (3 : Int32) p2 p3 p5 ar39))])
        have c174 : ¬ (f11 (6 : Int32) (3 : Int32) p2 p3 p5 ar39) = (0 : Int32) := own_okv _ _ _ _ _ (0 : Int32) _ (by decide) (by decide) (by decide) (by rw [← ear39]; rfl)
        refine own_if_eq X hx hby at_174 197 177 (by decide) rfl (fun q => absurd q c174) (fun _ => ?_)
        refine own_aload X hx hby (.ref b56b8b7) at_177 rfl rfl 179 rfl ?_
        refine own_bipush X hx hby (7 : Int32) at_179 rfl 181 rfl ?_
        refine own_iload X hx hby (3 : Int32) at_181 rfl 183 rfl ?_
        refine own_iloadN X hx hby p2 at_183 rfl 184 rfl ?_
        refine own_iloadN X hx hby p3 at_184 rfl 185 rfl ?_
        refine own_iload X hx hby p5 at_185 rfl 187 rfl ?_
        refine own_callS X hx hby hZ (st := []) [(.ref b56b8b7), (.int (7 : Int32)), (.int (3 : Int32)), (.int p2), (.int p3), (.int p5)] rfl hown (hw _ (List.mem_of_getElem? (i := 63) rfl)) (hw _ (List.mem_of_getElem? (i := 64) rfl)) (hw _ (List.mem_of_getElem? (i := 65) rfl)) (hw _ (List.mem_of_getElem? (i := 66) rfl)) (by decide) at_187 (rm11 l Z a0 hw b56b8b7 (7 : Int32) (3 : Int32) p2 p3 p5 ar39 h56 n0 Zs (by decide) A_b56b8b7 E_b56b8b7) eT pd_9 rfl (by rw [hml]; rfl) (by decide) 0 rfl (by decide) (by decide) (by decide) 190 rfl ?_
        intro T187 L9 v9 X hQ
        obtain ⟨rfl, N9, eT⟩ := hQ
        have N := Fr.app N N9
        show Go p e below _ T187 (mkF m 190 #[.val (.int p1), .val (.int p2), .val (.int p3), .val (.int p4), .val (.int p5), .val (.ref b0), .val (.int (3 : Int32)), .val (.ref b56b8b7)] [(.int (f11 (7 : Int32) (3 : Int32) p2 p3 p5 ar39))])
        have c190 : ¬ (f11 (7 : Int32) (3 : Int32) p2 p3 p5 ar39) = (0 : Int32) := own_okb _ _ _ _ _ (0 : Int32) _ (by decide) (by decide) (by decide) (by rw [← ear39]; exact w7)
        refine own_if_eq X hx hby at_190 197 193 (by decide) rfl (fun q => absurd q c190) (fun _ => ?_)
        refine own_iconst X hx hby (1 : Int32) at_193 rfl 194 rfl ?_
        refine own_goto X hx hby at_194 198 (by decide) ?_
        refine own_retN X hx hby hret hlk (t := .boolean) (z' := (1 : Int32)) (by simp) at_198 (by decide) (by decide) rfl ?_
        rw [eT]
        exact ⟨rfl, N⟩
      · skip
        refine own_callV X hx hby hZ (st := []) [] rfl hown (hw _ (List.mem_of_getElem? (i := 49) rfl)) (hw _ (List.mem_of_getElem? (i := 50) rfl)) (hw _ (List.mem_of_getElem? (i := 52) rfl)) (hw _ (List.mem_of_getElem? (i := 51) rfl)) (hw _ (List.mem_of_getElem? (i := 2) rfl)) (hw _ (List.mem_of_getElem? (i := 53) rfl)) E_b0 (by decide) at_56 (rm10_n l Z a0 hw b0 b8b6 ar39 n3 h39 n0 Zs (own_n8 q8 h3.2) h3.2 A_b8b6 E_b8b6 F_bytes_b0 F_length_b0) eT pd_3 rfl (by rw [hml]; rfl) (by decide) 0 rfl (by decide) (by decide) (by decide) 59 rfl ?_
        intro T56 L9 v9 X hQ
        obtain ⟨h56, eT⟩ : ∃ z, T56.heap = z := ⟨_, rfl⟩
        rw [eT] at hQ
        have lt_b0 := E_b0.lt
        have lt_b8b6 := A_b8b6.lt
        obtain ⟨b56b8b15, rfl, N9, Kc, hs_b56b8b15, A_b56b8b15, E_b56b8b15⟩ := hQ
        have g_b56b8b15 : n0 ≤ b56b8b15 := Nat.le_trans Zs hs_b56b8b15
        have sz_b56b8b15 : h0.size ≤ b56b8b15 := Nat.le_trans K.1 hs_b56b8b15
        have ne_b0_b56b8b15 : b0 ≠ b56b8b15 := Nat.ne_of_lt (Nat.lt_of_lt_of_le lt_b0 hs_b56b8b15)
        have ne_b8b6_b56b8b15 : b8b6 ≠ b56b8b15 := Nat.ne_of_lt (Nat.lt_of_lt_of_le lt_b8b6 hs_b56b8b15)
        have E_b0 := E_b0.keep Kc
        have F_bytes_b0 := F_bytes_b0.keep Kc nin0
        have F_length_b0 := F_length_b0.keep Kc nin0
        have A_b8b6 := A_b8b6.keep Kc nin0
        have E_b8b6 := E_b8b6.keep Kc
        obtain ⟨ar56, ear56⟩ : ∃ z : Nat → Int32, (own_cp ar39 (Int32.toNatClampNeg (f7 (Int32.ofNat n3) (8 : Int32)))) = z := ⟨_, rfl⟩
        rw [ear56] at A_b56b8b15
        have K := K.trans Kc all0
        have Zs := Nat.le_trans Zs Kc.1
        have N := Fr.app N N9
        show Go p e below _ T56 (mkF m 59 #[.val (.int p1), .val (.int p2), .val (.int p3), .val (.int p4), .val (.int p5), .val (.ref b0), .val (.int (3 : Int32)), .unset] [(.ref b56b8b15)])
        refine own_astore X hx hby at_59 rfl (l' := #[.val (.int p1), .val (.int p2), .val (.int p3), .val (.int p4), .val (.int p5), .val (.ref b0), .val (.int (3 : Int32)), .val (.ref b56b8b15)]) rfl 61 rfl ?_
        refine own_aload X hx hby (.ref b56b8b15) at_61 rfl rfl 63 rfl ?_
        refine own_arraylength X hx hby hZ (8 : Int32) eT A_b56b8b15 rfl at_63 64 rfl ?_
        refine own_bipush X hx hby (8 : Int32) at_64 rfl 66 rfl ?_
        have c66 : (8 : Int32) = (8 : Int32) := by decide
        refine own_icmp_eq X hx hby at_66 71 69 (by decide) rfl (fun _ => ?_) (fun q => absurd c66 q)
        refine own_aload X hx hby (.ref b56b8b15) at_71 rfl rfl 73 rfl ?_
        refine own_iconst X hx hby (0 : Int32) at_73 rfl 74 rfl ?_
        refine own_iload X hx hby (3 : Int32) at_74 rfl 76 rfl ?_
        refine own_iloadN X hx hby p2 at_76 rfl 77 rfl ?_
        refine own_iloadN X hx hby p3 at_77 rfl 78 rfl ?_
        refine own_iload X hx hby p5 at_78 rfl 80 rfl ?_
        refine own_callS X hx hby hZ (st := []) [(.ref b56b8b15), (.int (0 : Int32)), (.int (3 : Int32)), (.int p2), (.int p3), (.int p5)] rfl hown (hw _ (List.mem_of_getElem? (i := 63) rfl)) (hw _ (List.mem_of_getElem? (i := 64) rfl)) (hw _ (List.mem_of_getElem? (i := 65) rfl)) (hw _ (List.mem_of_getElem? (i := 66) rfl)) (by decide) at_80 (rm11 l Z a0 hw b56b8b15 (0 : Int32) (3 : Int32) p2 p3 p5 ar56 h56 n0 Zs (by decide) A_b56b8b15 E_b56b8b15) eT pd_9 rfl (by rw [hml]; rfl) (by decide) 0 rfl (by decide) (by decide) (by decide) 83 rfl ?_
        intro T80 L9 v9 X hQ
        obtain ⟨rfl, N9, eT⟩ := hQ
        have N := Fr.app N N9
        show Go p e below _ T80 (mkF m 83 #[.val (.int p1), .val (.int p2), .val (.int p3), .val (.int p4), .val (.int p5), .val (.ref b0), .val (.int (3 : Int32)), .val (.ref b56b8b15)] [(.int (f11 (0 : Int32) (3 : Int32) p2 p3 p5 ar56))])
        have c83 : ¬ (f11 (0 : Int32) (3 : Int32) p2 p3 p5 ar56) = (0 : Int32) := own_oka _ _ _ _ _ (24 : Int32) _ (by decide) (by decide) (by decide) (by rw [← ear56]; refine (own_cpi (own_ck h3.2 (by decide) (Nat.lt_of_lt_of_le (by decide) h3.1) (by decide))).trans ?_; rw [← ear39]; exact w0)
        refine own_if_eq X hx hby at_83 197 86 (by decide) rfl (fun q => absurd q c83) (fun _ => ?_)
        refine own_aload X hx hby (.ref b56b8b15) at_86 rfl rfl 88 rfl ?_
        refine own_iconst X hx hby (1 : Int32) at_88 rfl 89 rfl ?_
        refine own_iload X hx hby (3 : Int32) at_89 rfl 91 rfl ?_
        refine own_iloadN X hx hby p2 at_91 rfl 92 rfl ?_
        refine own_iloadN X hx hby p3 at_92 rfl 93 rfl ?_
        refine own_iload X hx hby p5 at_93 rfl 95 rfl ?_
        refine own_callS X hx hby hZ (st := []) [(.ref b56b8b15), (.int (1 : Int32)), (.int (3 : Int32)), (.int p2), (.int p3), (.int p5)] rfl hown (hw _ (List.mem_of_getElem? (i := 63) rfl)) (hw _ (List.mem_of_getElem? (i := 64) rfl)) (hw _ (List.mem_of_getElem? (i := 65) rfl)) (hw _ (List.mem_of_getElem? (i := 66) rfl)) (by decide) at_95 (rm11 l Z a0 hw b56b8b15 (1 : Int32) (3 : Int32) p2 p3 p5 ar56 h56 n0 Zs (by decide) A_b56b8b15 E_b56b8b15) eT pd_9 rfl (by rw [hml]; rfl) (by decide) 0 rfl (by decide) (by decide) (by decide) 98 rfl ?_
        intro T95 L9 v9 X hQ
        obtain ⟨rfl, N9, eT⟩ := hQ
        have N := Fr.app N N9
        show Go p e below _ T95 (mkF m 98 #[.val (.int p1), .val (.int p2), .val (.int p3), .val (.int p4), .val (.int p5), .val (.ref b0), .val (.int (3 : Int32)), .val (.ref b56b8b15)] [(.int (f11 (1 : Int32) (3 : Int32) p2 p3 p5 ar56))])
        have c98 : ¬ (f11 (1 : Int32) (3 : Int32) p2 p3 p5 ar56) = (0 : Int32) := own_oka _ _ _ _ _ (16 : Int32) _ (by decide) (by decide) (by decide) (by rw [← ear56]; refine (own_cpi (own_ck h3.2 (by decide) (Nat.lt_of_lt_of_le (by decide) h3.1) (by decide))).trans ?_; rw [← ear39]; exact w1)
        refine own_if_eq X hx hby at_98 197 101 (by decide) rfl (fun q => absurd q c98) (fun _ => ?_)
        refine own_aload X hx hby (.ref b56b8b15) at_101 rfl rfl 103 rfl ?_
        refine own_iconst X hx hby (2 : Int32) at_103 rfl 104 rfl ?_
        refine own_iload X hx hby (3 : Int32) at_104 rfl 106 rfl ?_
        refine own_iloadN X hx hby p2 at_106 rfl 107 rfl ?_
        refine own_iloadN X hx hby p3 at_107 rfl 108 rfl ?_
        refine own_iload X hx hby p5 at_108 rfl 110 rfl ?_
        refine own_callS X hx hby hZ (st := []) [(.ref b56b8b15), (.int (2 : Int32)), (.int (3 : Int32)), (.int p2), (.int p3), (.int p5)] rfl hown (hw _ (List.mem_of_getElem? (i := 63) rfl)) (hw _ (List.mem_of_getElem? (i := 64) rfl)) (hw _ (List.mem_of_getElem? (i := 65) rfl)) (hw _ (List.mem_of_getElem? (i := 66) rfl)) (by decide) at_110 (rm11 l Z a0 hw b56b8b15 (2 : Int32) (3 : Int32) p2 p3 p5 ar56 h56 n0 Zs (by decide) A_b56b8b15 E_b56b8b15) eT pd_9 rfl (by rw [hml]; rfl) (by decide) 0 rfl (by decide) (by decide) (by decide) 113 rfl ?_
        intro T110 L9 v9 X hQ
        obtain ⟨rfl, N9, eT⟩ := hQ
        have N := Fr.app N N9
        show Go p e below _ T110 (mkF m 113 #[.val (.int p1), .val (.int p2), .val (.int p3), .val (.int p4), .val (.int p5), .val (.ref b0), .val (.int (3 : Int32)), .val (.ref b56b8b15)] [(.int (f11 (2 : Int32) (3 : Int32) p2 p3 p5 ar56))])
        have c113 : ¬ (f11 (2 : Int32) (3 : Int32) p2 p3 p5 ar56) = (0 : Int32) := own_oka _ _ _ _ _ (8 : Int32) _ (by decide) (by decide) (by decide) (by rw [← ear56]; refine (own_cpi (own_ck h3.2 (by decide) (Nat.lt_of_lt_of_le (by decide) h3.1) (by decide))).trans ?_; rw [← ear39]; exact w2)
        refine own_if_eq X hx hby at_113 197 116 (by decide) rfl (fun q => absurd q c113) (fun _ => ?_)
        refine own_aload X hx hby (.ref b56b8b15) at_116 rfl rfl 118 rfl ?_
        refine own_iconst X hx hby (3 : Int32) at_118 rfl 119 rfl ?_
        refine own_iload X hx hby (3 : Int32) at_119 rfl 121 rfl ?_
        refine own_iloadN X hx hby p2 at_121 rfl 122 rfl ?_
        refine own_iloadN X hx hby p3 at_122 rfl 123 rfl ?_
        refine own_iload X hx hby p5 at_123 rfl 125 rfl ?_
        refine own_callS X hx hby hZ (st := []) [(.ref b56b8b15), (.int (3 : Int32)), (.int (3 : Int32)), (.int p2), (.int p3), (.int p5)] rfl hown (hw _ (List.mem_of_getElem? (i := 63) rfl)) (hw _ (List.mem_of_getElem? (i := 64) rfl)) (hw _ (List.mem_of_getElem? (i := 65) rfl)) (hw _ (List.mem_of_getElem? (i := 66) rfl)) (by decide) at_125 (rm11 l Z a0 hw b56b8b15 (3 : Int32) (3 : Int32) p2 p3 p5 ar56 h56 n0 Zs (by decide) A_b56b8b15 E_b56b8b15) eT pd_9 rfl (by rw [hml]; rfl) (by decide) 0 rfl (by decide) (by decide) (by decide) 128 rfl ?_
        intro T125 L9 v9 X hQ
        obtain ⟨rfl, N9, eT⟩ := hQ
        have N := Fr.app N N9
        show Go p e below _ T125 (mkF m 128 #[.val (.int p1), .val (.int p2), .val (.int p3), .val (.int p4), .val (.int p5), .val (.ref b0), .val (.int (3 : Int32)), .val (.ref b56b8b15)] [(.int (f11 (3 : Int32) (3 : Int32) p2 p3 p5 ar56))])
        have c128 : ¬ (f11 (3 : Int32) (3 : Int32) p2 p3 p5 ar56) = (0 : Int32) := own_okv _ _ _ _ _ (24 : Int32) _ (by decide) (by decide) (by decide) (by rw [← ear56]; refine (own_cpi (own_ck h3.2 (by decide) (Nat.lt_of_lt_of_le (by decide) h3.1) (by decide))).trans ?_; rw [← ear39]; rfl)
        refine own_if_eq X hx hby at_128 197 131 (by decide) rfl (fun q => absurd q c128) (fun _ => ?_)
        refine own_aload X hx hby (.ref b56b8b15) at_131 rfl rfl 133 rfl ?_
        refine own_iconst X hx hby (4 : Int32) at_133 rfl 134 rfl ?_
        refine own_iload X hx hby (3 : Int32) at_134 rfl 136 rfl ?_
        refine own_iloadN X hx hby p2 at_136 rfl 137 rfl ?_
        refine own_iloadN X hx hby p3 at_137 rfl 138 rfl ?_
        refine own_iload X hx hby p5 at_138 rfl 140 rfl ?_
        refine own_callS X hx hby hZ (st := []) [(.ref b56b8b15), (.int (4 : Int32)), (.int (3 : Int32)), (.int p2), (.int p3), (.int p5)] rfl hown (hw _ (List.mem_of_getElem? (i := 63) rfl)) (hw _ (List.mem_of_getElem? (i := 64) rfl)) (hw _ (List.mem_of_getElem? (i := 65) rfl)) (hw _ (List.mem_of_getElem? (i := 66) rfl)) (by decide) at_140 (rm11 l Z a0 hw b56b8b15 (4 : Int32) (3 : Int32) p2 p3 p5 ar56 h56 n0 Zs (by decide) A_b56b8b15 E_b56b8b15) eT pd_9 rfl (by rw [hml]; rfl) (by decide) 0 rfl (by decide) (by decide) (by decide) 143 rfl ?_
        intro T140 L9 v9 X hQ
        obtain ⟨rfl, N9, eT⟩ := hQ
        have N := Fr.app N N9
        show Go p e below _ T140 (mkF m 143 #[.val (.int p1), .val (.int p2), .val (.int p3), .val (.int p4), .val (.int p5), .val (.ref b0), .val (.int (3 : Int32)), .val (.ref b56b8b15)] [(.int (f11 (4 : Int32) (3 : Int32) p2 p3 p5 ar56))])
        have c143 : ¬ (f11 (4 : Int32) (3 : Int32) p2 p3 p5 ar56) = (0 : Int32) := own_okv _ _ _ _ _ (16 : Int32) _ (by decide) (by decide) (by decide) (by rw [← ear56]; refine (own_cpi (own_ck h3.2 (by decide) (Nat.lt_of_lt_of_le (by decide) h3.1) (by decide))).trans ?_; rw [← ear39]; rfl)
        refine own_if_eq X hx hby at_143 197 146 (by decide) rfl (fun q => absurd q c143) (fun _ => ?_)
        refine own_aload X hx hby (.ref b56b8b15) at_146 rfl rfl 148 rfl ?_
        refine own_iconst X hx hby (5 : Int32) at_148 rfl 149 rfl ?_
        refine own_iload X hx hby (3 : Int32) at_149 rfl 151 rfl ?_
        refine own_iloadN X hx hby p2 at_151 rfl 152 rfl ?_
        refine own_iloadN X hx hby p3 at_152 rfl 153 rfl ?_
        refine own_iload X hx hby p5 at_153 rfl 155 rfl ?_
        refine own_callS X hx hby hZ (st := []) [(.ref b56b8b15), (.int (5 : Int32)), (.int (3 : Int32)), (.int p2), (.int p3), (.int p5)] rfl hown (hw _ (List.mem_of_getElem? (i := 63) rfl)) (hw _ (List.mem_of_getElem? (i := 64) rfl)) (hw _ (List.mem_of_getElem? (i := 65) rfl)) (hw _ (List.mem_of_getElem? (i := 66) rfl)) (by decide) at_155 (rm11 l Z a0 hw b56b8b15 (5 : Int32) (3 : Int32) p2 p3 p5 ar56 h56 n0 Zs (by decide) A_b56b8b15 E_b56b8b15) eT pd_9 rfl (by rw [hml]; rfl) (by decide) 0 rfl (by decide) (by decide) (by decide) 158 rfl ?_
        intro T155 L9 v9 X hQ
        obtain ⟨rfl, N9, eT⟩ := hQ
        have N := Fr.app N N9
        show Go p e below _ T155 (mkF m 158 #[.val (.int p1), .val (.int p2), .val (.int p3), .val (.int p4), .val (.int p5), .val (.ref b0), .val (.int (3 : Int32)), .val (.ref b56b8b15)] [(.int (f11 (5 : Int32) (3 : Int32) p2 p3 p5 ar56))])
        have c158 : ¬ (f11 (5 : Int32) (3 : Int32) p2 p3 p5 ar56) = (0 : Int32) := own_okv _ _ _ _ _ (8 : Int32) _ (by decide) (by decide) (by decide) (by rw [← ear56]; refine (own_cpi (own_ck h3.2 (by decide) (Nat.lt_of_lt_of_le (by decide) h3.1) (by decide))).trans ?_; rw [← ear39]; rfl)
        refine own_if_eq X hx hby at_158 197 161 (by decide) rfl (fun q => absurd q c158) (fun _ => ?_)
        refine own_aload X hx hby (.ref b56b8b15) at_161 rfl rfl 163 rfl ?_
        refine own_bipush X hx hby (6 : Int32) at_163 rfl 165 rfl ?_
        refine own_iload X hx hby (3 : Int32) at_165 rfl 167 rfl ?_
        refine own_iloadN X hx hby p2 at_167 rfl 168 rfl ?_
        refine own_iloadN X hx hby p3 at_168 rfl 169 rfl ?_
        refine own_iload X hx hby p5 at_169 rfl 171 rfl ?_
        refine own_callS X hx hby hZ (st := []) [(.ref b56b8b15), (.int (6 : Int32)), (.int (3 : Int32)), (.int p2), (.int p3), (.int p5)] rfl hown (hw _ (List.mem_of_getElem? (i := 63) rfl)) (hw _ (List.mem_of_getElem? (i := 64) rfl)) (hw _ (List.mem_of_getElem? (i := 65) rfl)) (hw _ (List.mem_of_getElem? (i := 66) rfl)) (by decide) at_171 (rm11 l Z a0 hw b56b8b15 (6 : Int32) (3 : Int32) p2 p3 p5 ar56 h56 n0 Zs (by decide) A_b56b8b15 E_b56b8b15) eT pd_9 rfl (by rw [hml]; rfl) (by decide) 0 rfl (by decide) (by decide) (by decide) 174 rfl ?_
        intro T171 L9 v9 X hQ
        obtain ⟨rfl, N9, eT⟩ := hQ
        have N := Fr.app N N9
        show Go p e below _ T171 (mkF m 174 #[.val (.int p1), .val (.int p2), .val (.int p3), .val (.int p4), .val (.int p5), .val (.ref b0), .val (.int (3 : Int32)), .val (.ref b56b8b15)] [(.int (f11 (6 : Int32) (3 : Int32) p2 p3 p5 ar56))])
        have c174 : ¬ (f11 (6 : Int32) (3 : Int32) p2 p3 p5 ar56) = (0 : Int32) := own_okv _ _ _ _ _ (0 : Int32) _ (by decide) (by decide) (by decide) (by rw [← ear56]; refine (own_cpi (own_ck h3.2 (by decide) (Nat.lt_of_lt_of_le (by decide) h3.1) (by decide))).trans ?_; rw [← ear39]; rfl)
        refine own_if_eq X hx hby at_174 197 177 (by decide) rfl (fun q => absurd q c174) (fun _ => ?_)
        refine own_aload X hx hby (.ref b56b8b15) at_177 rfl rfl 179 rfl ?_
        refine own_bipush X hx hby (7 : Int32) at_179 rfl 181 rfl ?_
        refine own_iload X hx hby (3 : Int32) at_181 rfl 183 rfl ?_
        refine own_iloadN X hx hby p2 at_183 rfl 184 rfl ?_
        refine own_iloadN X hx hby p3 at_184 rfl 185 rfl ?_
        refine own_iload X hx hby p5 at_185 rfl 187 rfl ?_
        refine own_callS X hx hby hZ (st := []) [(.ref b56b8b15), (.int (7 : Int32)), (.int (3 : Int32)), (.int p2), (.int p3), (.int p5)] rfl hown (hw _ (List.mem_of_getElem? (i := 63) rfl)) (hw _ (List.mem_of_getElem? (i := 64) rfl)) (hw _ (List.mem_of_getElem? (i := 65) rfl)) (hw _ (List.mem_of_getElem? (i := 66) rfl)) (by decide) at_187 (rm11 l Z a0 hw b56b8b15 (7 : Int32) (3 : Int32) p2 p3 p5 ar56 h56 n0 Zs (by decide) A_b56b8b15 E_b56b8b15) eT pd_9 rfl (by rw [hml]; rfl) (by decide) 0 rfl (by decide) (by decide) (by decide) 190 rfl ?_
        intro T187 L9 v9 X hQ
        obtain ⟨rfl, N9, eT⟩ := hQ
        have N := Fr.app N N9
        show Go p e below _ T187 (mkF m 190 #[.val (.int p1), .val (.int p2), .val (.int p3), .val (.int p4), .val (.int p5), .val (.ref b0), .val (.int (3 : Int32)), .val (.ref b56b8b15)] [(.int (f11 (7 : Int32) (3 : Int32) p2 p3 p5 ar56))])
        have c190 : ¬ (f11 (7 : Int32) (3 : Int32) p2 p3 p5 ar56) = (0 : Int32) := own_okb _ _ _ _ _ (0 : Int32) _ (by decide) (by decide) (by decide) (by rw [← ear56]; refine (own_cpi (own_ck h3.2 (by decide) (Nat.lt_of_lt_of_le (by decide) h3.1) (by decide))).trans ?_; rw [← ear39]; exact w7)
        refine own_if_eq X hx hby at_190 197 193 (by decide) rfl (fun q => absurd q c190) (fun _ => ?_)
        refine own_iconst X hx hby (1 : Int32) at_193 rfl 194 rfl ?_
        refine own_goto X hx hby at_194 198 (by decide) ?_
        refine own_retN X hx hby hret hlk (t := .boolean) (z' := (1 : Int32)) (by simp) at_198 (by decide) (by decide) rfl ?_
        rw [eT]
        exact ⟨rfl, N⟩
    · skip
      refine own_aload X hx hby (.ref b0) at_33 rfl rfl 35 rfl ?_
      refine own_iload X hx hby (4 : Int32) at_35 rfl 37 rfl ?_
      refine own_iload X hx hby p5 at_37 rfl 39 rfl ?_
      refine own_callV X hx hby hZ (st := []) [(.int (4 : Int32)), (.int p5)] rfl hown (hw _ (List.mem_of_getElem? (i := 39) rfl)) (hw _ (List.mem_of_getElem? (i := 40) rfl)) (hw _ (List.mem_of_getElem? (i := 42) rfl)) (hw _ (List.mem_of_getElem? (i := 41) rfl)) (hw _ (List.mem_of_getElem? (i := 2) rfl)) (hw _ (List.mem_of_getElem? (i := 43) rfl)) E_b0 (by decide) at_39 (rm8_4 l Z a0 hw b0 p5 b8b6 ar22 n3 (8 : Int32) h22 n0 Zs h3.1 A_b8b6 E_b8b6 g_b8b6 E_b0 F_bytes_b0 F_length_b0 g_b0) eT pd_6 rfl (by rw [hml]; rfl) (by decide) 0 rfl (by decide) (by decide) (by decide) 42 rfl ?_
      intro T39 L9 v9 X hQ
      obtain ⟨h39, eT⟩ : ∃ z, T39.heap = z := ⟨_, rfl⟩
      rw [eT] at hQ
      obtain ⟨rfl, N9, Kc, A_b8b6, E_b8b6⟩ := hQ
      have E_b0 := E_b0.keep Kc
      have F_bytes_b0 := F_bytes_b0.keep Kc (ninS ne_b0_b8b6 nin0)
      have F_length_b0 := F_length_b0.keep Kc (ninS ne_b0_b8b6 nin0)
      obtain ⟨ar39, ear39⟩ : ∃ z : Nat → Int32, (updI (updI (updI (updI ar22 4 (nar .byte (((p5.toUInt32 >>> ((24 : Int32) &&& 31).toUInt32).toInt32).toInt8.toInt32))) 5 (nar .byte (((p5.toUInt32 >>> ((16 : Int32) &&& 31).toUInt32).toInt32).toInt8.toInt32))) 6 (nar .byte (((p5.toUInt32 >>> ((8 : Int32) &&& 31).toUInt32).toInt32).toInt8.toInt32))) 7 (nar .byte (((p5.toUInt32 >>> ((0 : Int32) &&& 31).toUInt32).toInt32).toInt8.toInt32))) = z := ⟨_, rfl⟩
      rw [ear39] at A_b8b6
      have K := K.trans Kc (allS (Or.inr sz_b8b6) all0)
      have Zs := Nat.le_trans Zs Kc.1
      have N := Fr.app N N9
      show Go p e below _ T39 (mkF m 42 #[.val (.int p1), .val (.int p2), .val (.int p3), .val (.int p4), .val (.int p5), .val (.ref b0), .val (.int (4 : Int32)), .unset] [])
      refine own_aload X hx hby (.ref b0) at_42 rfl rfl 44 rfl ?_
      refine own_callV X hx hby hZ (st := []) [] rfl hown (hw _ (List.mem_of_getElem? (i := 44) rfl)) (hw _ (List.mem_of_getElem? (i := 45) rfl)) (hw _ (List.mem_of_getElem? (i := 47) rfl)) (hw _ (List.mem_of_getElem? (i := 46) rfl)) (hw _ (List.mem_of_getElem? (i := 2) rfl)) (hw _ (List.mem_of_getElem? (i := 48) rfl)) E_b0 (by decide) at_44 (rm9 l Z a0 hw b0 h39 n0 Zs F_length_b0) eT pd_0 rfl (by rw [hml]; rfl) (by decide) 0 rfl (by decide) (by decide) (by decide) 47 rfl ?_
      intro T44 L9 v9 X hQ
      obtain ⟨rfl, N9, eT⟩ := hQ
      have N := Fr.app N N9
      show Go p e below _ T44 (mkF m 47 #[.val (.int p1), .val (.int p2), .val (.int p3), .val (.int p4), .val (.int p5), .val (.ref b0), .val (.int (4 : Int32)), .unset] [(.int (8 : Int32))])
      refine own_bipush X hx hby (8 : Int32) at_47 rfl 49 rfl ?_
      have c49 : (8 : Int32) = (8 : Int32) := by decide
      refine own_icmp_eq X hx hby at_49 54 52 (by decide) rfl (fun _ => ?_) (fun q => absurd c49 q)
      refine own_aload X hx hby (.ref b0) at_54 rfl rfl 56 rfl ?_
      by_cases q8 : n3 = 8
      · skip
        subst q8
        refine own_callV X hx hby hZ (st := []) [] rfl hown (hw _ (List.mem_of_getElem? (i := 49) rfl)) (hw _ (List.mem_of_getElem? (i := 50) rfl)) (hw _ (List.mem_of_getElem? (i := 52) rfl)) (hw _ (List.mem_of_getElem? (i := 51) rfl)) (hw _ (List.mem_of_getElem? (i := 2) rfl)) (hw _ (List.mem_of_getElem? (i := 53) rfl)) E_b0 (by decide) at_56 (rm10_c l Z a0 hw b0 b8b6 ar39 h39 n0 Zs A_b8b6 E_b8b6 F_bytes_b0 F_length_b0) eT pd_3 rfl (by rw [hml]; rfl) (by decide) 0 rfl (by decide) (by decide) (by decide) 59 rfl ?_
        intro T56 L9 v9 X hQ
        obtain ⟨h56, eT⟩ : ∃ z, T56.heap = z := ⟨_, rfl⟩
        rw [eT] at hQ
        have lt_b0 := E_b0.lt
        have lt_b8b6 := A_b8b6.lt
        obtain ⟨b56b8b7, rfl, N9, Kc, hs_b56b8b7, A_b56b8b7, E_b56b8b7⟩ := hQ
        have g_b56b8b7 : n0 ≤ b56b8b7 := Nat.le_trans Zs hs_b56b8b7
        have sz_b56b8b7 : h0.size ≤ b56b8b7 := Nat.le_trans K.1 hs_b56b8b7
        have ne_b0_b56b8b7 : b0 ≠ b56b8b7 := Nat.ne_of_lt (Nat.lt_of_lt_of_le lt_b0 hs_b56b8b7)
        have ne_b8b6_b56b8b7 : b8b6 ≠ b56b8b7 := Nat.ne_of_lt (Nat.lt_of_lt_of_le lt_b8b6 hs_b56b8b7)
        have E_b0 := E_b0.keep Kc
        have F_bytes_b0 := F_bytes_b0.keep Kc nin0
        have F_length_b0 := F_length_b0.keep Kc nin0
        have A_b8b6 := A_b8b6.keep Kc nin0
        have E_b8b6 := E_b8b6.keep Kc
        have K := K.trans Kc all0
        have Zs := Nat.le_trans Zs Kc.1
        have N := Fr.app N N9
        show Go p e below _ T56 (mkF m 59 #[.val (.int p1), .val (.int p2), .val (.int p3), .val (.int p4), .val (.int p5), .val (.ref b0), .val (.int (4 : Int32)), .unset] [(.ref b56b8b7)])
        refine own_astore X hx hby at_59 rfl (l' := #[.val (.int p1), .val (.int p2), .val (.int p3), .val (.int p4), .val (.int p5), .val (.ref b0), .val (.int (4 : Int32)), .val (.ref b56b8b7)]) rfl 61 rfl ?_
        refine own_aload X hx hby (.ref b56b8b7) at_61 rfl rfl 63 rfl ?_
        refine own_arraylength X hx hby hZ (8 : Int32) eT A_b56b8b7 rfl at_63 64 rfl ?_
        refine own_bipush X hx hby (8 : Int32) at_64 rfl 66 rfl ?_
        have c66 : (8 : Int32) = (8 : Int32) := by decide
        refine own_icmp_eq X hx hby at_66 71 69 (by decide) rfl (fun _ => ?_) (fun q => absurd c66 q)
        refine own_aload X hx hby (.ref b56b8b7) at_71 rfl rfl 73 rfl ?_
        refine own_iconst X hx hby (0 : Int32) at_73 rfl 74 rfl ?_
        refine own_iload X hx hby (4 : Int32) at_74 rfl 76 rfl ?_
        refine own_iloadN X hx hby p2 at_76 rfl 77 rfl ?_
        refine own_iloadN X hx hby p3 at_77 rfl 78 rfl ?_
        refine own_iload X hx hby p5 at_78 rfl 80 rfl ?_
        refine own_callS X hx hby hZ (st := []) [(.ref b56b8b7), (.int (0 : Int32)), (.int (4 : Int32)), (.int p2), (.int p3), (.int p5)] rfl hown (hw _ (List.mem_of_getElem? (i := 63) rfl)) (hw _ (List.mem_of_getElem? (i := 64) rfl)) (hw _ (List.mem_of_getElem? (i := 65) rfl)) (hw _ (List.mem_of_getElem? (i := 66) rfl)) (by decide) at_80 (rm11 l Z a0 hw b56b8b7 (0 : Int32) (4 : Int32) p2 p3 p5 ar39 h56 n0 Zs (by decide) A_b56b8b7 E_b56b8b7) eT pd_9 rfl (by rw [hml]; rfl) (by decide) 0 rfl (by decide) (by decide) (by decide) 83 rfl ?_
        intro T80 L9 v9 X hQ
        obtain ⟨rfl, N9, eT⟩ := hQ
        have N := Fr.app N N9
        show Go p e below _ T80 (mkF m 83 #[.val (.int p1), .val (.int p2), .val (.int p3), .val (.int p4), .val (.int p5), .val (.ref b0), .val (.int (4 : Int32)), .val (.ref b56b8b7)] [(.int (f11 (0 : Int32) (4 : Int32) p2 p3 p5 ar39))])
        have c83 : ¬ (f11 (0 : Int32) (4 : Int32) p2 p3 p5 ar39) = (0 : Int32) := own_oka _ _ _ _ _ (24 : Int32) _ (by decide) (by decide) (by decide) (by rw [← ear39]; exact w0)
        refine own_if_eq X hx hby at_83 197 86 (by decide) rfl (fun q => absurd q c83) (fun _ => ?_)
        refine own_aload X hx hby (.ref b56b8b7) at_86 rfl rfl 88 rfl ?_
        refine own_iconst X hx hby (1 : Int32) at_88 rfl 89 rfl ?_
        refine own_iload X hx hby (4 : Int32) at_89 rfl 91 rfl ?_
        refine own_iloadN X hx hby p2 at_91 rfl 92 rfl ?_
        refine own_iloadN X hx hby p3 at_92 rfl 93 rfl ?_
        refine own_iload X hx hby p5 at_93 rfl 95 rfl ?_
        refine own_callS X hx hby hZ (st := []) [(.ref b56b8b7), (.int (1 : Int32)), (.int (4 : Int32)), (.int p2), (.int p3), (.int p5)] rfl hown (hw _ (List.mem_of_getElem? (i := 63) rfl)) (hw _ (List.mem_of_getElem? (i := 64) rfl)) (hw _ (List.mem_of_getElem? (i := 65) rfl)) (hw _ (List.mem_of_getElem? (i := 66) rfl)) (by decide) at_95 (rm11 l Z a0 hw b56b8b7 (1 : Int32) (4 : Int32) p2 p3 p5 ar39 h56 n0 Zs (by decide) A_b56b8b7 E_b56b8b7) eT pd_9 rfl (by rw [hml]; rfl) (by decide) 0 rfl (by decide) (by decide) (by decide) 98 rfl ?_
        intro T95 L9 v9 X hQ
        obtain ⟨rfl, N9, eT⟩ := hQ
        have N := Fr.app N N9
        show Go p e below _ T95 (mkF m 98 #[.val (.int p1), .val (.int p2), .val (.int p3), .val (.int p4), .val (.int p5), .val (.ref b0), .val (.int (4 : Int32)), .val (.ref b56b8b7)] [(.int (f11 (1 : Int32) (4 : Int32) p2 p3 p5 ar39))])
        have c98 : ¬ (f11 (1 : Int32) (4 : Int32) p2 p3 p5 ar39) = (0 : Int32) := own_oka _ _ _ _ _ (16 : Int32) _ (by decide) (by decide) (by decide) (by rw [← ear39]; exact w1)
        refine own_if_eq X hx hby at_98 197 101 (by decide) rfl (fun q => absurd q c98) (fun _ => ?_)
        refine own_aload X hx hby (.ref b56b8b7) at_101 rfl rfl 103 rfl ?_
        refine own_iconst X hx hby (2 : Int32) at_103 rfl 104 rfl ?_
        refine own_iload X hx hby (4 : Int32) at_104 rfl 106 rfl ?_
        refine own_iloadN X hx hby p2 at_106 rfl 107 rfl ?_
        refine own_iloadN X hx hby p3 at_107 rfl 108 rfl ?_
        refine own_iload X hx hby p5 at_108 rfl 110 rfl ?_
        refine own_callS X hx hby hZ (st := []) [(.ref b56b8b7), (.int (2 : Int32)), (.int (4 : Int32)), (.int p2), (.int p3), (.int p5)] rfl hown (hw _ (List.mem_of_getElem? (i := 63) rfl)) (hw _ (List.mem_of_getElem? (i := 64) rfl)) (hw _ (List.mem_of_getElem? (i := 65) rfl)) (hw _ (List.mem_of_getElem? (i := 66) rfl)) (by decide) at_110 (rm11 l Z a0 hw b56b8b7 (2 : Int32) (4 : Int32) p2 p3 p5 ar39 h56 n0 Zs (by decide) A_b56b8b7 E_b56b8b7) eT pd_9 rfl (by rw [hml]; rfl) (by decide) 0 rfl (by decide) (by decide) (by decide) 113 rfl ?_
        intro T110 L9 v9 X hQ
        obtain ⟨rfl, N9, eT⟩ := hQ
        have N := Fr.app N N9
        show Go p e below _ T110 (mkF m 113 #[.val (.int p1), .val (.int p2), .val (.int p3), .val (.int p4), .val (.int p5), .val (.ref b0), .val (.int (4 : Int32)), .val (.ref b56b8b7)] [(.int (f11 (2 : Int32) (4 : Int32) p2 p3 p5 ar39))])
        have c113 : ¬ (f11 (2 : Int32) (4 : Int32) p2 p3 p5 ar39) = (0 : Int32) := own_oka _ _ _ _ _ (8 : Int32) _ (by decide) (by decide) (by decide) (by rw [← ear39]; exact w2)
        refine own_if_eq X hx hby at_113 197 116 (by decide) rfl (fun q => absurd q c113) (fun _ => ?_)
        refine own_aload X hx hby (.ref b56b8b7) at_116 rfl rfl 118 rfl ?_
        refine own_iconst X hx hby (3 : Int32) at_118 rfl 119 rfl ?_
        refine own_iload X hx hby (4 : Int32) at_119 rfl 121 rfl ?_
        refine own_iloadN X hx hby p2 at_121 rfl 122 rfl ?_
        refine own_iloadN X hx hby p3 at_122 rfl 123 rfl ?_
        refine own_iload X hx hby p5 at_123 rfl 125 rfl ?_
        refine own_callS X hx hby hZ (st := []) [(.ref b56b8b7), (.int (3 : Int32)), (.int (4 : Int32)), (.int p2), (.int p3), (.int p5)] rfl hown (hw _ (List.mem_of_getElem? (i := 63) rfl)) (hw _ (List.mem_of_getElem? (i := 64) rfl)) (hw _ (List.mem_of_getElem? (i := 65) rfl)) (hw _ (List.mem_of_getElem? (i := 66) rfl)) (by decide) at_125 (rm11 l Z a0 hw b56b8b7 (3 : Int32) (4 : Int32) p2 p3 p5 ar39 h56 n0 Zs (by decide) A_b56b8b7 E_b56b8b7) eT pd_9 rfl (by rw [hml]; rfl) (by decide) 0 rfl (by decide) (by decide) (by decide) 128 rfl ?_
        intro T125 L9 v9 X hQ
        obtain ⟨rfl, N9, eT⟩ := hQ
        have N := Fr.app N N9
        show Go p e below _ T125 (mkF m 128 #[.val (.int p1), .val (.int p2), .val (.int p3), .val (.int p4), .val (.int p5), .val (.ref b0), .val (.int (4 : Int32)), .val (.ref b56b8b7)] [(.int (f11 (3 : Int32) (4 : Int32) p2 p3 p5 ar39))])
        have c128 : ¬ (f11 (3 : Int32) (4 : Int32) p2 p3 p5 ar39) = (0 : Int32) := own_oka _ _ _ _ _ (0 : Int32) _ (by decide) (by decide) (by decide) (by rw [← ear39]; exact w3)
        refine own_if_eq X hx hby at_128 197 131 (by decide) rfl (fun q => absurd q c128) (fun _ => ?_)
        refine own_aload X hx hby (.ref b56b8b7) at_131 rfl rfl 133 rfl ?_
        refine own_iconst X hx hby (4 : Int32) at_133 rfl 134 rfl ?_
        refine own_iload X hx hby (4 : Int32) at_134 rfl 136 rfl ?_
        refine own_iloadN X hx hby p2 at_136 rfl 137 rfl ?_
        refine own_iloadN X hx hby p3 at_137 rfl 138 rfl ?_
        refine own_iload X hx hby p5 at_138 rfl 140 rfl ?_
        refine own_callS X hx hby hZ (st := []) [(.ref b56b8b7), (.int (4 : Int32)), (.int (4 : Int32)), (.int p2), (.int p3), (.int p5)] rfl hown (hw _ (List.mem_of_getElem? (i := 63) rfl)) (hw _ (List.mem_of_getElem? (i := 64) rfl)) (hw _ (List.mem_of_getElem? (i := 65) rfl)) (hw _ (List.mem_of_getElem? (i := 66) rfl)) (by decide) at_140 (rm11 l Z a0 hw b56b8b7 (4 : Int32) (4 : Int32) p2 p3 p5 ar39 h56 n0 Zs (by decide) A_b56b8b7 E_b56b8b7) eT pd_9 rfl (by rw [hml]; rfl) (by decide) 0 rfl (by decide) (by decide) (by decide) 143 rfl ?_
        intro T140 L9 v9 X hQ
        obtain ⟨rfl, N9, eT⟩ := hQ
        have N := Fr.app N N9
        show Go p e below _ T140 (mkF m 143 #[.val (.int p1), .val (.int p2), .val (.int p3), .val (.int p4), .val (.int p5), .val (.ref b0), .val (.int (4 : Int32)), .val (.ref b56b8b7)] [(.int (f11 (4 : Int32) (4 : Int32) p2 p3 p5 ar39))])
        have c143 : ¬ (f11 (4 : Int32) (4 : Int32) p2 p3 p5 ar39) = (0 : Int32) := own_okv _ _ _ _ _ (24 : Int32) _ (by decide) (by decide) (by decide) (by rw [← ear39]; rfl)
        refine own_if_eq X hx hby at_143 197 146 (by decide) rfl (fun q => absurd q c143) (fun _ => ?_)
        refine own_aload X hx hby (.ref b56b8b7) at_146 rfl rfl 148 rfl ?_
        refine own_iconst X hx hby (5 : Int32) at_148 rfl 149 rfl ?_
        refine own_iload X hx hby (4 : Int32) at_149 rfl 151 rfl ?_
        refine own_iloadN X hx hby p2 at_151 rfl 152 rfl ?_
        refine own_iloadN X hx hby p3 at_152 rfl 153 rfl ?_
        refine own_iload X hx hby p5 at_153 rfl 155 rfl ?_
        refine own_callS X hx hby hZ (st := []) [(.ref b56b8b7), (.int (5 : Int32)), (.int (4 : Int32)), (.int p2), (.int p3), (.int p5)] rfl hown (hw _ (List.mem_of_getElem? (i := 63) rfl)) (hw _ (List.mem_of_getElem? (i := 64) rfl)) (hw _ (List.mem_of_getElem? (i := 65) rfl)) (hw _ (List.mem_of_getElem? (i := 66) rfl)) (by decide) at_155 (rm11 l Z a0 hw b56b8b7 (5 : Int32) (4 : Int32) p2 p3 p5 ar39 h56 n0 Zs (by decide) A_b56b8b7 E_b56b8b7) eT pd_9 rfl (by rw [hml]; rfl) (by decide) 0 rfl (by decide) (by decide) (by decide) 158 rfl ?_
        intro T155 L9 v9 X hQ
        obtain ⟨rfl, N9, eT⟩ := hQ
        have N := Fr.app N N9
        show Go p e below _ T155 (mkF m 158 #[.val (.int p1), .val (.int p2), .val (.int p3), .val (.int p4), .val (.int p5), .val (.ref b0), .val (.int (4 : Int32)), .val (.ref b56b8b7)] [(.int (f11 (5 : Int32) (4 : Int32) p2 p3 p5 ar39))])
        have c158 : ¬ (f11 (5 : Int32) (4 : Int32) p2 p3 p5 ar39) = (0 : Int32) := own_okv _ _ _ _ _ (16 : Int32) _ (by decide) (by decide) (by decide) (by rw [← ear39]; rfl)
        refine own_if_eq X hx hby at_158 197 161 (by decide) rfl (fun q => absurd q c158) (fun _ => ?_)
        refine own_aload X hx hby (.ref b56b8b7) at_161 rfl rfl 163 rfl ?_
        refine own_bipush X hx hby (6 : Int32) at_163 rfl 165 rfl ?_
        refine own_iload X hx hby (4 : Int32) at_165 rfl 167 rfl ?_
        refine own_iloadN X hx hby p2 at_167 rfl 168 rfl ?_
        refine own_iloadN X hx hby p3 at_168 rfl 169 rfl ?_
        refine own_iload X hx hby p5 at_169 rfl 171 rfl ?_
        refine own_callS X hx hby hZ (st := []) [(.ref b56b8b7), (.int (6 : Int32)), (.int (4 : Int32)), (.int p2), (.int p3), (.int p5)] rfl hown (hw _ (List.mem_of_getElem? (i := 63) rfl)) (hw _ (List.mem_of_getElem? (i := 64) rfl)) (hw _ (List.mem_of_getElem? (i := 65) rfl)) (hw _ (List.mem_of_getElem? (i := 66) rfl)) (by decide) at_171 (rm11 l Z a0 hw b56b8b7 (6 : Int32) (4 : Int32) p2 p3 p5 ar39 h56 n0 Zs (by decide) A_b56b8b7 E_b56b8b7) eT pd_9 rfl (by rw [hml]; rfl) (by decide) 0 rfl (by decide) (by decide) (by decide) 174 rfl ?_
        intro T171 L9 v9 X hQ
        obtain ⟨rfl, N9, eT⟩ := hQ
        have N := Fr.app N N9
        show Go p e below _ T171 (mkF m 174 #[.val (.int p1), .val (.int p2), .val (.int p3), .val (.int p4), .val (.int p5), .val (.ref b0), .val (.int (4 : Int32)), .val (.ref b56b8b7)] [(.int (f11 (6 : Int32) (4 : Int32) p2 p3 p5 ar39))])
        have c174 : ¬ (f11 (6 : Int32) (4 : Int32) p2 p3 p5 ar39) = (0 : Int32) := own_okv _ _ _ _ _ (8 : Int32) _ (by decide) (by decide) (by decide) (by rw [← ear39]; rfl)
        refine own_if_eq X hx hby at_174 197 177 (by decide) rfl (fun q => absurd q c174) (fun _ => ?_)
        refine own_aload X hx hby (.ref b56b8b7) at_177 rfl rfl 179 rfl ?_
        refine own_bipush X hx hby (7 : Int32) at_179 rfl 181 rfl ?_
        refine own_iload X hx hby (4 : Int32) at_181 rfl 183 rfl ?_
        refine own_iloadN X hx hby p2 at_183 rfl 184 rfl ?_
        refine own_iloadN X hx hby p3 at_184 rfl 185 rfl ?_
        refine own_iload X hx hby p5 at_185 rfl 187 rfl ?_
        refine own_callS X hx hby hZ (st := []) [(.ref b56b8b7), (.int (7 : Int32)), (.int (4 : Int32)), (.int p2), (.int p3), (.int p5)] rfl hown (hw _ (List.mem_of_getElem? (i := 63) rfl)) (hw _ (List.mem_of_getElem? (i := 64) rfl)) (hw _ (List.mem_of_getElem? (i := 65) rfl)) (hw _ (List.mem_of_getElem? (i := 66) rfl)) (by decide) at_187 (rm11 l Z a0 hw b56b8b7 (7 : Int32) (4 : Int32) p2 p3 p5 ar39 h56 n0 Zs (by decide) A_b56b8b7 E_b56b8b7) eT pd_9 rfl (by rw [hml]; rfl) (by decide) 0 rfl (by decide) (by decide) (by decide) 190 rfl ?_
        intro T187 L9 v9 X hQ
        obtain ⟨rfl, N9, eT⟩ := hQ
        have N := Fr.app N N9
        show Go p e below _ T187 (mkF m 190 #[.val (.int p1), .val (.int p2), .val (.int p3), .val (.int p4), .val (.int p5), .val (.ref b0), .val (.int (4 : Int32)), .val (.ref b56b8b7)] [(.int (f11 (7 : Int32) (4 : Int32) p2 p3 p5 ar39))])
        have c190 : ¬ (f11 (7 : Int32) (4 : Int32) p2 p3 p5 ar39) = (0 : Int32) := own_okv _ _ _ _ _ (0 : Int32) _ (by decide) (by decide) (by decide) (by rw [← ear39]; rfl)
        refine own_if_eq X hx hby at_190 197 193 (by decide) rfl (fun q => absurd q c190) (fun _ => ?_)
        refine own_iconst X hx hby (1 : Int32) at_193 rfl 194 rfl ?_
        refine own_goto X hx hby at_194 198 (by decide) ?_
        refine own_retN X hx hby hret hlk (t := .boolean) (z' := (1 : Int32)) (by simp) at_198 (by decide) (by decide) rfl ?_
        rw [eT]
        exact ⟨rfl, N⟩
      · skip
        refine own_callV X hx hby hZ (st := []) [] rfl hown (hw _ (List.mem_of_getElem? (i := 49) rfl)) (hw _ (List.mem_of_getElem? (i := 50) rfl)) (hw _ (List.mem_of_getElem? (i := 52) rfl)) (hw _ (List.mem_of_getElem? (i := 51) rfl)) (hw _ (List.mem_of_getElem? (i := 2) rfl)) (hw _ (List.mem_of_getElem? (i := 53) rfl)) E_b0 (by decide) at_56 (rm10_n l Z a0 hw b0 b8b6 ar39 n3 h39 n0 Zs (own_n8 q8 h3.2) h3.2 A_b8b6 E_b8b6 F_bytes_b0 F_length_b0) eT pd_3 rfl (by rw [hml]; rfl) (by decide) 0 rfl (by decide) (by decide) (by decide) 59 rfl ?_
        intro T56 L9 v9 X hQ
        obtain ⟨h56, eT⟩ : ∃ z, T56.heap = z := ⟨_, rfl⟩
        rw [eT] at hQ
        have lt_b0 := E_b0.lt
        have lt_b8b6 := A_b8b6.lt
        obtain ⟨b56b8b15, rfl, N9, Kc, hs_b56b8b15, A_b56b8b15, E_b56b8b15⟩ := hQ
        have g_b56b8b15 : n0 ≤ b56b8b15 := Nat.le_trans Zs hs_b56b8b15
        have sz_b56b8b15 : h0.size ≤ b56b8b15 := Nat.le_trans K.1 hs_b56b8b15
        have ne_b0_b56b8b15 : b0 ≠ b56b8b15 := Nat.ne_of_lt (Nat.lt_of_lt_of_le lt_b0 hs_b56b8b15)
        have ne_b8b6_b56b8b15 : b8b6 ≠ b56b8b15 := Nat.ne_of_lt (Nat.lt_of_lt_of_le lt_b8b6 hs_b56b8b15)
        have E_b0 := E_b0.keep Kc
        have F_bytes_b0 := F_bytes_b0.keep Kc nin0
        have F_length_b0 := F_length_b0.keep Kc nin0
        have A_b8b6 := A_b8b6.keep Kc nin0
        have E_b8b6 := E_b8b6.keep Kc
        obtain ⟨ar56, ear56⟩ : ∃ z : Nat → Int32, (own_cp ar39 (Int32.toNatClampNeg (f7 (Int32.ofNat n3) (8 : Int32)))) = z := ⟨_, rfl⟩
        rw [ear56] at A_b56b8b15
        have K := K.trans Kc all0
        have Zs := Nat.le_trans Zs Kc.1
        have N := Fr.app N N9
        show Go p e below _ T56 (mkF m 59 #[.val (.int p1), .val (.int p2), .val (.int p3), .val (.int p4), .val (.int p5), .val (.ref b0), .val (.int (4 : Int32)), .unset] [(.ref b56b8b15)])
        refine own_astore X hx hby at_59 rfl (l' := #[.val (.int p1), .val (.int p2), .val (.int p3), .val (.int p4), .val (.int p5), .val (.ref b0), .val (.int (4 : Int32)), .val (.ref b56b8b15)]) rfl 61 rfl ?_
        refine own_aload X hx hby (.ref b56b8b15) at_61 rfl rfl 63 rfl ?_
        refine own_arraylength X hx hby hZ (8 : Int32) eT A_b56b8b15 rfl at_63 64 rfl ?_
        refine own_bipush X hx hby (8 : Int32) at_64 rfl 66 rfl ?_
        have c66 : (8 : Int32) = (8 : Int32) := by decide
        refine own_icmp_eq X hx hby at_66 71 69 (by decide) rfl (fun _ => ?_) (fun q => absurd c66 q)
        refine own_aload X hx hby (.ref b56b8b15) at_71 rfl rfl 73 rfl ?_
        refine own_iconst X hx hby (0 : Int32) at_73 rfl 74 rfl ?_
        refine own_iload X hx hby (4 : Int32) at_74 rfl 76 rfl ?_
        refine own_iloadN X hx hby p2 at_76 rfl 77 rfl ?_
        refine own_iloadN X hx hby p3 at_77 rfl 78 rfl ?_
        refine own_iload X hx hby p5 at_78 rfl 80 rfl ?_
        refine own_callS X hx hby hZ (st := []) [(.ref b56b8b15), (.int (0 : Int32)), (.int (4 : Int32)), (.int p2), (.int p3), (.int p5)] rfl hown (hw _ (List.mem_of_getElem? (i := 63) rfl)) (hw _ (List.mem_of_getElem? (i := 64) rfl)) (hw _ (List.mem_of_getElem? (i := 65) rfl)) (hw _ (List.mem_of_getElem? (i := 66) rfl)) (by decide) at_80 (rm11 l Z a0 hw b56b8b15 (0 : Int32) (4 : Int32) p2 p3 p5 ar56 h56 n0 Zs (by decide) A_b56b8b15 E_b56b8b15) eT pd_9 rfl (by rw [hml]; rfl) (by decide) 0 rfl (by decide) (by decide) (by decide) 83 rfl ?_
        intro T80 L9 v9 X hQ
        obtain ⟨rfl, N9, eT⟩ := hQ
        have N := Fr.app N N9
        show Go p e below _ T80 (mkF m 83 #[.val (.int p1), .val (.int p2), .val (.int p3), .val (.int p4), .val (.int p5), .val (.ref b0), .val (.int (4 : Int32)), .val (.ref b56b8b15)] [(.int (f11 (0 : Int32) (4 : Int32) p2 p3 p5 ar56))])
        have c83 : ¬ (f11 (0 : Int32) (4 : Int32) p2 p3 p5 ar56) = (0 : Int32) := own_oka _ _ _ _ _ (24 : Int32) _ (by decide) (by decide) (by decide) (by rw [← ear56]; refine (own_cpi (own_ck h3.2 (by decide) (Nat.lt_of_lt_of_le (by decide) h3.1) (by decide))).trans ?_; rw [← ear39]; exact w0)
        refine own_if_eq X hx hby at_83 197 86 (by decide) rfl (fun q => absurd q c83) (fun _ => ?_)
        refine own_aload X hx hby (.ref b56b8b15) at_86 rfl rfl 88 rfl ?_
        refine own_iconst X hx hby (1 : Int32) at_88 rfl 89 rfl ?_
        refine own_iload X hx hby (4 : Int32) at_89 rfl 91 rfl ?_
        refine own_iloadN X hx hby p2 at_91 rfl 92 rfl ?_
        refine own_iloadN X hx hby p3 at_92 rfl 93 rfl ?_
        refine own_iload X hx hby p5 at_93 rfl 95 rfl ?_
        refine own_callS X hx hby hZ (st := []) [(.ref b56b8b15), (.int (1 : Int32)), (.int (4 : Int32)), (.int p2), (.int p3), (.int p5)] rfl hown (hw _ (List.mem_of_getElem? (i := 63) rfl)) (hw _ (List.mem_of_getElem? (i := 64) rfl)) (hw _ (List.mem_of_getElem? (i := 65) rfl)) (hw _ (List.mem_of_getElem? (i := 66) rfl)) (by decide) at_95 (rm11 l Z a0 hw b56b8b15 (1 : Int32) (4 : Int32) p2 p3 p5 ar56 h56 n0 Zs (by decide) A_b56b8b15 E_b56b8b15) eT pd_9 rfl (by rw [hml]; rfl) (by decide) 0 rfl (by decide) (by decide) (by decide) 98 rfl ?_
        intro T95 L9 v9 X hQ
        obtain ⟨rfl, N9, eT⟩ := hQ
        have N := Fr.app N N9
        show Go p e below _ T95 (mkF m 98 #[.val (.int p1), .val (.int p2), .val (.int p3), .val (.int p4), .val (.int p5), .val (.ref b0), .val (.int (4 : Int32)), .val (.ref b56b8b15)] [(.int (f11 (1 : Int32) (4 : Int32) p2 p3 p5 ar56))])
        have c98 : ¬ (f11 (1 : Int32) (4 : Int32) p2 p3 p5 ar56) = (0 : Int32) := own_oka _ _ _ _ _ (16 : Int32) _ (by decide) (by decide) (by decide) (by rw [← ear56]; refine (own_cpi (own_ck h3.2 (by decide) (Nat.lt_of_lt_of_le (by decide) h3.1) (by decide))).trans ?_; rw [← ear39]; exact w1)
        refine own_if_eq X hx hby at_98 197 101 (by decide) rfl (fun q => absurd q c98) (fun _ => ?_)
        refine own_aload X hx hby (.ref b56b8b15) at_101 rfl rfl 103 rfl ?_
        refine own_iconst X hx hby (2 : Int32) at_103 rfl 104 rfl ?_
        refine own_iload X hx hby (4 : Int32) at_104 rfl 106 rfl ?_
        refine own_iloadN X hx hby p2 at_106 rfl 107 rfl ?_
        refine own_iloadN X hx hby p3 at_107 rfl 108 rfl ?_
        refine own_iload X hx hby p5 at_108 rfl 110 rfl ?_
        refine own_callS X hx hby hZ (st := []) [(.ref b56b8b15), (.int (2 : Int32)), (.int (4 : Int32)), (.int p2), (.int p3), (.int p5)] rfl hown (hw _ (List.mem_of_getElem? (i := 63) rfl)) (hw _ (List.mem_of_getElem? (i := 64) rfl)) (hw _ (List.mem_of_getElem? (i := 65) rfl)) (hw _ (List.mem_of_getElem? (i := 66) rfl)) (by decide) at_110 (rm11 l Z a0 hw b56b8b15 (2 : Int32) (4 : Int32) p2 p3 p5 ar56 h56 n0 Zs (by decide) A_b56b8b15 E_b56b8b15) eT pd_9 rfl (by rw [hml]; rfl) (by decide) 0 rfl (by decide) (by decide) (by decide) 113 rfl ?_
        intro T110 L9 v9 X hQ
        obtain ⟨rfl, N9, eT⟩ := hQ
        have N := Fr.app N N9
        show Go p e below _ T110 (mkF m 113 #[.val (.int p1), .val (.int p2), .val (.int p3), .val (.int p4), .val (.int p5), .val (.ref b0), .val (.int (4 : Int32)), .val (.ref b56b8b15)] [(.int (f11 (2 : Int32) (4 : Int32) p2 p3 p5 ar56))])
        have c113 : ¬ (f11 (2 : Int32) (4 : Int32) p2 p3 p5 ar56) = (0 : Int32) := own_oka _ _ _ _ _ (8 : Int32) _ (by decide) (by decide) (by decide) (by rw [← ear56]; refine (own_cpi (own_ck h3.2 (by decide) (Nat.lt_of_lt_of_le (by decide) h3.1) (by decide))).trans ?_; rw [← ear39]; exact w2)
        refine own_if_eq X hx hby at_113 197 116 (by decide) rfl (fun q => absurd q c113) (fun _ => ?_)
        refine own_aload X hx hby (.ref b56b8b15) at_116 rfl rfl 118 rfl ?_
        refine own_iconst X hx hby (3 : Int32) at_118 rfl 119 rfl ?_
        refine own_iload X hx hby (4 : Int32) at_119 rfl 121 rfl ?_
        refine own_iloadN X hx hby p2 at_121 rfl 122 rfl ?_
        refine own_iloadN X hx hby p3 at_122 rfl 123 rfl ?_
        refine own_iload X hx hby p5 at_123 rfl 125 rfl ?_
        refine own_callS X hx hby hZ (st := []) [(.ref b56b8b15), (.int (3 : Int32)), (.int (4 : Int32)), (.int p2), (.int p3), (.int p5)] rfl hown (hw _ (List.mem_of_getElem? (i := 63) rfl)) (hw _ (List.mem_of_getElem? (i := 64) rfl)) (hw _ (List.mem_of_getElem? (i := 65) rfl)) (hw _ (List.mem_of_getElem? (i := 66) rfl)) (by decide) at_125 (rm11 l Z a0 hw b56b8b15 (3 : Int32) (4 : Int32) p2 p3 p5 ar56 h56 n0 Zs (by decide) A_b56b8b15 E_b56b8b15) eT pd_9 rfl (by rw [hml]; rfl) (by decide) 0 rfl (by decide) (by decide) (by decide) 128 rfl ?_
        intro T125 L9 v9 X hQ
        obtain ⟨rfl, N9, eT⟩ := hQ
        have N := Fr.app N N9
        show Go p e below _ T125 (mkF m 128 #[.val (.int p1), .val (.int p2), .val (.int p3), .val (.int p4), .val (.int p5), .val (.ref b0), .val (.int (4 : Int32)), .val (.ref b56b8b15)] [(.int (f11 (3 : Int32) (4 : Int32) p2 p3 p5 ar56))])
        have c128 : ¬ (f11 (3 : Int32) (4 : Int32) p2 p3 p5 ar56) = (0 : Int32) := own_oka _ _ _ _ _ (0 : Int32) _ (by decide) (by decide) (by decide) (by rw [← ear56]; refine (own_cpi (own_ck h3.2 (by decide) (Nat.lt_of_lt_of_le (by decide) h3.1) (by decide))).trans ?_; rw [← ear39]; exact w3)
        refine own_if_eq X hx hby at_128 197 131 (by decide) rfl (fun q => absurd q c128) (fun _ => ?_)
        refine own_aload X hx hby (.ref b56b8b15) at_131 rfl rfl 133 rfl ?_
        refine own_iconst X hx hby (4 : Int32) at_133 rfl 134 rfl ?_
        refine own_iload X hx hby (4 : Int32) at_134 rfl 136 rfl ?_
        refine own_iloadN X hx hby p2 at_136 rfl 137 rfl ?_
        refine own_iloadN X hx hby p3 at_137 rfl 138 rfl ?_
        refine own_iload X hx hby p5 at_138 rfl 140 rfl ?_
        refine own_callS X hx hby hZ (st := []) [(.ref b56b8b15), (.int (4 : Int32)), (.int (4 : Int32)), (.int p2), (.int p3), (.int p5)] rfl hown (hw _ (List.mem_of_getElem? (i := 63) rfl)) (hw _ (List.mem_of_getElem? (i := 64) rfl)) (hw _ (List.mem_of_getElem? (i := 65) rfl)) (hw _ (List.mem_of_getElem? (i := 66) rfl)) (by decide) at_140 (rm11 l Z a0 hw b56b8b15 (4 : Int32) (4 : Int32) p2 p3 p5 ar56 h56 n0 Zs (by decide) A_b56b8b15 E_b56b8b15) eT pd_9 rfl (by rw [hml]; rfl) (by decide) 0 rfl (by decide) (by decide) (by decide) 143 rfl ?_
        intro T140 L9 v9 X hQ
        obtain ⟨rfl, N9, eT⟩ := hQ
        have N := Fr.app N N9
        show Go p e below _ T140 (mkF m 143 #[.val (.int p1), .val (.int p2), .val (.int p3), .val (.int p4), .val (.int p5), .val (.ref b0), .val (.int (4 : Int32)), .val (.ref b56b8b15)] [(.int (f11 (4 : Int32) (4 : Int32) p2 p3 p5 ar56))])
        have c143 : ¬ (f11 (4 : Int32) (4 : Int32) p2 p3 p5 ar56) = (0 : Int32) := own_okv _ _ _ _ _ (24 : Int32) _ (by decide) (by decide) (by decide) (by rw [← ear56]; refine (own_cpi (own_ck h3.2 (by decide) (Nat.lt_of_lt_of_le (by decide) h3.1) (by decide))).trans ?_; rw [← ear39]; rfl)
        refine own_if_eq X hx hby at_143 197 146 (by decide) rfl (fun q => absurd q c143) (fun _ => ?_)
        refine own_aload X hx hby (.ref b56b8b15) at_146 rfl rfl 148 rfl ?_
        refine own_iconst X hx hby (5 : Int32) at_148 rfl 149 rfl ?_
        refine own_iload X hx hby (4 : Int32) at_149 rfl 151 rfl ?_
        refine own_iloadN X hx hby p2 at_151 rfl 152 rfl ?_
        refine own_iloadN X hx hby p3 at_152 rfl 153 rfl ?_
        refine own_iload X hx hby p5 at_153 rfl 155 rfl ?_
        refine own_callS X hx hby hZ (st := []) [(.ref b56b8b15), (.int (5 : Int32)), (.int (4 : Int32)), (.int p2), (.int p3), (.int p5)] rfl hown (hw _ (List.mem_of_getElem? (i := 63) rfl)) (hw _ (List.mem_of_getElem? (i := 64) rfl)) (hw _ (List.mem_of_getElem? (i := 65) rfl)) (hw _ (List.mem_of_getElem? (i := 66) rfl)) (by decide) at_155 (rm11 l Z a0 hw b56b8b15 (5 : Int32) (4 : Int32) p2 p3 p5 ar56 h56 n0 Zs (by decide) A_b56b8b15 E_b56b8b15) eT pd_9 rfl (by rw [hml]; rfl) (by decide) 0 rfl (by decide) (by decide) (by decide) 158 rfl ?_
        intro T155 L9 v9 X hQ
        obtain ⟨rfl, N9, eT⟩ := hQ
        have N := Fr.app N N9
        show Go p e below _ T155 (mkF m 158 #[.val (.int p1), .val (.int p2), .val (.int p3), .val (.int p4), .val (.int p5), .val (.ref b0), .val (.int (4 : Int32)), .val (.ref b56b8b15)] [(.int (f11 (5 : Int32) (4 : Int32) p2 p3 p5 ar56))])
        have c158 : ¬ (f11 (5 : Int32) (4 : Int32) p2 p3 p5 ar56) = (0 : Int32) := own_okv _ _ _ _ _ (16 : Int32) _ (by decide) (by decide) (by decide) (by rw [← ear56]; refine (own_cpi (own_ck h3.2 (by decide) (Nat.lt_of_lt_of_le (by decide) h3.1) (by decide))).trans ?_; rw [← ear39]; rfl)
        refine own_if_eq X hx hby at_158 197 161 (by decide) rfl (fun q => absurd q c158) (fun _ => ?_)
        refine own_aload X hx hby (.ref b56b8b15) at_161 rfl rfl 163 rfl ?_
        refine own_bipush X hx hby (6 : Int32) at_163 rfl 165 rfl ?_
        refine own_iload X hx hby (4 : Int32) at_165 rfl 167 rfl ?_
        refine own_iloadN X hx hby p2 at_167 rfl 168 rfl ?_
        refine own_iloadN X hx hby p3 at_168 rfl 169 rfl ?_
        refine own_iload X hx hby p5 at_169 rfl 171 rfl ?_
        refine own_callS X hx hby hZ (st := []) [(.ref b56b8b15), (.int (6 : Int32)), (.int (4 : Int32)), (.int p2), (.int p3), (.int p5)] rfl hown (hw _ (List.mem_of_getElem? (i := 63) rfl)) (hw _ (List.mem_of_getElem? (i := 64) rfl)) (hw _ (List.mem_of_getElem? (i := 65) rfl)) (hw _ (List.mem_of_getElem? (i := 66) rfl)) (by decide) at_171 (rm11 l Z a0 hw b56b8b15 (6 : Int32) (4 : Int32) p2 p3 p5 ar56 h56 n0 Zs (by decide) A_b56b8b15 E_b56b8b15) eT pd_9 rfl (by rw [hml]; rfl) (by decide) 0 rfl (by decide) (by decide) (by decide) 174 rfl ?_
        intro T171 L9 v9 X hQ
        obtain ⟨rfl, N9, eT⟩ := hQ
        have N := Fr.app N N9
        show Go p e below _ T171 (mkF m 174 #[.val (.int p1), .val (.int p2), .val (.int p3), .val (.int p4), .val (.int p5), .val (.ref b0), .val (.int (4 : Int32)), .val (.ref b56b8b15)] [(.int (f11 (6 : Int32) (4 : Int32) p2 p3 p5 ar56))])
        have c174 : ¬ (f11 (6 : Int32) (4 : Int32) p2 p3 p5 ar56) = (0 : Int32) := own_okv _ _ _ _ _ (8 : Int32) _ (by decide) (by decide) (by decide) (by rw [← ear56]; refine (own_cpi (own_ck h3.2 (by decide) (Nat.lt_of_lt_of_le (by decide) h3.1) (by decide))).trans ?_; rw [← ear39]; rfl)
        refine own_if_eq X hx hby at_174 197 177 (by decide) rfl (fun q => absurd q c174) (fun _ => ?_)
        refine own_aload X hx hby (.ref b56b8b15) at_177 rfl rfl 179 rfl ?_
        refine own_bipush X hx hby (7 : Int32) at_179 rfl 181 rfl ?_
        refine own_iload X hx hby (4 : Int32) at_181 rfl 183 rfl ?_
        refine own_iloadN X hx hby p2 at_183 rfl 184 rfl ?_
        refine own_iloadN X hx hby p3 at_184 rfl 185 rfl ?_
        refine own_iload X hx hby p5 at_185 rfl 187 rfl ?_
        refine own_callS X hx hby hZ (st := []) [(.ref b56b8b15), (.int (7 : Int32)), (.int (4 : Int32)), (.int p2), (.int p3), (.int p5)] rfl hown (hw _ (List.mem_of_getElem? (i := 63) rfl)) (hw _ (List.mem_of_getElem? (i := 64) rfl)) (hw _ (List.mem_of_getElem? (i := 65) rfl)) (hw _ (List.mem_of_getElem? (i := 66) rfl)) (by decide) at_187 (rm11 l Z a0 hw b56b8b15 (7 : Int32) (4 : Int32) p2 p3 p5 ar56 h56 n0 Zs (by decide) A_b56b8b15 E_b56b8b15) eT pd_9 rfl (by rw [hml]; rfl) (by decide) 0 rfl (by decide) (by decide) (by decide) 190 rfl ?_
        intro T187 L9 v9 X hQ
        obtain ⟨rfl, N9, eT⟩ := hQ
        have N := Fr.app N N9
        show Go p e below _ T187 (mkF m 190 #[.val (.int p1), .val (.int p2), .val (.int p3), .val (.int p4), .val (.int p5), .val (.ref b0), .val (.int (4 : Int32)), .val (.ref b56b8b15)] [(.int (f11 (7 : Int32) (4 : Int32) p2 p3 p5 ar56))])
        have c190 : ¬ (f11 (7 : Int32) (4 : Int32) p2 p3 p5 ar56) = (0 : Int32) := own_okv _ _ _ _ _ (0 : Int32) _ (by decide) (by decide) (by decide) (by rw [← ear56]; refine (own_cpi (own_ck h3.2 (by decide) (Nat.lt_of_lt_of_le (by decide) h3.1) (by decide))).trans ?_; rw [← ear39]; rfl)
        refine own_if_eq X hx hby at_190 197 193 (by decide) rfl (fun q => absurd q c190) (fun _ => ?_)
        refine own_iconst X hx hby (1 : Int32) at_193 rfl 194 rfl ?_
        refine own_goto X hx hby at_194 198 (by decide) ?_
        refine own_retN X hx hby hret hlk (t := .boolean) (z' := (1 : Int32)) (by simp) at_198 (by decide) (by decide) rfl ?_
        rw [eT]
        exact ⟨rfl, N⟩
  · skip
    refine own_aload X hx hby (.ref b0) at_13 rfl rfl 15 rfl ?_
    refine own_iloadN X hx hby p2 at_15 rfl 16 rfl ?_
    refine own_callV X hx hby hZ (st := []) [(.int p2)] rfl hown (hw _ (List.mem_of_getElem? (i := 12) rfl)) (hw _ (List.mem_of_getElem? (i := 13) rfl)) (hw _ (List.mem_of_getElem? (i := 15) rfl)) (hw _ (List.mem_of_getElem? (i := 14) rfl)) (hw _ (List.mem_of_getElem? (i := 2) rfl)) (hw _ (List.mem_of_getElem? (i := 16) rfl)) E_b0 (by decide) at_16 (rm3_0s l Z a0 hw b0 p2 b8b6 ar8 nn h8 n0 Zs k1 hnn A_b8b6 E_b8b6 g_b8b6 E_b0 F_bytes_b0 F_length_b0 g_b0) eT pd_4 rfl (by rw [hml]; rfl) (by decide) 0 rfl (by decide) (by decide) (by decide) 19 rfl ?_
    intro T16 L9 v9 X hQ
    obtain ⟨h16, eT⟩ : ∃ z, T16.heap = z := ⟨_, rfl⟩
    rw [eT] at hQ
    obtain ⟨rfl, N9, Kc, E_b0, F_bytes_b0, F_length_b0, A_b8b6, E_b8b6⟩ := hQ
    obtain ⟨ar16, ear16⟩ : ∃ z : Nat → Int32, (updI (updI (updI (updI ar8 0 (nar .byte (((p2.toUInt32 >>> ((24 : Int32) &&& 31).toUInt32).toInt32).toInt8.toInt32))) 1 (nar .byte (((p2.toUInt32 >>> ((16 : Int32) &&& 31).toUInt32).toInt32).toInt8.toInt32))) 2 (nar .byte (((p2.toUInt32 >>> ((8 : Int32) &&& 31).toUInt32).toInt32).toInt8.toInt32))) 3 (nar .byte (((p2.toUInt32 >>> ((0 : Int32) &&& 31).toUInt32).toInt32).toInt8.toInt32))) = z := ⟨_, rfl⟩
    rw [ear16] at A_b8b6
    have K := K.trans Kc (allS (Or.inr sz_b0) (allS (Or.inr sz_b8b6) all0))
    have Zs := Nat.le_trans Zs Kc.1
    have N := Fr.app N N9
    show Go p e below _ T16 (mkF m 19 #[.val (.int p1), .val (.int p2), .val (.int p3), .val (.int p4), .val (.int p5), .val (.ref b0), .unset, .unset] [])
    refine own_aload X hx hby (.ref b0) at_19 rfl rfl 21 rfl ?_
    refine own_iloadN X hx hby p3 at_21 rfl 22 rfl ?_
    refine own_callV X hx hby hZ (st := []) [(.int p3)] rfl hown (hw _ (List.mem_of_getElem? (i := 12) rfl)) (hw _ (List.mem_of_getElem? (i := 13) rfl)) (hw _ (List.mem_of_getElem? (i := 15) rfl)) (hw _ (List.mem_of_getElem? (i := 14) rfl)) (hw _ (List.mem_of_getElem? (i := 2) rfl)) (hw _ (List.mem_of_getElem? (i := 16) rfl)) E_b0 (by decide) at_22 (rm3_4g l Z a0 hw b0 p3 b8b6 ar16 nn h16 n0 Zs k2 k3 A_b8b6 E_b8b6 g_b8b6 E_b0 F_bytes_b0 F_length_b0 g_b0) eT pd_4 rfl (by rw [hml]; rfl) (by decide) 0 rfl (by decide) (by decide) (by decide) 25 rfl ?_
    intro T22 L9 v9 X hQ
    obtain ⟨h22, eT⟩ : ∃ z, T22.heap = z := ⟨_, rfl⟩
    rw [eT] at hQ
    have lt_b0 := E_b0.lt
    have lt_b8b6 := A_b8b6.lt
    obtain ⟨b22b2b35b15, rfl, N9, Kc, hs_b22b2b35b15, E_b0, F_bytes_b0, F_length_b0, A_b22b2b35b15, E_b22b2b35b15⟩ := hQ
    have g_b22b2b35b15 : n0 ≤ b22b2b35b15 := Nat.le_trans Zs hs_b22b2b35b15
    have sz_b22b2b35b15 : h0.size ≤ b22b2b35b15 := Nat.le_trans K.1 hs_b22b2b35b15
    have ne_b0_b22b2b35b15 : b0 ≠ b22b2b35b15 := Nat.ne_of_lt (Nat.lt_of_lt_of_le lt_b0 hs_b22b2b35b15)
    have ne_b8b6_b22b2b35b15 : b8b6 ≠ b22b2b35b15 := Nat.ne_of_lt (Nat.lt_of_lt_of_le lt_b8b6 hs_b22b2b35b15)
    have A_b8b6 := A_b8b6.keep Kc (ninS (Ne.symm ne_b0_b8b6) nin0)
    have E_b8b6 := E_b8b6.keep Kc
    obtain ⟨ar22, ear22⟩ : ∃ z : Nat → Int32, (updI (updI (updI (updI (own_cp ar16 (Int32.toNatClampNeg (f7 (Int32.ofNat nn) (f5 ((2 : Int32) * (Int32.ofNat nn)) (8 : Int32))))) 4 (nar .byte (((p3.toUInt32 >>> ((24 : Int32) &&& 31).toUInt32).toInt32).toInt8.toInt32))) 5 (nar .byte (((p3.toUInt32 >>> ((16 : Int32) &&& 31).toUInt32).toInt32).toInt8.toInt32))) 6 (nar .byte (((p3.toUInt32 >>> ((8 : Int32) &&& 31).toUInt32).toInt32).toInt8.toInt32))) 7 (nar .byte (((p3.toUInt32 >>> ((0 : Int32) &&& 31).toUInt32).toInt32).toInt8.toInt32))) = z := ⟨_, rfl⟩
    rw [ear22] at A_b22b2b35b15
    have K := K.trans Kc (allS (Or.inr sz_b0) all0)
    have Zs := Nat.le_trans Zs Kc.1
    have N := Fr.app N N9
    show Go p e below _ T22 (mkF m 25 #[.val (.int p1), .val (.int p2), .val (.int p3), .val (.int p4), .val (.int p5), .val (.ref b0), .unset, .unset] [])
    obtain ⟨n3, en3⟩ : ∃ z : Nat, (Int32.toNatClampNeg (f5 ((2 : Int32) * (Int32.ofNat nn)) (8 : Int32))) = z := ⟨_, rfl⟩
    rw [en3] at A_b22b2b35b15
    have h3 : 8 ≤ n3 ∧ n3 < 16 := by rw [← en3]; exact ⟨(own_g3 8 k3 (by decide)).1, (own_g3 8 k3 (by decide)).2.1⟩
    have h2 : 4 ≤ nn ∧ nn < 8 := ⟨Nat.not_lt.mp fun q => k1 ((own_lt hnn (by decide)).mpr q), k3⟩
    have w0 : ar22 0 = nar .byte (((p2.toUInt32 >>> ((24 : Int32) &&& 31).toUInt32).toInt32).toInt8.toInt32) := by
      rw [← ear22]
      show own_cp ar16 _ 0 = _
      refine (own_cpi (own_ck (Nat.lt_trans h2.2 (by decide)) (own_g2 8 h2.2 (by decide)) (Nat.lt_of_lt_of_le (by decide) h2.1) (Nat.lt_of_lt_of_le (by decide) (own_g3 8 h2.2 (by decide)).1))).trans ?_
      rw [← ear16]; rfl
    have w1 : ar22 1 = nar .byte (((p2.toUInt32 >>> ((16 : Int32) &&& 31).toUInt32).toInt32).toInt8.toInt32) := by
      rw [← ear22]
      show own_cp ar16 _ 1 = _
      refine (own_cpi (own_ck (Nat.lt_trans h2.2 (by decide)) (own_g2 8 h2.2 (by decide)) (Nat.lt_of_lt_of_le (by decide) h2.1) (Nat.lt_of_lt_of_le (by decide) (own_g3 8 h2.2 (by decide)).1))).trans ?_
      rw [← ear16]; rfl
    have w2 : ar22 2 = nar .byte (((p2.toUInt32 >>> ((8 : Int32) &&& 31).toUInt32).toInt32).toInt8.toInt32) := by
      rw [← ear22]
      show own_cp ar16 _ 2 = _
      refine (own_cpi (own_ck (Nat.lt_trans h2.2 (by decide)) (own_g2 8 h2.2 (by decide)) (Nat.lt_of_lt_of_le (by decide) h2.1) (Nat.lt_of_lt_of_le (by decide) (own_g3 8 h2.2 (by decide)).1))).trans ?_
      rw [← ear16]; rfl
    have w3 : ar22 3 = nar .byte (((p2.toUInt32 >>> ((0 : Int32) &&& 31).toUInt32).toInt32).toInt8.toInt32) := by
      rw [← ear22]
      show own_cp ar16 _ 3 = _
      refine (own_cpi (own_ck (Nat.lt_trans h2.2 (by decide)) (own_g2 8 h2.2 (by decide)) (Nat.lt_of_lt_of_le (by decide) h2.1) (Nat.lt_of_lt_of_le (by decide) (own_g3 8 h2.2 (by decide)).1))).trans ?_
      rw [← ear16]; rfl
    have w4 : ar22 4 = nar .byte (((p3.toUInt32 >>> ((24 : Int32) &&& 31).toUInt32).toInt32).toInt8.toInt32) := by
      rw [← ear22]; rfl
    have w5 : ar22 5 = nar .byte (((p3.toUInt32 >>> ((16 : Int32) &&& 31).toUInt32).toInt32).toInt8.toInt32) := by
      rw [← ear22]; rfl
    have w6 : ar22 6 = nar .byte (((p3.toUInt32 >>> ((8 : Int32) &&& 31).toUInt32).toInt32).toInt8.toInt32) := by
      rw [← ear22]; rfl
    have w7 : ar22 7 = nar .byte (((p3.toUInt32 >>> ((0 : Int32) &&& 31).toUInt32).toInt32).toInt8.toInt32) := by
      rw [← ear22]; rfl
    refine own_iloadN X hx hby p4 at_25 rfl 26 rfl ?_
    refine own_ldc X hx hby hZ (2147483647 : Int32) hown (hw _ (List.mem_of_getElem? (i := 38) rfl)) at_26 28 rfl ?_
    refine own_iand X hx hby at_28 29 rfl ?_
    refine own_iconst X hx hby (5 : Int32) at_29 rfl 30 rfl ?_
    refine own_irem X hx hby at_30 (by decide) 31 rfl ?_
    obtain ⟨v31, e31⟩ : ∃ z : Int32, ((p4 &&& (2147483647 : Int32)) % (5 : Int32)) = z := ⟨_, rfl⟩
    refine own_istore X hx hby at_31 e31 (l' := #[.val (.int p1), .val (.int p2), .val (.int p3), .val (.int p4), .val (.int p5), .val (.ref b0), .val (.int v31), .unset]) rfl 33 rfl ?_
    rcases (own_five _ _ e31 : v31 = (0 : Int32) ∨ v31 = (1 : Int32) ∨ v31 = (2 : Int32) ∨ v31 = (3 : Int32) ∨ v31 = (4 : Int32)) with rfl | rfl | rfl | rfl | rfl
    · skip
      refine own_aload X hx hby (.ref b0) at_33 rfl rfl 35 rfl ?_
      refine own_iload X hx hby (0 : Int32) at_35 rfl 37 rfl ?_
      refine own_iload X hx hby p5 at_37 rfl 39 rfl ?_
      refine own_callV X hx hby hZ (st := []) [(.int (0 : Int32)), (.int p5)] rfl hown (hw _ (List.mem_of_getElem? (i := 39) rfl)) (hw _ (List.mem_of_getElem? (i := 40) rfl)) (hw _ (List.mem_of_getElem? (i := 42) rfl)) (hw _ (List.mem_of_getElem? (i := 41) rfl)) (hw _ (List.mem_of_getElem? (i := 2) rfl)) (hw _ (List.mem_of_getElem? (i := 43) rfl)) E_b0 (by decide) at_39 (rm8_0 l Z a0 hw b0 p5 b22b2b35b15 ar22 n3 (8 : Int32) h22 n0 Zs h3.1 A_b22b2b35b15 E_b22b2b35b15 g_b22b2b35b15 E_b0 F_bytes_b0 F_length_b0 g_b0) eT pd_6 rfl (by rw [hml]; rfl) (by decide) 0 rfl (by decide) (by decide) (by decide) 42 rfl ?_
      intro T39 L9 v9 X hQ
      obtain ⟨h39, eT⟩ : ∃ z, T39.heap = z := ⟨_, rfl⟩
      rw [eT] at hQ
      obtain ⟨rfl, N9, Kc, A_b22b2b35b15, E_b22b2b35b15⟩ := hQ
      have E_b0 := E_b0.keep Kc
      have F_bytes_b0 := F_bytes_b0.keep Kc (ninS ne_b0_b22b2b35b15 nin0)
      have F_length_b0 := F_length_b0.keep Kc (ninS ne_b0_b22b2b35b15 nin0)
      have A_b8b6 := A_b8b6.keep Kc (ninS ne_b8b6_b22b2b35b15 nin0)
      have E_b8b6 := E_b8b6.keep Kc
      obtain ⟨ar39, ear39⟩ : ∃ z : Nat → Int32, (updI (updI (updI (updI ar22 0 (nar .byte (((p5.toUInt32 >>> ((24 : Int32) &&& 31).toUInt32).toInt32).toInt8.toInt32))) 1 (nar .byte (((p5.toUInt32 >>> ((16 : Int32) &&& 31).toUInt32).toInt32).toInt8.toInt32))) 2 (nar .byte (((p5.toUInt32 >>> ((8 : Int32) &&& 31).toUInt32).toInt32).toInt8.toInt32))) 3 (nar .byte (((p5.toUInt32 >>> ((0 : Int32) &&& 31).toUInt32).toInt32).toInt8.toInt32))) = z := ⟨_, rfl⟩
      rw [ear39] at A_b22b2b35b15
      have K := K.trans Kc (allS (Or.inr sz_b22b2b35b15) all0)
      have Zs := Nat.le_trans Zs Kc.1
      have N := Fr.app N N9
      show Go p e below _ T39 (mkF m 42 #[.val (.int p1), .val (.int p2), .val (.int p3), .val (.int p4), .val (.int p5), .val (.ref b0), .val (.int (0 : Int32)), .unset] [])
      refine own_aload X hx hby (.ref b0) at_42 rfl rfl 44 rfl ?_
      refine own_callV X hx hby hZ (st := []) [] rfl hown (hw _ (List.mem_of_getElem? (i := 44) rfl)) (hw _ (List.mem_of_getElem? (i := 45) rfl)) (hw _ (List.mem_of_getElem? (i := 47) rfl)) (hw _ (List.mem_of_getElem? (i := 46) rfl)) (hw _ (List.mem_of_getElem? (i := 2) rfl)) (hw _ (List.mem_of_getElem? (i := 48) rfl)) E_b0 (by decide) at_44 (rm9 l Z a0 hw b0 h39 n0 Zs F_length_b0) eT pd_0 rfl (by rw [hml]; rfl) (by decide) 0 rfl (by decide) (by decide) (by decide) 47 rfl ?_
      intro T44 L9 v9 X hQ
      obtain ⟨rfl, N9, eT⟩ := hQ
      have N := Fr.app N N9
      show Go p e below _ T44 (mkF m 47 #[.val (.int p1), .val (.int p2), .val (.int p3), .val (.int p4), .val (.int p5), .val (.ref b0), .val (.int (0 : Int32)), .unset] [(.int (8 : Int32))])
      refine own_bipush X hx hby (8 : Int32) at_47 rfl 49 rfl ?_
      have c49 : (8 : Int32) = (8 : Int32) := by decide
      refine own_icmp_eq X hx hby at_49 54 52 (by decide) rfl (fun _ => ?_) (fun q => absurd c49 q)
      refine own_aload X hx hby (.ref b0) at_54 rfl rfl 56 rfl ?_
      by_cases q8 : n3 = 8
      · skip
        subst q8
        refine own_callV X hx hby hZ (st := []) [] rfl hown (hw _ (List.mem_of_getElem? (i := 49) rfl)) (hw _ (List.mem_of_getElem? (i := 50) rfl)) (hw _ (List.mem_of_getElem? (i := 52) rfl)) (hw _ (List.mem_of_getElem? (i := 51) rfl)) (hw _ (List.mem_of_getElem? (i := 2) rfl)) (hw _ (List.mem_of_getElem? (i := 53) rfl)) E_b0 (by decide) at_56 (rm10_c l Z a0 hw b0 b22b2b35b15 ar39 h39 n0 Zs A_b22b2b35b15 E_b22b2b35b15 F_bytes_b0 F_length_b0) eT pd_3 rfl (by rw [hml]; rfl) (by decide) 0 rfl (by decide) (by decide) (by decide) 59 rfl ?_
        intro T56 L9 v9 X hQ
        obtain ⟨h56, eT⟩ : ∃ z, T56.heap = z := ⟨_, rfl⟩
        rw [eT] at hQ
        have lt_b0 := E_b0.lt
        have lt_b22b2b35b15 := A_b22b2b35b15.lt
        have lt_b8b6 := A_b8b6.lt
        obtain ⟨b56b8b7, rfl, N9, Kc, hs_b56b8b7, A_b56b8b7, E_b56b8b7⟩ := hQ
        have g_b56b8b7 : n0 ≤ b56b8b7 := Nat.le_trans Zs hs_b56b8b7
        have sz_b56b8b7 : h0.size ≤ b56b8b7 := Nat.le_trans K.1 hs_b56b8b7
        have ne_b0_b56b8b7 : b0 ≠ b56b8b7 := Nat.ne_of_lt (Nat.lt_of_lt_of_le lt_b0 hs_b56b8b7)
        have ne_b22b2b35b15_b56b8b7 : b22b2b35b15 ≠ b56b8b7 := Nat.ne_of_lt (Nat.lt_of_lt_of_le lt_b22b2b35b15 hs_b56b8b7)
        have ne_b8b6_b56b8b7 : b8b6 ≠ b56b8b7 := Nat.ne_of_lt (Nat.lt_of_lt_of_le lt_b8b6 hs_b56b8b7)
        have E_b0 := E_b0.keep Kc
        have F_bytes_b0 := F_bytes_b0.keep Kc nin0
        have F_length_b0 := F_length_b0.keep Kc nin0
        have A_b8b6 := A_b8b6.keep Kc nin0
        have E_b8b6 := E_b8b6.keep Kc
        have A_b22b2b35b15 := A_b22b2b35b15.keep Kc nin0
        have E_b22b2b35b15 := E_b22b2b35b15.keep Kc
        have K := K.trans Kc all0
        have Zs := Nat.le_trans Zs Kc.1
        have N := Fr.app N N9
        show Go p e below _ T56 (mkF m 59 #[.val (.int p1), .val (.int p2), .val (.int p3), .val (.int p4), .val (.int p5), .val (.ref b0), .val (.int (0 : Int32)), .unset] [(.ref b56b8b7)])
        refine own_astore X hx hby at_59 rfl (l' := #[.val (.int p1), .val (.int p2), .val (.int p3), .val (.int p4), .val (.int p5), .val (.ref b0), .val (.int (0 : Int32)), .val (.ref b56b8b7)]) rfl 61 rfl ?_
        refine own_aload X hx hby (.ref b56b8b7) at_61 rfl rfl 63 rfl ?_
        refine own_arraylength X hx hby hZ (8 : Int32) eT A_b56b8b7 rfl at_63 64 rfl ?_
        refine own_bipush X hx hby (8 : Int32) at_64 rfl 66 rfl ?_
        have c66 : (8 : Int32) = (8 : Int32) := by decide
        refine own_icmp_eq X hx hby at_66 71 69 (by decide) rfl (fun _ => ?_) (fun q => absurd c66 q)
        refine own_aload X hx hby (.ref b56b8b7) at_71 rfl rfl 73 rfl ?_
        refine own_iconst X hx hby (0 : Int32) at_73 rfl 74 rfl ?_
        refine own_iload X hx hby (0 : Int32) at_74 rfl 76 rfl ?_
        refine own_iloadN X hx hby p2 at_76 rfl 77 rfl ?_
        refine own_iloadN X hx hby p3 at_77 rfl 78 rfl ?_
        refine own_iload X hx hby p5 at_78 rfl 80 rfl ?_
        refine own_callS X hx hby hZ (st := []) [(.ref b56b8b7), (.int (0 : Int32)), (.int (0 : Int32)), (.int p2), (.int p3), (.int p5)] rfl hown (hw _ (List.mem_of_getElem? (i := 63) rfl)) (hw _ (List.mem_of_getElem? (i := 64) rfl)) (hw _ (List.mem_of_getElem? (i := 65) rfl)) (hw _ (List.mem_of_getElem? (i := 66) rfl)) (by decide) at_80 (rm11 l Z a0 hw b56b8b7 (0 : Int32) (0 : Int32) p2 p3 p5 ar39 h56 n0 Zs (by decide) A_b56b8b7 E_b56b8b7) eT pd_9 rfl (by rw [hml]; rfl) (by decide) 0 rfl (by decide) (by decide) (by decide) 83 rfl ?_
        intro T80 L9 v9 X hQ
        obtain ⟨rfl, N9, eT⟩ := hQ
        have N := Fr.app N N9
        show Go p e below _ T80 (mkF m 83 #[.val (.int p1), .val (.int p2), .val (.int p3), .val (.int p4), .val (.int p5), .val (.ref b0), .val (.int (0 : Int32)), .val (.ref b56b8b7)] [(.int (f11 (0 : Int32) (0 : Int32) p2 p3 p5 ar39))])
        have c83 : ¬ (f11 (0 : Int32) (0 : Int32) p2 p3 p5 ar39) = (0 : Int32) := own_okv _ _ _ _ _ (24 : Int32) _ (by decide) (by decide) (by decide) (by rw [← ear39]; rfl)
        refine own_if_eq X hx hby at_83 197 86 (by decide) rfl (fun q => absurd q c83) (fun _ => ?_)
        refine own_aload X hx hby (.ref b56b8b7) at_86 rfl rfl 88 rfl ?_
        refine own_iconst X hx hby (1 : Int32) at_88 rfl 89 rfl ?_
        refine own_iload X hx hby (0 : Int32) at_89 rfl 91 rfl ?_
        refine own_iloadN X hx hby p2 at_91 rfl 92 rfl ?_
        refine own_iloadN X hx hby p3 at_92 rfl 93 rfl ?_
        refine own_iload X hx hby p5 at_93 rfl 95 rfl ?_
        refine own_callS X hx hby hZ (st := []) [(.ref b56b8b7), (.int (1 : Int32)), (.int (0 : Int32)), (.int p2), (.int p3), (.int p5)] rfl hown (hw _ (List.mem_of_getElem? (i := 63) rfl)) (hw _ (List.mem_of_getElem? (i := 64) rfl)) (hw _ (List.mem_of_getElem? (i := 65) rfl)) (hw _ (List.mem_of_getElem? (i := 66) rfl)) (by decide) at_95 (rm11 l Z a0 hw b56b8b7 (1 : Int32) (0 : Int32) p2 p3 p5 ar39 h56 n0 Zs (by decide) A_b56b8b7 E_b56b8b7) eT pd_9 rfl (by rw [hml]; rfl) (by decide) 0 rfl (by decide) (by decide) (by decide) 98 rfl ?_
        intro T95 L9 v9 X hQ
        obtain ⟨rfl, N9, eT⟩ := hQ
        have N := Fr.app N N9
        show Go p e below _ T95 (mkF m 98 #[.val (.int p1), .val (.int p2), .val (.int p3), .val (.int p4), .val (.int p5), .val (.ref b0), .val (.int (0 : Int32)), .val (.ref b56b8b7)] [(.int (f11 (1 : Int32) (0 : Int32) p2 p3 p5 ar39))])
        have c98 : ¬ (f11 (1 : Int32) (0 : Int32) p2 p3 p5 ar39) = (0 : Int32) := own_okv _ _ _ _ _ (16 : Int32) _ (by decide) (by decide) (by decide) (by rw [← ear39]; rfl)
        refine own_if_eq X hx hby at_98 197 101 (by decide) rfl (fun q => absurd q c98) (fun _ => ?_)
        refine own_aload X hx hby (.ref b56b8b7) at_101 rfl rfl 103 rfl ?_
        refine own_iconst X hx hby (2 : Int32) at_103 rfl 104 rfl ?_
        refine own_iload X hx hby (0 : Int32) at_104 rfl 106 rfl ?_
        refine own_iloadN X hx hby p2 at_106 rfl 107 rfl ?_
        refine own_iloadN X hx hby p3 at_107 rfl 108 rfl ?_
        refine own_iload X hx hby p5 at_108 rfl 110 rfl ?_
        refine own_callS X hx hby hZ (st := []) [(.ref b56b8b7), (.int (2 : Int32)), (.int (0 : Int32)), (.int p2), (.int p3), (.int p5)] rfl hown (hw _ (List.mem_of_getElem? (i := 63) rfl)) (hw _ (List.mem_of_getElem? (i := 64) rfl)) (hw _ (List.mem_of_getElem? (i := 65) rfl)) (hw _ (List.mem_of_getElem? (i := 66) rfl)) (by decide) at_110 (rm11 l Z a0 hw b56b8b7 (2 : Int32) (0 : Int32) p2 p3 p5 ar39 h56 n0 Zs (by decide) A_b56b8b7 E_b56b8b7) eT pd_9 rfl (by rw [hml]; rfl) (by decide) 0 rfl (by decide) (by decide) (by decide) 113 rfl ?_
        intro T110 L9 v9 X hQ
        obtain ⟨rfl, N9, eT⟩ := hQ
        have N := Fr.app N N9
        show Go p e below _ T110 (mkF m 113 #[.val (.int p1), .val (.int p2), .val (.int p3), .val (.int p4), .val (.int p5), .val (.ref b0), .val (.int (0 : Int32)), .val (.ref b56b8b7)] [(.int (f11 (2 : Int32) (0 : Int32) p2 p3 p5 ar39))])
        have c113 : ¬ (f11 (2 : Int32) (0 : Int32) p2 p3 p5 ar39) = (0 : Int32) := own_okv _ _ _ _ _ (8 : Int32) _ (by decide) (by decide) (by decide) (by rw [← ear39]; rfl)
        refine own_if_eq X hx hby at_113 197 116 (by decide) rfl (fun q => absurd q c113) (fun _ => ?_)
        refine own_aload X hx hby (.ref b56b8b7) at_116 rfl rfl 118 rfl ?_
        refine own_iconst X hx hby (3 : Int32) at_118 rfl 119 rfl ?_
        refine own_iload X hx hby (0 : Int32) at_119 rfl 121 rfl ?_
        refine own_iloadN X hx hby p2 at_121 rfl 122 rfl ?_
        refine own_iloadN X hx hby p3 at_122 rfl 123 rfl ?_
        refine own_iload X hx hby p5 at_123 rfl 125 rfl ?_
        refine own_callS X hx hby hZ (st := []) [(.ref b56b8b7), (.int (3 : Int32)), (.int (0 : Int32)), (.int p2), (.int p3), (.int p5)] rfl hown (hw _ (List.mem_of_getElem? (i := 63) rfl)) (hw _ (List.mem_of_getElem? (i := 64) rfl)) (hw _ (List.mem_of_getElem? (i := 65) rfl)) (hw _ (List.mem_of_getElem? (i := 66) rfl)) (by decide) at_125 (rm11 l Z a0 hw b56b8b7 (3 : Int32) (0 : Int32) p2 p3 p5 ar39 h56 n0 Zs (by decide) A_b56b8b7 E_b56b8b7) eT pd_9 rfl (by rw [hml]; rfl) (by decide) 0 rfl (by decide) (by decide) (by decide) 128 rfl ?_
        intro T125 L9 v9 X hQ
        obtain ⟨rfl, N9, eT⟩ := hQ
        have N := Fr.app N N9
        show Go p e below _ T125 (mkF m 128 #[.val (.int p1), .val (.int p2), .val (.int p3), .val (.int p4), .val (.int p5), .val (.ref b0), .val (.int (0 : Int32)), .val (.ref b56b8b7)] [(.int (f11 (3 : Int32) (0 : Int32) p2 p3 p5 ar39))])
        have c128 : ¬ (f11 (3 : Int32) (0 : Int32) p2 p3 p5 ar39) = (0 : Int32) := own_okv _ _ _ _ _ (0 : Int32) _ (by decide) (by decide) (by decide) (by rw [← ear39]; rfl)
        refine own_if_eq X hx hby at_128 197 131 (by decide) rfl (fun q => absurd q c128) (fun _ => ?_)
        refine own_aload X hx hby (.ref b56b8b7) at_131 rfl rfl 133 rfl ?_
        refine own_iconst X hx hby (4 : Int32) at_133 rfl 134 rfl ?_
        refine own_iload X hx hby (0 : Int32) at_134 rfl 136 rfl ?_
        refine own_iloadN X hx hby p2 at_136 rfl 137 rfl ?_
        refine own_iloadN X hx hby p3 at_137 rfl 138 rfl ?_
        refine own_iload X hx hby p5 at_138 rfl 140 rfl ?_
        refine own_callS X hx hby hZ (st := []) [(.ref b56b8b7), (.int (4 : Int32)), (.int (0 : Int32)), (.int p2), (.int p3), (.int p5)] rfl hown (hw _ (List.mem_of_getElem? (i := 63) rfl)) (hw _ (List.mem_of_getElem? (i := 64) rfl)) (hw _ (List.mem_of_getElem? (i := 65) rfl)) (hw _ (List.mem_of_getElem? (i := 66) rfl)) (by decide) at_140 (rm11 l Z a0 hw b56b8b7 (4 : Int32) (0 : Int32) p2 p3 p5 ar39 h56 n0 Zs (by decide) A_b56b8b7 E_b56b8b7) eT pd_9 rfl (by rw [hml]; rfl) (by decide) 0 rfl (by decide) (by decide) (by decide) 143 rfl ?_
        intro T140 L9 v9 X hQ
        obtain ⟨rfl, N9, eT⟩ := hQ
        have N := Fr.app N N9
        show Go p e below _ T140 (mkF m 143 #[.val (.int p1), .val (.int p2), .val (.int p3), .val (.int p4), .val (.int p5), .val (.ref b0), .val (.int (0 : Int32)), .val (.ref b56b8b7)] [(.int (f11 (4 : Int32) (0 : Int32) p2 p3 p5 ar39))])
        have c143 : ¬ (f11 (4 : Int32) (0 : Int32) p2 p3 p5 ar39) = (0 : Int32) := own_okb _ _ _ _ _ (24 : Int32) _ (by decide) (by decide) (by decide) (by rw [← ear39]; exact w4)
        refine own_if_eq X hx hby at_143 197 146 (by decide) rfl (fun q => absurd q c143) (fun _ => ?_)
        refine own_aload X hx hby (.ref b56b8b7) at_146 rfl rfl 148 rfl ?_
        refine own_iconst X hx hby (5 : Int32) at_148 rfl 149 rfl ?_
        refine own_iload X hx hby (0 : Int32) at_149 rfl 151 rfl ?_
        refine own_iloadN X hx hby p2 at_151 rfl 152 rfl ?_
        refine own_iloadN X hx hby p3 at_152 rfl 153 rfl ?_
        refine own_iload X hx hby p5 at_153 rfl 155 rfl ?_
        refine own_callS X hx hby hZ (st := []) [(.ref b56b8b7), (.int (5 : Int32)), (.int (0 : Int32)), (.int p2), (.int p3), (.int p5)] rfl hown (hw _ (List.mem_of_getElem? (i := 63) rfl)) (hw _ (List.mem_of_getElem? (i := 64) rfl)) (hw _ (List.mem_of_getElem? (i := 65) rfl)) (hw _ (List.mem_of_getElem? (i := 66) rfl)) (by decide) at_155 (rm11 l Z a0 hw b56b8b7 (5 : Int32) (0 : Int32) p2 p3 p5 ar39 h56 n0 Zs (by decide) A_b56b8b7 E_b56b8b7) eT pd_9 rfl (by rw [hml]; rfl) (by decide) 0 rfl (by decide) (by decide) (by decide) 158 rfl ?_
        intro T155 L9 v9 X hQ
        obtain ⟨rfl, N9, eT⟩ := hQ
        have N := Fr.app N N9
        show Go p e below _ T155 (mkF m 158 #[.val (.int p1), .val (.int p2), .val (.int p3), .val (.int p4), .val (.int p5), .val (.ref b0), .val (.int (0 : Int32)), .val (.ref b56b8b7)] [(.int (f11 (5 : Int32) (0 : Int32) p2 p3 p5 ar39))])
        have c158 : ¬ (f11 (5 : Int32) (0 : Int32) p2 p3 p5 ar39) = (0 : Int32) := own_okb _ _ _ _ _ (16 : Int32) _ (by decide) (by decide) (by decide) (by rw [← ear39]; exact w5)
        refine own_if_eq X hx hby at_158 197 161 (by decide) rfl (fun q => absurd q c158) (fun _ => ?_)
        refine own_aload X hx hby (.ref b56b8b7) at_161 rfl rfl 163 rfl ?_
        refine own_bipush X hx hby (6 : Int32) at_163 rfl 165 rfl ?_
        refine own_iload X hx hby (0 : Int32) at_165 rfl 167 rfl ?_
        refine own_iloadN X hx hby p2 at_167 rfl 168 rfl ?_
        refine own_iloadN X hx hby p3 at_168 rfl 169 rfl ?_
        refine own_iload X hx hby p5 at_169 rfl 171 rfl ?_
        refine own_callS X hx hby hZ (st := []) [(.ref b56b8b7), (.int (6 : Int32)), (.int (0 : Int32)), (.int p2), (.int p3), (.int p5)] rfl hown (hw _ (List.mem_of_getElem? (i := 63) rfl)) (hw _ (List.mem_of_getElem? (i := 64) rfl)) (hw _ (List.mem_of_getElem? (i := 65) rfl)) (hw _ (List.mem_of_getElem? (i := 66) rfl)) (by decide) at_171 (rm11 l Z a0 hw b56b8b7 (6 : Int32) (0 : Int32) p2 p3 p5 ar39 h56 n0 Zs (by decide) A_b56b8b7 E_b56b8b7) eT pd_9 rfl (by rw [hml]; rfl) (by decide) 0 rfl (by decide) (by decide) (by decide) 174 rfl ?_
        intro T171 L9 v9 X hQ
        obtain ⟨rfl, N9, eT⟩ := hQ
        have N := Fr.app N N9
        show Go p e below _ T171 (mkF m 174 #[.val (.int p1), .val (.int p2), .val (.int p3), .val (.int p4), .val (.int p5), .val (.ref b0), .val (.int (0 : Int32)), .val (.ref b56b8b7)] [(.int (f11 (6 : Int32) (0 : Int32) p2 p3 p5 ar39))])
        have c174 : ¬ (f11 (6 : Int32) (0 : Int32) p2 p3 p5 ar39) = (0 : Int32) := own_okb _ _ _ _ _ (8 : Int32) _ (by decide) (by decide) (by decide) (by rw [← ear39]; exact w6)
        refine own_if_eq X hx hby at_174 197 177 (by decide) rfl (fun q => absurd q c174) (fun _ => ?_)
        refine own_aload X hx hby (.ref b56b8b7) at_177 rfl rfl 179 rfl ?_
        refine own_bipush X hx hby (7 : Int32) at_179 rfl 181 rfl ?_
        refine own_iload X hx hby (0 : Int32) at_181 rfl 183 rfl ?_
        refine own_iloadN X hx hby p2 at_183 rfl 184 rfl ?_
        refine own_iloadN X hx hby p3 at_184 rfl 185 rfl ?_
        refine own_iload X hx hby p5 at_185 rfl 187 rfl ?_
        refine own_callS X hx hby hZ (st := []) [(.ref b56b8b7), (.int (7 : Int32)), (.int (0 : Int32)), (.int p2), (.int p3), (.int p5)] rfl hown (hw _ (List.mem_of_getElem? (i := 63) rfl)) (hw _ (List.mem_of_getElem? (i := 64) rfl)) (hw _ (List.mem_of_getElem? (i := 65) rfl)) (hw _ (List.mem_of_getElem? (i := 66) rfl)) (by decide) at_187 (rm11 l Z a0 hw b56b8b7 (7 : Int32) (0 : Int32) p2 p3 p5 ar39 h56 n0 Zs (by decide) A_b56b8b7 E_b56b8b7) eT pd_9 rfl (by rw [hml]; rfl) (by decide) 0 rfl (by decide) (by decide) (by decide) 190 rfl ?_
        intro T187 L9 v9 X hQ
        obtain ⟨rfl, N9, eT⟩ := hQ
        have N := Fr.app N N9
        show Go p e below _ T187 (mkF m 190 #[.val (.int p1), .val (.int p2), .val (.int p3), .val (.int p4), .val (.int p5), .val (.ref b0), .val (.int (0 : Int32)), .val (.ref b56b8b7)] [(.int (f11 (7 : Int32) (0 : Int32) p2 p3 p5 ar39))])
        have c190 : ¬ (f11 (7 : Int32) (0 : Int32) p2 p3 p5 ar39) = (0 : Int32) := own_okb _ _ _ _ _ (0 : Int32) _ (by decide) (by decide) (by decide) (by rw [← ear39]; exact w7)
        refine own_if_eq X hx hby at_190 197 193 (by decide) rfl (fun q => absurd q c190) (fun _ => ?_)
        refine own_iconst X hx hby (1 : Int32) at_193 rfl 194 rfl ?_
        refine own_goto X hx hby at_194 198 (by decide) ?_
        refine own_retN X hx hby hret hlk (t := .boolean) (z' := (1 : Int32)) (by simp) at_198 (by decide) (by decide) rfl ?_
        rw [eT]
        exact ⟨rfl, N⟩
      · skip
        refine own_callV X hx hby hZ (st := []) [] rfl hown (hw _ (List.mem_of_getElem? (i := 49) rfl)) (hw _ (List.mem_of_getElem? (i := 50) rfl)) (hw _ (List.mem_of_getElem? (i := 52) rfl)) (hw _ (List.mem_of_getElem? (i := 51) rfl)) (hw _ (List.mem_of_getElem? (i := 2) rfl)) (hw _ (List.mem_of_getElem? (i := 53) rfl)) E_b0 (by decide) at_56 (rm10_n l Z a0 hw b0 b22b2b35b15 ar39 n3 h39 n0 Zs (own_n8 q8 h3.2) h3.2 A_b22b2b35b15 E_b22b2b35b15 F_bytes_b0 F_length_b0) eT pd_3 rfl (by rw [hml]; rfl) (by decide) 0 rfl (by decide) (by decide) (by decide) 59 rfl ?_
        intro T56 L9 v9 X hQ
        obtain ⟨h56, eT⟩ : ∃ z, T56.heap = z := ⟨_, rfl⟩
        rw [eT] at hQ
        have lt_b0 := E_b0.lt
        have lt_b22b2b35b15 := A_b22b2b35b15.lt
        have lt_b8b6 := A_b8b6.lt
        obtain ⟨b56b8b15, rfl, N9, Kc, hs_b56b8b15, A_b56b8b15, E_b56b8b15⟩ := hQ
        have g_b56b8b15 : n0 ≤ b56b8b15 := Nat.le_trans Zs hs_b56b8b15
        have sz_b56b8b15 : h0.size ≤ b56b8b15 := Nat.le_trans K.1 hs_b56b8b15
        have ne_b0_b56b8b15 : b0 ≠ b56b8b15 := Nat.ne_of_lt (Nat.lt_of_lt_of_le lt_b0 hs_b56b8b15)
        have ne_b22b2b35b15_b56b8b15 : b22b2b35b15 ≠ b56b8b15 := Nat.ne_of_lt (Nat.lt_of_lt_of_le lt_b22b2b35b15 hs_b56b8b15)
        have ne_b8b6_b56b8b15 : b8b6 ≠ b56b8b15 := Nat.ne_of_lt (Nat.lt_of_lt_of_le lt_b8b6 hs_b56b8b15)
        have E_b0 := E_b0.keep Kc
        have F_bytes_b0 := F_bytes_b0.keep Kc nin0
        have F_length_b0 := F_length_b0.keep Kc nin0
        have A_b8b6 := A_b8b6.keep Kc nin0
        have E_b8b6 := E_b8b6.keep Kc
        have A_b22b2b35b15 := A_b22b2b35b15.keep Kc nin0
        have E_b22b2b35b15 := E_b22b2b35b15.keep Kc
        obtain ⟨ar56, ear56⟩ : ∃ z : Nat → Int32, (own_cp ar39 (Int32.toNatClampNeg (f7 (Int32.ofNat n3) (8 : Int32)))) = z := ⟨_, rfl⟩
        rw [ear56] at A_b56b8b15
        have K := K.trans Kc all0
        have Zs := Nat.le_trans Zs Kc.1
        have N := Fr.app N N9
        show Go p e below _ T56 (mkF m 59 #[.val (.int p1), .val (.int p2), .val (.int p3), .val (.int p4), .val (.int p5), .val (.ref b0), .val (.int (0 : Int32)), .unset] [(.ref b56b8b15)])
        refine own_astore X hx hby at_59 rfl (l' := #[.val (.int p1), .val (.int p2), .val (.int p3), .val (.int p4), .val (.int p5), .val (.ref b0), .val (.int (0 : Int32)), .val (.ref b56b8b15)]) rfl 61 rfl ?_
        refine own_aload X hx hby (.ref b56b8b15) at_61 rfl rfl 63 rfl ?_
        refine own_arraylength X hx hby hZ (8 : Int32) eT A_b56b8b15 rfl at_63 64 rfl ?_
        refine own_bipush X hx hby (8 : Int32) at_64 rfl 66 rfl ?_
        have c66 : (8 : Int32) = (8 : Int32) := by decide
        refine own_icmp_eq X hx hby at_66 71 69 (by decide) rfl (fun _ => ?_) (fun q => absurd c66 q)
        refine own_aload X hx hby (.ref b56b8b15) at_71 rfl rfl 73 rfl ?_
        refine own_iconst X hx hby (0 : Int32) at_73 rfl 74 rfl ?_
        refine own_iload X hx hby (0 : Int32) at_74 rfl 76 rfl ?_
        refine own_iloadN X hx hby p2 at_76 rfl 77 rfl ?_
        refine own_iloadN X hx hby p3 at_77 rfl 78 rfl ?_
        refine own_iload X hx hby p5 at_78 rfl 80 rfl ?_
        refine own_callS X hx hby hZ (st := []) [(.ref b56b8b15), (.int (0 : Int32)), (.int (0 : Int32)), (.int p2), (.int p3), (.int p5)] rfl hown (hw _ (List.mem_of_getElem? (i := 63) rfl)) (hw _ (List.mem_of_getElem? (i := 64) rfl)) (hw _ (List.mem_of_getElem? (i := 65) rfl)) (hw _ (List.mem_of_getElem? (i := 66) rfl)) (by decide) at_80 (rm11 l Z a0 hw b56b8b15 (0 : Int32) (0 : Int32) p2 p3 p5 ar56 h56 n0 Zs (by decide) A_b56b8b15 E_b56b8b15) eT pd_9 rfl (by rw [hml]; rfl) (by decide) 0 rfl (by decide) (by decide) (by decide) 83 rfl ?_
        intro T80 L9 v9 X hQ
        obtain ⟨rfl, N9, eT⟩ := hQ
        have N := Fr.app N N9
        show Go p e below _ T80 (mkF m 83 #[.val (.int p1), .val (.int p2), .val (.int p3), .val (.int p4), .val (.int p5), .val (.ref b0), .val (.int (0 : Int32)), .val (.ref b56b8b15)] [(.int (f11 (0 : Int32) (0 : Int32) p2 p3 p5 ar56))])
        have c83 : ¬ (f11 (0 : Int32) (0 : Int32) p2 p3 p5 ar56) = (0 : Int32) := own_okv _ _ _ _ _ (24 : Int32) _ (by decide) (by decide) (by decide) (by rw [← ear56]; refine (own_cpi (own_ck h3.2 (by decide) (Nat.lt_of_lt_of_le (by decide) h3.1) (by decide))).trans ?_; rw [← ear39]; rfl)
        refine own_if_eq X hx hby at_83 197 86 (by decide) rfl (fun q => absurd q c83) (fun _ => ?_)
        refine own_aload X hx hby (.ref b56b8b15) at_86 rfl rfl 88 rfl ?_
        refine own_iconst X hx hby (1 : Int32) at_88 rfl 89 rfl ?_
        refine own_iload X hx hby (0 : Int32) at_89 rfl 91 rfl ?_
        refine own_iloadN X hx hby p2 at_91 rfl 92 rfl ?_
        refine own_iloadN X hx hby p3 at_92 rfl 93 rfl ?_
        refine own_iload X hx hby p5 at_93 rfl 95 rfl ?_
        refine own_callS X hx hby hZ (st := []) [(.ref b56b8b15), (.int (1 : Int32)), (.int (0 : Int32)), (.int p2), (.int p3), (.int p5)] rfl hown (hw _ (List.mem_of_getElem? (i := 63) rfl)) (hw _ (List.mem_of_getElem? (i := 64) rfl)) (hw _ (List.mem_of_getElem? (i := 65) rfl)) (hw _ (List.mem_of_getElem? (i := 66) rfl)) (by decide) at_95 (rm11 l Z a0 hw b56b8b15 (1 : Int32) (0 : Int32) p2 p3 p5 ar56 h56 n0 Zs (by decide) A_b56b8b15 E_b56b8b15) eT pd_9 rfl (by rw [hml]; rfl) (by decide) 0 rfl (by decide) (by decide) (by decide) 98 rfl ?_
        intro T95 L9 v9 X hQ
        obtain ⟨rfl, N9, eT⟩ := hQ
        have N := Fr.app N N9
        show Go p e below _ T95 (mkF m 98 #[.val (.int p1), .val (.int p2), .val (.int p3), .val (.int p4), .val (.int p5), .val (.ref b0), .val (.int (0 : Int32)), .val (.ref b56b8b15)] [(.int (f11 (1 : Int32) (0 : Int32) p2 p3 p5 ar56))])
        have c98 : ¬ (f11 (1 : Int32) (0 : Int32) p2 p3 p5 ar56) = (0 : Int32) := own_okv _ _ _ _ _ (16 : Int32) _ (by decide) (by decide) (by decide) (by rw [← ear56]; refine (own_cpi (own_ck h3.2 (by decide) (Nat.lt_of_lt_of_le (by decide) h3.1) (by decide))).trans ?_; rw [← ear39]; rfl)
        refine own_if_eq X hx hby at_98 197 101 (by decide) rfl (fun q => absurd q c98) (fun _ => ?_)
        refine own_aload X hx hby (.ref b56b8b15) at_101 rfl rfl 103 rfl ?_
        refine own_iconst X hx hby (2 : Int32) at_103 rfl 104 rfl ?_
        refine own_iload X hx hby (0 : Int32) at_104 rfl 106 rfl ?_
        refine own_iloadN X hx hby p2 at_106 rfl 107 rfl ?_
        refine own_iloadN X hx hby p3 at_107 rfl 108 rfl ?_
        refine own_iload X hx hby p5 at_108 rfl 110 rfl ?_
        refine own_callS X hx hby hZ (st := []) [(.ref b56b8b15), (.int (2 : Int32)), (.int (0 : Int32)), (.int p2), (.int p3), (.int p5)] rfl hown (hw _ (List.mem_of_getElem? (i := 63) rfl)) (hw _ (List.mem_of_getElem? (i := 64) rfl)) (hw _ (List.mem_of_getElem? (i := 65) rfl)) (hw _ (List.mem_of_getElem? (i := 66) rfl)) (by decide) at_110 (rm11 l Z a0 hw b56b8b15 (2 : Int32) (0 : Int32) p2 p3 p5 ar56 h56 n0 Zs (by decide) A_b56b8b15 E_b56b8b15) eT pd_9 rfl (by rw [hml]; rfl) (by decide) 0 rfl (by decide) (by decide) (by decide) 113 rfl ?_
        intro T110 L9 v9 X hQ
        obtain ⟨rfl, N9, eT⟩ := hQ
        have N := Fr.app N N9
        show Go p e below _ T110 (mkF m 113 #[.val (.int p1), .val (.int p2), .val (.int p3), .val (.int p4), .val (.int p5), .val (.ref b0), .val (.int (0 : Int32)), .val (.ref b56b8b15)] [(.int (f11 (2 : Int32) (0 : Int32) p2 p3 p5 ar56))])
        have c113 : ¬ (f11 (2 : Int32) (0 : Int32) p2 p3 p5 ar56) = (0 : Int32) := own_okv _ _ _ _ _ (8 : Int32) _ (by decide) (by decide) (by decide) (by rw [← ear56]; refine (own_cpi (own_ck h3.2 (by decide) (Nat.lt_of_lt_of_le (by decide) h3.1) (by decide))).trans ?_; rw [← ear39]; rfl)
        refine own_if_eq X hx hby at_113 197 116 (by decide) rfl (fun q => absurd q c113) (fun _ => ?_)
        refine own_aload X hx hby (.ref b56b8b15) at_116 rfl rfl 118 rfl ?_
        refine own_iconst X hx hby (3 : Int32) at_118 rfl 119 rfl ?_
        refine own_iload X hx hby (0 : Int32) at_119 rfl 121 rfl ?_
        refine own_iloadN X hx hby p2 at_121 rfl 122 rfl ?_
        refine own_iloadN X hx hby p3 at_122 rfl 123 rfl ?_
        refine own_iload X hx hby p5 at_123 rfl 125 rfl ?_
        refine own_callS X hx hby hZ (st := []) [(.ref b56b8b15), (.int (3 : Int32)), (.int (0 : Int32)), (.int p2), (.int p3), (.int p5)] rfl hown (hw _ (List.mem_of_getElem? (i := 63) rfl)) (hw _ (List.mem_of_getElem? (i := 64) rfl)) (hw _ (List.mem_of_getElem? (i := 65) rfl)) (hw _ (List.mem_of_getElem? (i := 66) rfl)) (by decide) at_125 (rm11 l Z a0 hw b56b8b15 (3 : Int32) (0 : Int32) p2 p3 p5 ar56 h56 n0 Zs (by decide) A_b56b8b15 E_b56b8b15) eT pd_9 rfl (by rw [hml]; rfl) (by decide) 0 rfl (by decide) (by decide) (by decide) 128 rfl ?_
        intro T125 L9 v9 X hQ
        obtain ⟨rfl, N9, eT⟩ := hQ
        have N := Fr.app N N9
        show Go p e below _ T125 (mkF m 128 #[.val (.int p1), .val (.int p2), .val (.int p3), .val (.int p4), .val (.int p5), .val (.ref b0), .val (.int (0 : Int32)), .val (.ref b56b8b15)] [(.int (f11 (3 : Int32) (0 : Int32) p2 p3 p5 ar56))])
        have c128 : ¬ (f11 (3 : Int32) (0 : Int32) p2 p3 p5 ar56) = (0 : Int32) := own_okv _ _ _ _ _ (0 : Int32) _ (by decide) (by decide) (by decide) (by rw [← ear56]; refine (own_cpi (own_ck h3.2 (by decide) (Nat.lt_of_lt_of_le (by decide) h3.1) (by decide))).trans ?_; rw [← ear39]; rfl)
        refine own_if_eq X hx hby at_128 197 131 (by decide) rfl (fun q => absurd q c128) (fun _ => ?_)
        refine own_aload X hx hby (.ref b56b8b15) at_131 rfl rfl 133 rfl ?_
        refine own_iconst X hx hby (4 : Int32) at_133 rfl 134 rfl ?_
        refine own_iload X hx hby (0 : Int32) at_134 rfl 136 rfl ?_
        refine own_iloadN X hx hby p2 at_136 rfl 137 rfl ?_
        refine own_iloadN X hx hby p3 at_137 rfl 138 rfl ?_
        refine own_iload X hx hby p5 at_138 rfl 140 rfl ?_
        refine own_callS X hx hby hZ (st := []) [(.ref b56b8b15), (.int (4 : Int32)), (.int (0 : Int32)), (.int p2), (.int p3), (.int p5)] rfl hown (hw _ (List.mem_of_getElem? (i := 63) rfl)) (hw _ (List.mem_of_getElem? (i := 64) rfl)) (hw _ (List.mem_of_getElem? (i := 65) rfl)) (hw _ (List.mem_of_getElem? (i := 66) rfl)) (by decide) at_140 (rm11 l Z a0 hw b56b8b15 (4 : Int32) (0 : Int32) p2 p3 p5 ar56 h56 n0 Zs (by decide) A_b56b8b15 E_b56b8b15) eT pd_9 rfl (by rw [hml]; rfl) (by decide) 0 rfl (by decide) (by decide) (by decide) 143 rfl ?_
        intro T140 L9 v9 X hQ
        obtain ⟨rfl, N9, eT⟩ := hQ
        have N := Fr.app N N9
        show Go p e below _ T140 (mkF m 143 #[.val (.int p1), .val (.int p2), .val (.int p3), .val (.int p4), .val (.int p5), .val (.ref b0), .val (.int (0 : Int32)), .val (.ref b56b8b15)] [(.int (f11 (4 : Int32) (0 : Int32) p2 p3 p5 ar56))])
        have c143 : ¬ (f11 (4 : Int32) (0 : Int32) p2 p3 p5 ar56) = (0 : Int32) := own_okb _ _ _ _ _ (24 : Int32) _ (by decide) (by decide) (by decide) (by rw [← ear56]; refine (own_cpi (own_ck h3.2 (by decide) (Nat.lt_of_lt_of_le (by decide) h3.1) (by decide))).trans ?_; rw [← ear39]; exact w4)
        refine own_if_eq X hx hby at_143 197 146 (by decide) rfl (fun q => absurd q c143) (fun _ => ?_)
        refine own_aload X hx hby (.ref b56b8b15) at_146 rfl rfl 148 rfl ?_
        refine own_iconst X hx hby (5 : Int32) at_148 rfl 149 rfl ?_
        refine own_iload X hx hby (0 : Int32) at_149 rfl 151 rfl ?_
        refine own_iloadN X hx hby p2 at_151 rfl 152 rfl ?_
        refine own_iloadN X hx hby p3 at_152 rfl 153 rfl ?_
        refine own_iload X hx hby p5 at_153 rfl 155 rfl ?_
        refine own_callS X hx hby hZ (st := []) [(.ref b56b8b15), (.int (5 : Int32)), (.int (0 : Int32)), (.int p2), (.int p3), (.int p5)] rfl hown (hw _ (List.mem_of_getElem? (i := 63) rfl)) (hw _ (List.mem_of_getElem? (i := 64) rfl)) (hw _ (List.mem_of_getElem? (i := 65) rfl)) (hw _ (List.mem_of_getElem? (i := 66) rfl)) (by decide) at_155 (rm11 l Z a0 hw b56b8b15 (5 : Int32) (0 : Int32) p2 p3 p5 ar56 h56 n0 Zs (by decide) A_b56b8b15 E_b56b8b15) eT pd_9 rfl (by rw [hml]; rfl) (by decide) 0 rfl (by decide) (by decide) (by decide) 158 rfl ?_
        intro T155 L9 v9 X hQ
        obtain ⟨rfl, N9, eT⟩ := hQ
        have N := Fr.app N N9
        show Go p e below _ T155 (mkF m 158 #[.val (.int p1), .val (.int p2), .val (.int p3), .val (.int p4), .val (.int p5), .val (.ref b0), .val (.int (0 : Int32)), .val (.ref b56b8b15)] [(.int (f11 (5 : Int32) (0 : Int32) p2 p3 p5 ar56))])
        have c158 : ¬ (f11 (5 : Int32) (0 : Int32) p2 p3 p5 ar56) = (0 : Int32) := own_okb _ _ _ _ _ (16 : Int32) _ (by decide) (by decide) (by decide) (by rw [← ear56]; refine (own_cpi (own_ck h3.2 (by decide) (Nat.lt_of_lt_of_le (by decide) h3.1) (by decide))).trans ?_; rw [← ear39]; exact w5)
        refine own_if_eq X hx hby at_158 197 161 (by decide) rfl (fun q => absurd q c158) (fun _ => ?_)
        refine own_aload X hx hby (.ref b56b8b15) at_161 rfl rfl 163 rfl ?_
        refine own_bipush X hx hby (6 : Int32) at_163 rfl 165 rfl ?_
        refine own_iload X hx hby (0 : Int32) at_165 rfl 167 rfl ?_
        refine own_iloadN X hx hby p2 at_167 rfl 168 rfl ?_
        refine own_iloadN X hx hby p3 at_168 rfl 169 rfl ?_
        refine own_iload X hx hby p5 at_169 rfl 171 rfl ?_
        refine own_callS X hx hby hZ (st := []) [(.ref b56b8b15), (.int (6 : Int32)), (.int (0 : Int32)), (.int p2), (.int p3), (.int p5)] rfl hown (hw _ (List.mem_of_getElem? (i := 63) rfl)) (hw _ (List.mem_of_getElem? (i := 64) rfl)) (hw _ (List.mem_of_getElem? (i := 65) rfl)) (hw _ (List.mem_of_getElem? (i := 66) rfl)) (by decide) at_171 (rm11 l Z a0 hw b56b8b15 (6 : Int32) (0 : Int32) p2 p3 p5 ar56 h56 n0 Zs (by decide) A_b56b8b15 E_b56b8b15) eT pd_9 rfl (by rw [hml]; rfl) (by decide) 0 rfl (by decide) (by decide) (by decide) 174 rfl ?_
        intro T171 L9 v9 X hQ
        obtain ⟨rfl, N9, eT⟩ := hQ
        have N := Fr.app N N9
        show Go p e below _ T171 (mkF m 174 #[.val (.int p1), .val (.int p2), .val (.int p3), .val (.int p4), .val (.int p5), .val (.ref b0), .val (.int (0 : Int32)), .val (.ref b56b8b15)] [(.int (f11 (6 : Int32) (0 : Int32) p2 p3 p5 ar56))])
        have c174 : ¬ (f11 (6 : Int32) (0 : Int32) p2 p3 p5 ar56) = (0 : Int32) := own_okb _ _ _ _ _ (8 : Int32) _ (by decide) (by decide) (by decide) (by rw [← ear56]; refine (own_cpi (own_ck h3.2 (by decide) (Nat.lt_of_lt_of_le (by decide) h3.1) (by decide))).trans ?_; rw [← ear39]; exact w6)
        refine own_if_eq X hx hby at_174 197 177 (by decide) rfl (fun q => absurd q c174) (fun _ => ?_)
        refine own_aload X hx hby (.ref b56b8b15) at_177 rfl rfl 179 rfl ?_
        refine own_bipush X hx hby (7 : Int32) at_179 rfl 181 rfl ?_
        refine own_iload X hx hby (0 : Int32) at_181 rfl 183 rfl ?_
        refine own_iloadN X hx hby p2 at_183 rfl 184 rfl ?_
        refine own_iloadN X hx hby p3 at_184 rfl 185 rfl ?_
        refine own_iload X hx hby p5 at_185 rfl 187 rfl ?_
        refine own_callS X hx hby hZ (st := []) [(.ref b56b8b15), (.int (7 : Int32)), (.int (0 : Int32)), (.int p2), (.int p3), (.int p5)] rfl hown (hw _ (List.mem_of_getElem? (i := 63) rfl)) (hw _ (List.mem_of_getElem? (i := 64) rfl)) (hw _ (List.mem_of_getElem? (i := 65) rfl)) (hw _ (List.mem_of_getElem? (i := 66) rfl)) (by decide) at_187 (rm11 l Z a0 hw b56b8b15 (7 : Int32) (0 : Int32) p2 p3 p5 ar56 h56 n0 Zs (by decide) A_b56b8b15 E_b56b8b15) eT pd_9 rfl (by rw [hml]; rfl) (by decide) 0 rfl (by decide) (by decide) (by decide) 190 rfl ?_
        intro T187 L9 v9 X hQ
        obtain ⟨rfl, N9, eT⟩ := hQ
        have N := Fr.app N N9
        show Go p e below _ T187 (mkF m 190 #[.val (.int p1), .val (.int p2), .val (.int p3), .val (.int p4), .val (.int p5), .val (.ref b0), .val (.int (0 : Int32)), .val (.ref b56b8b15)] [(.int (f11 (7 : Int32) (0 : Int32) p2 p3 p5 ar56))])
        have c190 : ¬ (f11 (7 : Int32) (0 : Int32) p2 p3 p5 ar56) = (0 : Int32) := own_okb _ _ _ _ _ (0 : Int32) _ (by decide) (by decide) (by decide) (by rw [← ear56]; refine (own_cpi (own_ck h3.2 (by decide) (Nat.lt_of_lt_of_le (by decide) h3.1) (by decide))).trans ?_; rw [← ear39]; exact w7)
        refine own_if_eq X hx hby at_190 197 193 (by decide) rfl (fun q => absurd q c190) (fun _ => ?_)
        refine own_iconst X hx hby (1 : Int32) at_193 rfl 194 rfl ?_
        refine own_goto X hx hby at_194 198 (by decide) ?_
        refine own_retN X hx hby hret hlk (t := .boolean) (z' := (1 : Int32)) (by simp) at_198 (by decide) (by decide) rfl ?_
        rw [eT]
        exact ⟨rfl, N⟩
    · skip
      refine own_aload X hx hby (.ref b0) at_33 rfl rfl 35 rfl ?_
      refine own_iload X hx hby (1 : Int32) at_35 rfl 37 rfl ?_
      refine own_iload X hx hby p5 at_37 rfl 39 rfl ?_
      refine own_callV X hx hby hZ (st := []) [(.int (1 : Int32)), (.int p5)] rfl hown (hw _ (List.mem_of_getElem? (i := 39) rfl)) (hw _ (List.mem_of_getElem? (i := 40) rfl)) (hw _ (List.mem_of_getElem? (i := 42) rfl)) (hw _ (List.mem_of_getElem? (i := 41) rfl)) (hw _ (List.mem_of_getElem? (i := 2) rfl)) (hw _ (List.mem_of_getElem? (i := 43) rfl)) E_b0 (by decide) at_39 (rm8_1 l Z a0 hw b0 p5 b22b2b35b15 ar22 n3 (8 : Int32) h22 n0 Zs h3.1 A_b22b2b35b15 E_b22b2b35b15 g_b22b2b35b15 E_b0 F_bytes_b0 F_length_b0 g_b0) eT pd_6 rfl (by rw [hml]; rfl) (by decide) 0 rfl (by decide) (by decide) (by decide) 42 rfl ?_
      intro T39 L9 v9 X hQ
      obtain ⟨h39, eT⟩ : ∃ z, T39.heap = z := ⟨_, rfl⟩
      rw [eT] at hQ
      obtain ⟨rfl, N9, Kc, A_b22b2b35b15, E_b22b2b35b15⟩ := hQ
      have E_b0 := E_b0.keep Kc
      have F_bytes_b0 := F_bytes_b0.keep Kc (ninS ne_b0_b22b2b35b15 nin0)
      have F_length_b0 := F_length_b0.keep Kc (ninS ne_b0_b22b2b35b15 nin0)
      have A_b8b6 := A_b8b6.keep Kc (ninS ne_b8b6_b22b2b35b15 nin0)
      have E_b8b6 := E_b8b6.keep Kc
      obtain ⟨ar39, ear39⟩ : ∃ z : Nat → Int32, (updI (updI (updI (updI ar22 1 (nar .byte (((p5.toUInt32 >>> ((24 : Int32) &&& 31).toUInt32).toInt32).toInt8.toInt32))) 2 (nar .byte (((p5.toUInt32 >>> ((16 : Int32) &&& 31).toUInt32).toInt32).toInt8.toInt32))) 3 (nar .byte (((p5.toUInt32 >>> ((8 : Int32) &&& 31).toUInt32).toInt32).toInt8.toInt32))) 4 (nar .byte (((p5.toUInt32 >>> ((0 : Int32) &&& 31).toUInt32).toInt32).toInt8.toInt32))) = z := ⟨_, rfl⟩
      rw [ear39] at A_b22b2b35b15
      have K := K.trans Kc (allS (Or.inr sz_b22b2b35b15) all0)
      have Zs := Nat.le_trans Zs Kc.1
      have N := Fr.app N N9
      show Go p e below _ T39 (mkF m 42 #[.val (.int p1), .val (.int p2), .val (.int p3), .val (.int p4), .val (.int p5), .val (.ref b0), .val (.int (1 : Int32)), .unset] [])
      refine own_aload X hx hby (.ref b0) at_42 rfl rfl 44 rfl ?_
      refine own_callV X hx hby hZ (st := []) [] rfl hown (hw _ (List.mem_of_getElem? (i := 44) rfl)) (hw _ (List.mem_of_getElem? (i := 45) rfl)) (hw _ (List.mem_of_getElem? (i := 47) rfl)) (hw _ (List.mem_of_getElem? (i := 46) rfl)) (hw _ (List.mem_of_getElem? (i := 2) rfl)) (hw _ (List.mem_of_getElem? (i := 48) rfl)) E_b0 (by decide) at_44 (rm9 l Z a0 hw b0 h39 n0 Zs F_length_b0) eT pd_0 rfl (by rw [hml]; rfl) (by decide) 0 rfl (by decide) (by decide) (by decide) 47 rfl ?_
      intro T44 L9 v9 X hQ
      obtain ⟨rfl, N9, eT⟩ := hQ
      have N := Fr.app N N9
      show Go p e below _ T44 (mkF m 47 #[.val (.int p1), .val (.int p2), .val (.int p3), .val (.int p4), .val (.int p5), .val (.ref b0), .val (.int (1 : Int32)), .unset] [(.int (8 : Int32))])
      refine own_bipush X hx hby (8 : Int32) at_47 rfl 49 rfl ?_
      have c49 : (8 : Int32) = (8 : Int32) := by decide
      refine own_icmp_eq X hx hby at_49 54 52 (by decide) rfl (fun _ => ?_) (fun q => absurd c49 q)
      refine own_aload X hx hby (.ref b0) at_54 rfl rfl 56 rfl ?_
      by_cases q8 : n3 = 8
      · skip
        subst q8
        refine own_callV X hx hby hZ (st := []) [] rfl hown (hw _ (List.mem_of_getElem? (i := 49) rfl)) (hw _ (List.mem_of_getElem? (i := 50) rfl)) (hw _ (List.mem_of_getElem? (i := 52) rfl)) (hw _ (List.mem_of_getElem? (i := 51) rfl)) (hw _ (List.mem_of_getElem? (i := 2) rfl)) (hw _ (List.mem_of_getElem? (i := 53) rfl)) E_b0 (by decide) at_56 (rm10_c l Z a0 hw b0 b22b2b35b15 ar39 h39 n0 Zs A_b22b2b35b15 E_b22b2b35b15 F_bytes_b0 F_length_b0) eT pd_3 rfl (by rw [hml]; rfl) (by decide) 0 rfl (by decide) (by decide) (by decide) 59 rfl ?_
        intro T56 L9 v9 X hQ
        obtain ⟨h56, eT⟩ : ∃ z, T56.heap = z := ⟨_, rfl⟩
        rw [eT] at hQ
        have lt_b0 := E_b0.lt
        have lt_b22b2b35b15 := A_b22b2b35b15.lt
        have lt_b8b6 := A_b8b6.lt
        obtain ⟨b56b8b7, rfl, N9, Kc, hs_b56b8b7, A_b56b8b7, E_b56b8b7⟩ := hQ
        have g_b56b8b7 : n0 ≤ b56b8b7 := Nat.le_trans Zs hs_b56b8b7
        have sz_b56b8b7 : h0.size ≤ b56b8b7 := Nat.le_trans K.1 hs_b56b8b7
        have ne_b0_b56b8b7 : b0 ≠ b56b8b7 := Nat.ne_of_lt (Nat.lt_of_lt_of_le lt_b0 hs_b56b8b7)
        have ne_b22b2b35b15_b56b8b7 : b22b2b35b15 ≠ b56b8b7 := Nat.ne_of_lt (Nat.lt_of_lt_of_le lt_b22b2b35b15 hs_b56b8b7)
        have ne_b8b6_b56b8b7 : b8b6 ≠ b56b8b7 := Nat.ne_of_lt (Nat.lt_of_lt_of_le lt_b8b6 hs_b56b8b7)
        have E_b0 := E_b0.keep Kc
        have F_bytes_b0 := F_bytes_b0.keep Kc nin0
        have F_length_b0 := F_length_b0.keep Kc nin0
        have A_b8b6 := A_b8b6.keep Kc nin0
        have E_b8b6 := E_b8b6.keep Kc
        have A_b22b2b35b15 := A_b22b2b35b15.keep Kc nin0
        have E_b22b2b35b15 := E_b22b2b35b15.keep Kc
        have K := K.trans Kc all0
        have Zs := Nat.le_trans Zs Kc.1
        have N := Fr.app N N9
        show Go p e below _ T56 (mkF m 59 #[.val (.int p1), .val (.int p2), .val (.int p3), .val (.int p4), .val (.int p5), .val (.ref b0), .val (.int (1 : Int32)), .unset] [(.ref b56b8b7)])
        refine own_astore X hx hby at_59 rfl (l' := #[.val (.int p1), .val (.int p2), .val (.int p3), .val (.int p4), .val (.int p5), .val (.ref b0), .val (.int (1 : Int32)), .val (.ref b56b8b7)]) rfl 61 rfl ?_
        refine own_aload X hx hby (.ref b56b8b7) at_61 rfl rfl 63 rfl ?_
        refine own_arraylength X hx hby hZ (8 : Int32) eT A_b56b8b7 rfl at_63 64 rfl ?_
        refine own_bipush X hx hby (8 : Int32) at_64 rfl 66 rfl ?_
        have c66 : (8 : Int32) = (8 : Int32) := by decide
        refine own_icmp_eq X hx hby at_66 71 69 (by decide) rfl (fun _ => ?_) (fun q => absurd c66 q)
        refine own_aload X hx hby (.ref b56b8b7) at_71 rfl rfl 73 rfl ?_
        refine own_iconst X hx hby (0 : Int32) at_73 rfl 74 rfl ?_
        refine own_iload X hx hby (1 : Int32) at_74 rfl 76 rfl ?_
        refine own_iloadN X hx hby p2 at_76 rfl 77 rfl ?_
        refine own_iloadN X hx hby p3 at_77 rfl 78 rfl ?_
        refine own_iload X hx hby p5 at_78 rfl 80 rfl ?_
        refine own_callS X hx hby hZ (st := []) [(.ref b56b8b7), (.int (0 : Int32)), (.int (1 : Int32)), (.int p2), (.int p3), (.int p5)] rfl hown (hw _ (List.mem_of_getElem? (i := 63) rfl)) (hw _ (List.mem_of_getElem? (i := 64) rfl)) (hw _ (List.mem_of_getElem? (i := 65) rfl)) (hw _ (List.mem_of_getElem? (i := 66) rfl)) (by decide) at_80 (rm11 l Z a0 hw b56b8b7 (0 : Int32) (1 : Int32) p2 p3 p5 ar39 h56 n0 Zs (by decide) A_b56b8b7 E_b56b8b7) eT pd_9 rfl (by rw [hml]; rfl) (by decide) 0 rfl (by decide) (by decide) (by decide) 83 rfl ?_
        intro T80 L9 v9 X hQ
        obtain ⟨rfl, N9, eT⟩ := hQ
        have N := Fr.app N N9
        show Go p e below _ T80 (mkF m 83 #[.val (.int p1), .val (.int p2), .val (.int p3), .val (.int p4), .val (.int p5), .val (.ref b0), .val (.int (1 : Int32)), .val (.ref b56b8b7)] [(.int (f11 (0 : Int32) (1 : Int32) p2 p3 p5 ar39))])
        have c83 : ¬ (f11 (0 : Int32) (1 : Int32) p2 p3 p5 ar39) = (0 : Int32) := own_oka _ _ _ _ _ (24 : Int32) _ (by decide) (by decide) (by decide) (by rw [← ear39]; exact w0)
        refine own_if_eq X hx hby at_83 197 86 (by decide) rfl (fun q => absurd q c83) (fun _ => ?_)
        refine own_aload X hx hby (.ref b56b8b7) at_86 rfl rfl 88 rfl ?_
        refine own_iconst X hx hby (1 : Int32) at_88 rfl 89 rfl ?_
        refine own_iload X hx hby (1 : Int32) at_89 rfl 91 rfl ?_
        refine own_iloadN X hx hby p2 at_91 rfl 92 rfl ?_
        refine own_iloadN X hx hby p3 at_92 rfl 93 rfl ?_
        refine own_iload X hx hby p5 at_93 rfl 95 rfl ?_
        refine own_callS X hx hby hZ (st := []) [(.ref b56b8b7), (.int (1 : Int32)), (.int (1 : Int32)), (.int p2), (.int p3), (.int p5)] rfl hown (hw _ (List.mem_of_getElem? (i := 63) rfl)) (hw _ (List.mem_of_getElem? (i := 64) rfl)) (hw _ (List.mem_of_getElem? (i := 65) rfl)) (hw _ (List.mem_of_getElem? (i := 66) rfl)) (by decide) at_95 (rm11 l Z a0 hw b56b8b7 (1 : Int32) (1 : Int32) p2 p3 p5 ar39 h56 n0 Zs (by decide) A_b56b8b7 E_b56b8b7) eT pd_9 rfl (by rw [hml]; rfl) (by decide) 0 rfl (by decide) (by decide) (by decide) 98 rfl ?_
        intro T95 L9 v9 X hQ
        obtain ⟨rfl, N9, eT⟩ := hQ
        have N := Fr.app N N9
        show Go p e below _ T95 (mkF m 98 #[.val (.int p1), .val (.int p2), .val (.int p3), .val (.int p4), .val (.int p5), .val (.ref b0), .val (.int (1 : Int32)), .val (.ref b56b8b7)] [(.int (f11 (1 : Int32) (1 : Int32) p2 p3 p5 ar39))])
        have c98 : ¬ (f11 (1 : Int32) (1 : Int32) p2 p3 p5 ar39) = (0 : Int32) := own_okv _ _ _ _ _ (24 : Int32) _ (by decide) (by decide) (by decide) (by rw [← ear39]; rfl)
        refine own_if_eq X hx hby at_98 197 101 (by decide) rfl (fun q => absurd q c98) (fun _ => ?_)
        refine own_aload X hx hby (.ref b56b8b7) at_101 rfl rfl 103 rfl ?_
        refine own_iconst X hx hby (2 : Int32) at_103 rfl 104 rfl ?_
        refine own_iload X hx hby (1 : Int32) at_104 rfl 106 rfl ?_
        refine own_iloadN X hx hby p2 at_106 rfl 107 rfl ?_
        refine own_iloadN X hx hby p3 at_107 rfl 108 rfl ?_
        refine own_iload X hx hby p5 at_108 rfl 110 rfl ?_
        refine own_callS X hx hby hZ (st := []) [(.ref b56b8b7), (.int (2 : Int32)), (.int (1 : Int32)), (.int p2), (.int p3), (.int p5)] rfl hown (hw _ (List.mem_of_getElem? (i := 63) rfl)) (hw _ (List.mem_of_getElem? (i := 64) rfl)) (hw _ (List.mem_of_getElem? (i := 65) rfl)) (hw _ (List.mem_of_getElem? (i := 66) rfl)) (by decide) at_110 (rm11 l Z a0 hw b56b8b7 (2 : Int32) (1 : Int32) p2 p3 p5 ar39 h56 n0 Zs (by decide) A_b56b8b7 E_b56b8b7) eT pd_9 rfl (by rw [hml]; rfl) (by decide) 0 rfl (by decide) (by decide) (by decide) 113 rfl ?_
        intro T110 L9 v9 X hQ
        obtain ⟨rfl, N9, eT⟩ := hQ
        have N := Fr.app N N9
        show Go p e below _ T110 (mkF m 113 #[.val (.int p1), .val (.int p2), .val (.int p3), .val (.int p4), .val (.int p5), .val (.ref b0), .val (.int (1 : Int32)), .val (.ref b56b8b7)] [(.int (f11 (2 : Int32) (1 : Int32) p2 p3 p5 ar39))])
        have c113 : ¬ (f11 (2 : Int32) (1 : Int32) p2 p3 p5 ar39) = (0 : Int32) := own_okv _ _ _ _ _ (16 : Int32) _ (by decide) (by decide) (by decide) (by rw [← ear39]; rfl)
        refine own_if_eq X hx hby at_113 197 116 (by decide) rfl (fun q => absurd q c113) (fun _ => ?_)
        refine own_aload X hx hby (.ref b56b8b7) at_116 rfl rfl 118 rfl ?_
        refine own_iconst X hx hby (3 : Int32) at_118 rfl 119 rfl ?_
        refine own_iload X hx hby (1 : Int32) at_119 rfl 121 rfl ?_
        refine own_iloadN X hx hby p2 at_121 rfl 122 rfl ?_
        refine own_iloadN X hx hby p3 at_122 rfl 123 rfl ?_
        refine own_iload X hx hby p5 at_123 rfl 125 rfl ?_
        refine own_callS X hx hby hZ (st := []) [(.ref b56b8b7), (.int (3 : Int32)), (.int (1 : Int32)), (.int p2), (.int p3), (.int p5)] rfl hown (hw _ (List.mem_of_getElem? (i := 63) rfl)) (hw _ (List.mem_of_getElem? (i := 64) rfl)) (hw _ (List.mem_of_getElem? (i := 65) rfl)) (hw _ (List.mem_of_getElem? (i := 66) rfl)) (by decide) at_125 (rm11 l Z a0 hw b56b8b7 (3 : Int32) (1 : Int32) p2 p3 p5 ar39 h56 n0 Zs (by decide) A_b56b8b7 E_b56b8b7) eT pd_9 rfl (by rw [hml]; rfl) (by decide) 0 rfl (by decide) (by decide) (by decide) 128 rfl ?_
        intro T125 L9 v9 X hQ
        obtain ⟨rfl, N9, eT⟩ := hQ
        have N := Fr.app N N9
        show Go p e below _ T125 (mkF m 128 #[.val (.int p1), .val (.int p2), .val (.int p3), .val (.int p4), .val (.int p5), .val (.ref b0), .val (.int (1 : Int32)), .val (.ref b56b8b7)] [(.int (f11 (3 : Int32) (1 : Int32) p2 p3 p5 ar39))])
        have c128 : ¬ (f11 (3 : Int32) (1 : Int32) p2 p3 p5 ar39) = (0 : Int32) := own_okv _ _ _ _ _ (8 : Int32) _ (by decide) (by decide) (by decide) (by rw [← ear39]; rfl)
        refine own_if_eq X hx hby at_128 197 131 (by decide) rfl (fun q => absurd q c128) (fun _ => ?_)
        refine own_aload X hx hby (.ref b56b8b7) at_131 rfl rfl 133 rfl ?_
        refine own_iconst X hx hby (4 : Int32) at_133 rfl 134 rfl ?_
        refine own_iload X hx hby (1 : Int32) at_134 rfl 136 rfl ?_
        refine own_iloadN X hx hby p2 at_136 rfl 137 rfl ?_
        refine own_iloadN X hx hby p3 at_137 rfl 138 rfl ?_
        refine own_iload X hx hby p5 at_138 rfl 140 rfl ?_
        refine own_callS X hx hby hZ (st := []) [(.ref b56b8b7), (.int (4 : Int32)), (.int (1 : Int32)), (.int p2), (.int p3), (.int p5)] rfl hown (hw _ (List.mem_of_getElem? (i := 63) rfl)) (hw _ (List.mem_of_getElem? (i := 64) rfl)) (hw _ (List.mem_of_getElem? (i := 65) rfl)) (hw _ (List.mem_of_getElem? (i := 66) rfl)) (by decide) at_140 (rm11 l Z a0 hw b56b8b7 (4 : Int32) (1 : Int32) p2 p3 p5 ar39 h56 n0 Zs (by decide) A_b56b8b7 E_b56b8b7) eT pd_9 rfl (by rw [hml]; rfl) (by decide) 0 rfl (by decide) (by decide) (by decide) 143 rfl ?_
        intro T140 L9 v9 X hQ
        obtain ⟨rfl, N9, eT⟩ := hQ
        have N := Fr.app N N9
        show Go p e below _ T140 (mkF m 143 #[.val (.int p1), .val (.int p2), .val (.int p3), .val (.int p4), .val (.int p5), .val (.ref b0), .val (.int (1 : Int32)), .val (.ref b56b8b7)] [(.int (f11 (4 : Int32) (1 : Int32) p2 p3 p5 ar39))])
        have c143 : ¬ (f11 (4 : Int32) (1 : Int32) p2 p3 p5 ar39) = (0 : Int32) := own_okv _ _ _ _ _ (0 : Int32) _ (by decide) (by decide) (by decide) (by rw [← ear39]; rfl)
        refine own_if_eq X hx hby at_143 197 146 (by decide) rfl (fun q => absurd q c143) (fun _ => ?_)
        refine own_aload X hx hby (.ref b56b8b7) at_146 rfl rfl 148 rfl ?_
        refine own_iconst X hx hby (5 : Int32) at_148 rfl 149 rfl ?_
        refine own_iload X hx hby (1 : Int32) at_149 rfl 151 rfl ?_
        refine own_iloadN X hx hby p2 at_151 rfl 152 rfl ?_
        refine own_iloadN X hx hby p3 at_152 rfl 153 rfl ?_
        refine own_iload X hx hby p5 at_153 rfl 155 rfl ?_
        refine own_callS X hx hby hZ (st := []) [(.ref b56b8b7), (.int (5 : Int32)), (.int (1 : Int32)), (.int p2), (.int p3), (.int p5)] rfl hown (hw _ (List.mem_of_getElem? (i := 63) rfl)) (hw _ (List.mem_of_getElem? (i := 64) rfl)) (hw _ (List.mem_of_getElem? (i := 65) rfl)) (hw _ (List.mem_of_getElem? (i := 66) rfl)) (by decide) at_155 (rm11 l Z a0 hw b56b8b7 (5 : Int32) (1 : Int32) p2 p3 p5 ar39 h56 n0 Zs (by decide) A_b56b8b7 E_b56b8b7) eT pd_9 rfl (by rw [hml]; rfl) (by decide) 0 rfl (by decide) (by decide) (by decide) 158 rfl ?_
        intro T155 L9 v9 X hQ
        obtain ⟨rfl, N9, eT⟩ := hQ
        have N := Fr.app N N9
        show Go p e below _ T155 (mkF m 158 #[.val (.int p1), .val (.int p2), .val (.int p3), .val (.int p4), .val (.int p5), .val (.ref b0), .val (.int (1 : Int32)), .val (.ref b56b8b7)] [(.int (f11 (5 : Int32) (1 : Int32) p2 p3 p5 ar39))])
        have c158 : ¬ (f11 (5 : Int32) (1 : Int32) p2 p3 p5 ar39) = (0 : Int32) := own_okb _ _ _ _ _ (16 : Int32) _ (by decide) (by decide) (by decide) (by rw [← ear39]; exact w5)
        refine own_if_eq X hx hby at_158 197 161 (by decide) rfl (fun q => absurd q c158) (fun _ => ?_)
        refine own_aload X hx hby (.ref b56b8b7) at_161 rfl rfl 163 rfl ?_
        refine own_bipush X hx hby (6 : Int32) at_163 rfl 165 rfl ?_
        refine own_iload X hx hby (1 : Int32) at_165 rfl 167 rfl ?_
        refine own_iloadN X hx hby p2 at_167 rfl 168 rfl ?_
        refine own_iloadN X hx hby p3 at_168 rfl 169 rfl ?_
        refine own_iload X hx hby p5 at_169 rfl 171 rfl ?_
        refine own_callS X hx hby hZ (st := []) [(.ref b56b8b7), (.int (6 : Int32)), (.int (1 : Int32)), (.int p2), (.int p3), (.int p5)] rfl hown (hw _ (List.mem_of_getElem? (i := 63) rfl)) (hw _ (List.mem_of_getElem? (i := 64) rfl)) (hw _ (List.mem_of_getElem? (i := 65) rfl)) (hw _ (List.mem_of_getElem? (i := 66) rfl)) (by decide) at_171 (rm11 l Z a0 hw b56b8b7 (6 : Int32) (1 : Int32) p2 p3 p5 ar39 h56 n0 Zs (by decide) A_b56b8b7 E_b56b8b7) eT pd_9 rfl (by rw [hml]; rfl) (by decide) 0 rfl (by decide) (by decide) (by decide) 174 rfl ?_
        intro T171 L9 v9 X hQ
        obtain ⟨rfl, N9, eT⟩ := hQ
        have N := Fr.app N N9
        show Go p e below _ T171 (mkF m 174 #[.val (.int p1), .val (.int p2), .val (.int p3), .val (.int p4), .val (.int p5), .val (.ref b0), .val (.int (1 : Int32)), .val (.ref b56b8b7)] [(.int (f11 (6 : Int32) (1 : Int32) p2 p3 p5 ar39))])
        have c174 : ¬ (f11 (6 : Int32) (1 : Int32) p2 p3 p5 ar39) = (0 : Int32) := own_okb _ _ _ _ _ (8 : Int32) _ (by decide) (by decide) (by decide) (by rw [← ear39]; exact w6)
        refine own_if_eq X hx hby at_174 197 177 (by decide) rfl (fun q => absurd q c174) (fun _ => ?_)
        refine own_aload X hx hby (.ref b56b8b7) at_177 rfl rfl 179 rfl ?_
        refine own_bipush X hx hby (7 : Int32) at_179 rfl 181 rfl ?_
        refine own_iload X hx hby (1 : Int32) at_181 rfl 183 rfl ?_
        refine own_iloadN X hx hby p2 at_183 rfl 184 rfl ?_
        refine own_iloadN X hx hby p3 at_184 rfl 185 rfl ?_
        refine own_iload X hx hby p5 at_185 rfl 187 rfl ?_
        refine own_callS X hx hby hZ (st := []) [(.ref b56b8b7), (.int (7 : Int32)), (.int (1 : Int32)), (.int p2), (.int p3), (.int p5)] rfl hown (hw _ (List.mem_of_getElem? (i := 63) rfl)) (hw _ (List.mem_of_getElem? (i := 64) rfl)) (hw _ (List.mem_of_getElem? (i := 65) rfl)) (hw _ (List.mem_of_getElem? (i := 66) rfl)) (by decide) at_187 (rm11 l Z a0 hw b56b8b7 (7 : Int32) (1 : Int32) p2 p3 p5 ar39 h56 n0 Zs (by decide) A_b56b8b7 E_b56b8b7) eT pd_9 rfl (by rw [hml]; rfl) (by decide) 0 rfl (by decide) (by decide) (by decide) 190 rfl ?_
        intro T187 L9 v9 X hQ
        obtain ⟨rfl, N9, eT⟩ := hQ
        have N := Fr.app N N9
        show Go p e below _ T187 (mkF m 190 #[.val (.int p1), .val (.int p2), .val (.int p3), .val (.int p4), .val (.int p5), .val (.ref b0), .val (.int (1 : Int32)), .val (.ref b56b8b7)] [(.int (f11 (7 : Int32) (1 : Int32) p2 p3 p5 ar39))])
        have c190 : ¬ (f11 (7 : Int32) (1 : Int32) p2 p3 p5 ar39) = (0 : Int32) := own_okb _ _ _ _ _ (0 : Int32) _ (by decide) (by decide) (by decide) (by rw [← ear39]; exact w7)
        refine own_if_eq X hx hby at_190 197 193 (by decide) rfl (fun q => absurd q c190) (fun _ => ?_)
        refine own_iconst X hx hby (1 : Int32) at_193 rfl 194 rfl ?_
        refine own_goto X hx hby at_194 198 (by decide) ?_
        refine own_retN X hx hby hret hlk (t := .boolean) (z' := (1 : Int32)) (by simp) at_198 (by decide) (by decide) rfl ?_
        rw [eT]
        exact ⟨rfl, N⟩
      · skip
        refine own_callV X hx hby hZ (st := []) [] rfl hown (hw _ (List.mem_of_getElem? (i := 49) rfl)) (hw _ (List.mem_of_getElem? (i := 50) rfl)) (hw _ (List.mem_of_getElem? (i := 52) rfl)) (hw _ (List.mem_of_getElem? (i := 51) rfl)) (hw _ (List.mem_of_getElem? (i := 2) rfl)) (hw _ (List.mem_of_getElem? (i := 53) rfl)) E_b0 (by decide) at_56 (rm10_n l Z a0 hw b0 b22b2b35b15 ar39 n3 h39 n0 Zs (own_n8 q8 h3.2) h3.2 A_b22b2b35b15 E_b22b2b35b15 F_bytes_b0 F_length_b0) eT pd_3 rfl (by rw [hml]; rfl) (by decide) 0 rfl (by decide) (by decide) (by decide) 59 rfl ?_
        intro T56 L9 v9 X hQ
        obtain ⟨h56, eT⟩ : ∃ z, T56.heap = z := ⟨_, rfl⟩
        rw [eT] at hQ
        have lt_b0 := E_b0.lt
        have lt_b22b2b35b15 := A_b22b2b35b15.lt
        have lt_b8b6 := A_b8b6.lt
        obtain ⟨b56b8b15, rfl, N9, Kc, hs_b56b8b15, A_b56b8b15, E_b56b8b15⟩ := hQ
        have g_b56b8b15 : n0 ≤ b56b8b15 := Nat.le_trans Zs hs_b56b8b15
        have sz_b56b8b15 : h0.size ≤ b56b8b15 := Nat.le_trans K.1 hs_b56b8b15
        have ne_b0_b56b8b15 : b0 ≠ b56b8b15 := Nat.ne_of_lt (Nat.lt_of_lt_of_le lt_b0 hs_b56b8b15)
        have ne_b22b2b35b15_b56b8b15 : b22b2b35b15 ≠ b56b8b15 := Nat.ne_of_lt (Nat.lt_of_lt_of_le lt_b22b2b35b15 hs_b56b8b15)
        have ne_b8b6_b56b8b15 : b8b6 ≠ b56b8b15 := Nat.ne_of_lt (Nat.lt_of_lt_of_le lt_b8b6 hs_b56b8b15)
        have E_b0 := E_b0.keep Kc
        have F_bytes_b0 := F_bytes_b0.keep Kc nin0
        have F_length_b0 := F_length_b0.keep Kc nin0
        have A_b8b6 := A_b8b6.keep Kc nin0
        have E_b8b6 := E_b8b6.keep Kc
        have A_b22b2b35b15 := A_b22b2b35b15.keep Kc nin0
        have E_b22b2b35b15 := E_b22b2b35b15.keep Kc
        obtain ⟨ar56, ear56⟩ : ∃ z : Nat → Int32, (own_cp ar39 (Int32.toNatClampNeg (f7 (Int32.ofNat n3) (8 : Int32)))) = z := ⟨_, rfl⟩
        rw [ear56] at A_b56b8b15
        have K := K.trans Kc all0
        have Zs := Nat.le_trans Zs Kc.1
        have N := Fr.app N N9
        show Go p e below _ T56 (mkF m 59 #[.val (.int p1), .val (.int p2), .val (.int p3), .val (.int p4), .val (.int p5), .val (.ref b0), .val (.int (1 : Int32)), .unset] [(.ref b56b8b15)])
        refine own_astore X hx hby at_59 rfl (l' := #[.val (.int p1), .val (.int p2), .val (.int p3), .val (.int p4), .val (.int p5), .val (.ref b0), .val (.int (1 : Int32)), .val (.ref b56b8b15)]) rfl 61 rfl ?_
        refine own_aload X hx hby (.ref b56b8b15) at_61 rfl rfl 63 rfl ?_
        refine own_arraylength X hx hby hZ (8 : Int32) eT A_b56b8b15 rfl at_63 64 rfl ?_
        refine own_bipush X hx hby (8 : Int32) at_64 rfl 66 rfl ?_
        have c66 : (8 : Int32) = (8 : Int32) := by decide
        refine own_icmp_eq X hx hby at_66 71 69 (by decide) rfl (fun _ => ?_) (fun q => absurd c66 q)
        refine own_aload X hx hby (.ref b56b8b15) at_71 rfl rfl 73 rfl ?_
        refine own_iconst X hx hby (0 : Int32) at_73 rfl 74 rfl ?_
        refine own_iload X hx hby (1 : Int32) at_74 rfl 76 rfl ?_
        refine own_iloadN X hx hby p2 at_76 rfl 77 rfl ?_
        refine own_iloadN X hx hby p3 at_77 rfl 78 rfl ?_
        refine own_iload X hx hby p5 at_78 rfl 80 rfl ?_
        refine own_callS X hx hby hZ (st := []) [(.ref b56b8b15), (.int (0 : Int32)), (.int (1 : Int32)), (.int p2), (.int p3), (.int p5)] rfl hown (hw _ (List.mem_of_getElem? (i := 63) rfl)) (hw _ (List.mem_of_getElem? (i := 64) rfl)) (hw _ (List.mem_of_getElem? (i := 65) rfl)) (hw _ (List.mem_of_getElem? (i := 66) rfl)) (by decide) at_80 (rm11 l Z a0 hw b56b8b15 (0 : Int32) (1 : Int32) p2 p3 p5 ar56 h56 n0 Zs (by decide) A_b56b8b15 E_b56b8b15) eT pd_9 rfl (by rw [hml]; rfl) (by decide) 0 rfl (by decide) (by decide) (by decide) 83 rfl ?_
        intro T80 L9 v9 X hQ
        obtain ⟨rfl, N9, eT⟩ := hQ
        have N := Fr.app N N9
        show Go p e below _ T80 (mkF m 83 #[.val (.int p1), .val (.int p2), .val (.int p3), .val (.int p4), .val (.int p5), .val (.ref b0), .val (.int (1 : Int32)), .val (.ref b56b8b15)] [(.int (f11 (0 : Int32) (1 : Int32) p2 p3 p5 ar56))])
        have c83 : ¬ (f11 (0 : Int32) (1 : Int32) p2 p3 p5 ar56) = (0 : Int32) := own_oka _ _ _ _ _ (24 : Int32) _ (by decide) (by decide) (by decide) (by rw [← ear56]; refine (own_cpi (own_ck h3.2 (by decide) (Nat.lt_of_lt_of_le (by decide) h3.1) (by decide))).trans ?_; rw [← ear39]; exact w0)
        refine own_if_eq X hx hby at_83 197 86 (by decide) rfl (fun q => absurd q c83) (fun _ => ?_)
        refine own_aload X hx hby (.ref b56b8b15) at_86 rfl rfl 88 rfl ?_
        refine own_iconst X hx hby (1 : Int32) at_88 rfl 89 rfl ?_
        refine own_iload X hx hby (1 : Int32) at_89 rfl 91 rfl ?_
        refine own_iloadN X hx hby p2 at_91 rfl 92 rfl ?_
        refine own_iloadN X hx hby p3 at_92 rfl 93 rfl ?_
        refine own_iload X hx hby p5 at_93 rfl 95 rfl ?_
        refine own_callS X hx hby hZ (st := []) [(.ref b56b8b15), (.int (1 : Int32)), (.int (1 : Int32)), (.int p2), (.int p3), (.int p5)] rfl hown (hw _ (List.mem_of_getElem? (i := 63) rfl)) (hw _ (List.mem_of_getElem? (i := 64) rfl)) (hw _ (List.mem_of_getElem? (i := 65) rfl)) (hw _ (List.mem_of_getElem? (i := 66) rfl)) (by decide) at_95 (rm11 l Z a0 hw b56b8b15 (1 : Int32) (1 : Int32) p2 p3 p5 ar56 h56 n0 Zs (by decide) A_b56b8b15 E_b56b8b15) eT pd_9 rfl (by rw [hml]; rfl) (by decide) 0 rfl (by decide) (by decide) (by decide) 98 rfl ?_
        intro T95 L9 v9 X hQ
        obtain ⟨rfl, N9, eT⟩ := hQ
        have N := Fr.app N N9
        show Go p e below _ T95 (mkF m 98 #[.val (.int p1), .val (.int p2), .val (.int p3), .val (.int p4), .val (.int p5), .val (.ref b0), .val (.int (1 : Int32)), .val (.ref b56b8b15)] [(.int (f11 (1 : Int32) (1 : Int32) p2 p3 p5 ar56))])
        have c98 : ¬ (f11 (1 : Int32) (1 : Int32) p2 p3 p5 ar56) = (0 : Int32) := own_okv _ _ _ _ _ (24 : Int32) _ (by decide) (by decide) (by decide) (by rw [← ear56]; refine (own_cpi (own_ck h3.2 (by decide) (Nat.lt_of_lt_of_le (by decide) h3.1) (by decide))).trans ?_; rw [← ear39]; rfl)
        refine own_if_eq X hx hby at_98 197 101 (by decide) rfl (fun q => absurd q c98) (fun _ => ?_)
        refine own_aload X hx hby (.ref b56b8b15) at_101 rfl rfl 103 rfl ?_
        refine own_iconst X hx hby (2 : Int32) at_103 rfl 104 rfl ?_
        refine own_iload X hx hby (1 : Int32) at_104 rfl 106 rfl ?_
        refine own_iloadN X hx hby p2 at_106 rfl 107 rfl ?_
        refine own_iloadN X hx hby p3 at_107 rfl 108 rfl ?_
        refine own_iload X hx hby p5 at_108 rfl 110 rfl ?_
        refine own_callS X hx hby hZ (st := []) [(.ref b56b8b15), (.int (2 : Int32)), (.int (1 : Int32)), (.int p2), (.int p3), (.int p5)] rfl hown (hw _ (List.mem_of_getElem? (i := 63) rfl)) (hw _ (List.mem_of_getElem? (i := 64) rfl)) (hw _ (List.mem_of_getElem? (i := 65) rfl)) (hw _ (List.mem_of_getElem? (i := 66) rfl)) (by decide) at_110 (rm11 l Z a0 hw b56b8b15 (2 : Int32) (1 : Int32) p2 p3 p5 ar56 h56 n0 Zs (by decide) A_b56b8b15 E_b56b8b15) eT pd_9 rfl (by rw [hml]; rfl) (by decide) 0 rfl (by decide) (by decide) (by decide) 113 rfl ?_
        intro T110 L9 v9 X hQ
        obtain ⟨rfl, N9, eT⟩ := hQ
        have N := Fr.app N N9
        show Go p e below _ T110 (mkF m 113 #[.val (.int p1), .val (.int p2), .val (.int p3), .val (.int p4), .val (.int p5), .val (.ref b0), .val (.int (1 : Int32)), .val (.ref b56b8b15)] [(.int (f11 (2 : Int32) (1 : Int32) p2 p3 p5 ar56))])
        have c113 : ¬ (f11 (2 : Int32) (1 : Int32) p2 p3 p5 ar56) = (0 : Int32) := own_okv _ _ _ _ _ (16 : Int32) _ (by decide) (by decide) (by decide) (by rw [← ear56]; refine (own_cpi (own_ck h3.2 (by decide) (Nat.lt_of_lt_of_le (by decide) h3.1) (by decide))).trans ?_; rw [← ear39]; rfl)
        refine own_if_eq X hx hby at_113 197 116 (by decide) rfl (fun q => absurd q c113) (fun _ => ?_)
        refine own_aload X hx hby (.ref b56b8b15) at_116 rfl rfl 118 rfl ?_
        refine own_iconst X hx hby (3 : Int32) at_118 rfl 119 rfl ?_
        refine own_iload X hx hby (1 : Int32) at_119 rfl 121 rfl ?_
        refine own_iloadN X hx hby p2 at_121 rfl 122 rfl ?_
        refine own_iloadN X hx hby p3 at_122 rfl 123 rfl ?_
        refine own_iload X hx hby p5 at_123 rfl 125 rfl ?_
        refine own_callS X hx hby hZ (st := []) [(.ref b56b8b15), (.int (3 : Int32)), (.int (1 : Int32)), (.int p2), (.int p3), (.int p5)] rfl hown (hw _ (List.mem_of_getElem? (i := 63) rfl)) (hw _ (List.mem_of_getElem? (i := 64) rfl)) (hw _ (List.mem_of_getElem? (i := 65) rfl)) (hw _ (List.mem_of_getElem? (i := 66) rfl)) (by decide) at_125 (rm11 l Z a0 hw b56b8b15 (3 : Int32) (1 : Int32) p2 p3 p5 ar56 h56 n0 Zs (by decide) A_b56b8b15 E_b56b8b15) eT pd_9 rfl (by rw [hml]; rfl) (by decide) 0 rfl (by decide) (by decide) (by decide) 128 rfl ?_
        intro T125 L9 v9 X hQ
        obtain ⟨rfl, N9, eT⟩ := hQ
        have N := Fr.app N N9
        show Go p e below _ T125 (mkF m 128 #[.val (.int p1), .val (.int p2), .val (.int p3), .val (.int p4), .val (.int p5), .val (.ref b0), .val (.int (1 : Int32)), .val (.ref b56b8b15)] [(.int (f11 (3 : Int32) (1 : Int32) p2 p3 p5 ar56))])
        have c128 : ¬ (f11 (3 : Int32) (1 : Int32) p2 p3 p5 ar56) = (0 : Int32) := own_okv _ _ _ _ _ (8 : Int32) _ (by decide) (by decide) (by decide) (by rw [← ear56]; refine (own_cpi (own_ck h3.2 (by decide) (Nat.lt_of_lt_of_le (by decide) h3.1) (by decide))).trans ?_; rw [← ear39]; rfl)
        refine own_if_eq X hx hby at_128 197 131 (by decide) rfl (fun q => absurd q c128) (fun _ => ?_)
        refine own_aload X hx hby (.ref b56b8b15) at_131 rfl rfl 133 rfl ?_
        refine own_iconst X hx hby (4 : Int32) at_133 rfl 134 rfl ?_
        refine own_iload X hx hby (1 : Int32) at_134 rfl 136 rfl ?_
        refine own_iloadN X hx hby p2 at_136 rfl 137 rfl ?_
        refine own_iloadN X hx hby p3 at_137 rfl 138 rfl ?_
        refine own_iload X hx hby p5 at_138 rfl 140 rfl ?_
        refine own_callS X hx hby hZ (st := []) [(.ref b56b8b15), (.int (4 : Int32)), (.int (1 : Int32)), (.int p2), (.int p3), (.int p5)] rfl hown (hw _ (List.mem_of_getElem? (i := 63) rfl)) (hw _ (List.mem_of_getElem? (i := 64) rfl)) (hw _ (List.mem_of_getElem? (i := 65) rfl)) (hw _ (List.mem_of_getElem? (i := 66) rfl)) (by decide) at_140 (rm11 l Z a0 hw b56b8b15 (4 : Int32) (1 : Int32) p2 p3 p5 ar56 h56 n0 Zs (by decide) A_b56b8b15 E_b56b8b15) eT pd_9 rfl (by rw [hml]; rfl) (by decide) 0 rfl (by decide) (by decide) (by decide) 143 rfl ?_
        intro T140 L9 v9 X hQ
        obtain ⟨rfl, N9, eT⟩ := hQ
        have N := Fr.app N N9
        show Go p e below _ T140 (mkF m 143 #[.val (.int p1), .val (.int p2), .val (.int p3), .val (.int p4), .val (.int p5), .val (.ref b0), .val (.int (1 : Int32)), .val (.ref b56b8b15)] [(.int (f11 (4 : Int32) (1 : Int32) p2 p3 p5 ar56))])
        have c143 : ¬ (f11 (4 : Int32) (1 : Int32) p2 p3 p5 ar56) = (0 : Int32) := own_okv _ _ _ _ _ (0 : Int32) _ (by decide) (by decide) (by decide) (by rw [← ear56]; refine (own_cpi (own_ck h3.2 (by decide) (Nat.lt_of_lt_of_le (by decide) h3.1) (by decide))).trans ?_; rw [← ear39]; rfl)
        refine own_if_eq X hx hby at_143 197 146 (by decide) rfl (fun q => absurd q c143) (fun _ => ?_)
        refine own_aload X hx hby (.ref b56b8b15) at_146 rfl rfl 148 rfl ?_
        refine own_iconst X hx hby (5 : Int32) at_148 rfl 149 rfl ?_
        refine own_iload X hx hby (1 : Int32) at_149 rfl 151 rfl ?_
        refine own_iloadN X hx hby p2 at_151 rfl 152 rfl ?_
        refine own_iloadN X hx hby p3 at_152 rfl 153 rfl ?_
        refine own_iload X hx hby p5 at_153 rfl 155 rfl ?_
        refine own_callS X hx hby hZ (st := []) [(.ref b56b8b15), (.int (5 : Int32)), (.int (1 : Int32)), (.int p2), (.int p3), (.int p5)] rfl hown (hw _ (List.mem_of_getElem? (i := 63) rfl)) (hw _ (List.mem_of_getElem? (i := 64) rfl)) (hw _ (List.mem_of_getElem? (i := 65) rfl)) (hw _ (List.mem_of_getElem? (i := 66) rfl)) (by decide) at_155 (rm11 l Z a0 hw b56b8b15 (5 : Int32) (1 : Int32) p2 p3 p5 ar56 h56 n0 Zs (by decide) A_b56b8b15 E_b56b8b15) eT pd_9 rfl (by rw [hml]; rfl) (by decide) 0 rfl (by decide) (by decide) (by decide) 158 rfl ?_
        intro T155 L9 v9 X hQ
        obtain ⟨rfl, N9, eT⟩ := hQ
        have N := Fr.app N N9
        show Go p e below _ T155 (mkF m 158 #[.val (.int p1), .val (.int p2), .val (.int p3), .val (.int p4), .val (.int p5), .val (.ref b0), .val (.int (1 : Int32)), .val (.ref b56b8b15)] [(.int (f11 (5 : Int32) (1 : Int32) p2 p3 p5 ar56))])
        have c158 : ¬ (f11 (5 : Int32) (1 : Int32) p2 p3 p5 ar56) = (0 : Int32) := own_okb _ _ _ _ _ (16 : Int32) _ (by decide) (by decide) (by decide) (by rw [← ear56]; refine (own_cpi (own_ck h3.2 (by decide) (Nat.lt_of_lt_of_le (by decide) h3.1) (by decide))).trans ?_; rw [← ear39]; exact w5)
        refine own_if_eq X hx hby at_158 197 161 (by decide) rfl (fun q => absurd q c158) (fun _ => ?_)
        refine own_aload X hx hby (.ref b56b8b15) at_161 rfl rfl 163 rfl ?_
        refine own_bipush X hx hby (6 : Int32) at_163 rfl 165 rfl ?_
        refine own_iload X hx hby (1 : Int32) at_165 rfl 167 rfl ?_
        refine own_iloadN X hx hby p2 at_167 rfl 168 rfl ?_
        refine own_iloadN X hx hby p3 at_168 rfl 169 rfl ?_
        refine own_iload X hx hby p5 at_169 rfl 171 rfl ?_
        refine own_callS X hx hby hZ (st := []) [(.ref b56b8b15), (.int (6 : Int32)), (.int (1 : Int32)), (.int p2), (.int p3), (.int p5)] rfl hown (hw _ (List.mem_of_getElem? (i := 63) rfl)) (hw _ (List.mem_of_getElem? (i := 64) rfl)) (hw _ (List.mem_of_getElem? (i := 65) rfl)) (hw _ (List.mem_of_getElem? (i := 66) rfl)) (by decide) at_171 (rm11 l Z a0 hw b56b8b15 (6 : Int32) (1 : Int32) p2 p3 p5 ar56 h56 n0 Zs (by decide) A_b56b8b15 E_b56b8b15) eT pd_9 rfl (by rw [hml]; rfl) (by decide) 0 rfl (by decide) (by decide) (by decide) 174 rfl ?_
        intro T171 L9 v9 X hQ
        obtain ⟨rfl, N9, eT⟩ := hQ
        have N := Fr.app N N9
        show Go p e below _ T171 (mkF m 174 #[.val (.int p1), .val (.int p2), .val (.int p3), .val (.int p4), .val (.int p5), .val (.ref b0), .val (.int (1 : Int32)), .val (.ref b56b8b15)] [(.int (f11 (6 : Int32) (1 : Int32) p2 p3 p5 ar56))])
        have c174 : ¬ (f11 (6 : Int32) (1 : Int32) p2 p3 p5 ar56) = (0 : Int32) := own_okb _ _ _ _ _ (8 : Int32) _ (by decide) (by decide) (by decide) (by rw [← ear56]; refine (own_cpi (own_ck h3.2 (by decide) (Nat.lt_of_lt_of_le (by decide) h3.1) (by decide))).trans ?_; rw [← ear39]; exact w6)
        refine own_if_eq X hx hby at_174 197 177 (by decide) rfl (fun q => absurd q c174) (fun _ => ?_)
        refine own_aload X hx hby (.ref b56b8b15) at_177 rfl rfl 179 rfl ?_
        refine own_bipush X hx hby (7 : Int32) at_179 rfl 181 rfl ?_
        refine own_iload X hx hby (1 : Int32) at_181 rfl 183 rfl ?_
        refine own_iloadN X hx hby p2 at_183 rfl 184 rfl ?_
        refine own_iloadN X hx hby p3 at_184 rfl 185 rfl ?_
        refine own_iload X hx hby p5 at_185 rfl 187 rfl ?_
        refine own_callS X hx hby hZ (st := []) [(.ref b56b8b15), (.int (7 : Int32)), (.int (1 : Int32)), (.int p2), (.int p3), (.int p5)] rfl hown (hw _ (List.mem_of_getElem? (i := 63) rfl)) (hw _ (List.mem_of_getElem? (i := 64) rfl)) (hw _ (List.mem_of_getElem? (i := 65) rfl)) (hw _ (List.mem_of_getElem? (i := 66) rfl)) (by decide) at_187 (rm11 l Z a0 hw b56b8b15 (7 : Int32) (1 : Int32) p2 p3 p5 ar56 h56 n0 Zs (by decide) A_b56b8b15 E_b56b8b15) eT pd_9 rfl (by rw [hml]; rfl) (by decide) 0 rfl (by decide) (by decide) (by decide) 190 rfl ?_
        intro T187 L9 v9 X hQ
        obtain ⟨rfl, N9, eT⟩ := hQ
        have N := Fr.app N N9
        show Go p e below _ T187 (mkF m 190 #[.val (.int p1), .val (.int p2), .val (.int p3), .val (.int p4), .val (.int p5), .val (.ref b0), .val (.int (1 : Int32)), .val (.ref b56b8b15)] [(.int (f11 (7 : Int32) (1 : Int32) p2 p3 p5 ar56))])
        have c190 : ¬ (f11 (7 : Int32) (1 : Int32) p2 p3 p5 ar56) = (0 : Int32) := own_okb _ _ _ _ _ (0 : Int32) _ (by decide) (by decide) (by decide) (by rw [← ear56]; refine (own_cpi (own_ck h3.2 (by decide) (Nat.lt_of_lt_of_le (by decide) h3.1) (by decide))).trans ?_; rw [← ear39]; exact w7)
        refine own_if_eq X hx hby at_190 197 193 (by decide) rfl (fun q => absurd q c190) (fun _ => ?_)
        refine own_iconst X hx hby (1 : Int32) at_193 rfl 194 rfl ?_
        refine own_goto X hx hby at_194 198 (by decide) ?_
        refine own_retN X hx hby hret hlk (t := .boolean) (z' := (1 : Int32)) (by simp) at_198 (by decide) (by decide) rfl ?_
        rw [eT]
        exact ⟨rfl, N⟩
    · skip
      refine own_aload X hx hby (.ref b0) at_33 rfl rfl 35 rfl ?_
      refine own_iload X hx hby (2 : Int32) at_35 rfl 37 rfl ?_
      refine own_iload X hx hby p5 at_37 rfl 39 rfl ?_
      refine own_callV X hx hby hZ (st := []) [(.int (2 : Int32)), (.int p5)] rfl hown (hw _ (List.mem_of_getElem? (i := 39) rfl)) (hw _ (List.mem_of_getElem? (i := 40) rfl)) (hw _ (List.mem_of_getElem? (i := 42) rfl)) (hw _ (List.mem_of_getElem? (i := 41) rfl)) (hw _ (List.mem_of_getElem? (i := 2) rfl)) (hw _ (List.mem_of_getElem? (i := 43) rfl)) E_b0 (by decide) at_39 (rm8_2 l Z a0 hw b0 p5 b22b2b35b15 ar22 n3 (8 : Int32) h22 n0 Zs h3.1 A_b22b2b35b15 E_b22b2b35b15 g_b22b2b35b15 E_b0 F_bytes_b0 F_length_b0 g_b0) eT pd_6 rfl (by rw [hml]; rfl) (by decide) 0 rfl (by decide) (by decide) (by decide) 42 rfl ?_
      intro T39 L9 v9 X hQ
      obtain ⟨h39, eT⟩ : ∃ z, T39.heap = z := ⟨_, rfl⟩
      rw [eT] at hQ
      obtain ⟨rfl, N9, Kc, A_b22b2b35b15, E_b22b2b35b15⟩ := hQ
      have E_b0 := E_b0.keep Kc
      have F_bytes_b0 := F_bytes_b0.keep Kc (ninS ne_b0_b22b2b35b15 nin0)
      have F_length_b0 := F_length_b0.keep Kc (ninS ne_b0_b22b2b35b15 nin0)
      have A_b8b6 := A_b8b6.keep Kc (ninS ne_b8b6_b22b2b35b15 nin0)
      have E_b8b6 := E_b8b6.keep Kc
      obtain ⟨ar39, ear39⟩ : ∃ z : Nat → Int32, (updI (updI (updI (updI ar22 2 (nar .byte (((p5.toUInt32 >>> ((24 : Int32) &&& 31).toUInt32).toInt32).toInt8.toInt32))) 3 (nar .byte (((p5.toUInt32 >>> ((16 : Int32) &&& 31).toUInt32).toInt32).toInt8.toInt32))) 4 (nar .byte (((p5.toUInt32 >>> ((8 : Int32) &&& 31).toUInt32).toInt32).toInt8.toInt32))) 5 (nar .byte (((p5.toUInt32 >>> ((0 : Int32) &&& 31).toUInt32).toInt32).toInt8.toInt32))) = z := ⟨_, rfl⟩
      rw [ear39] at A_b22b2b35b15
      have K := K.trans Kc (allS (Or.inr sz_b22b2b35b15) all0)
      have Zs := Nat.le_trans Zs Kc.1
      have N := Fr.app N N9
      show Go p e below _ T39 (mkF m 42 #[.val (.int p1), .val (.int p2), .val (.int p3), .val (.int p4), .val (.int p5), .val (.ref b0), .val (.int (2 : Int32)), .unset] [])
      refine own_aload X hx hby (.ref b0) at_42 rfl rfl 44 rfl ?_
      refine own_callV X hx hby hZ (st := []) [] rfl hown (hw _ (List.mem_of_getElem? (i := 44) rfl)) (hw _ (List.mem_of_getElem? (i := 45) rfl)) (hw _ (List.mem_of_getElem? (i := 47) rfl)) (hw _ (List.mem_of_getElem? (i := 46) rfl)) (hw _ (List.mem_of_getElem? (i := 2) rfl)) (hw _ (List.mem_of_getElem? (i := 48) rfl)) E_b0 (by decide) at_44 (rm9 l Z a0 hw b0 h39 n0 Zs F_length_b0) eT pd_0 rfl (by rw [hml]; rfl) (by decide) 0 rfl (by decide) (by decide) (by decide) 47 rfl ?_
      intro T44 L9 v9 X hQ
      obtain ⟨rfl, N9, eT⟩ := hQ
      have N := Fr.app N N9
      show Go p e below _ T44 (mkF m 47 #[.val (.int p1), .val (.int p2), .val (.int p3), .val (.int p4), .val (.int p5), .val (.ref b0), .val (.int (2 : Int32)), .unset] [(.int (8 : Int32))])
      refine own_bipush X hx hby (8 : Int32) at_47 rfl 49 rfl ?_
      have c49 : (8 : Int32) = (8 : Int32) := by decide
      refine own_icmp_eq X hx hby at_49 54 52 (by decide) rfl (fun _ => ?_) (fun q => absurd c49 q)
      refine own_aload X hx hby (.ref b0) at_54 rfl rfl 56 rfl ?_
      by_cases q8 : n3 = 8
      · skip
        subst q8
        refine own_callV X hx hby hZ (st := []) [] rfl hown (hw _ (List.mem_of_getElem? (i := 49) rfl)) (hw _ (List.mem_of_getElem? (i := 50) rfl)) (hw _ (List.mem_of_getElem? (i := 52) rfl)) (hw _ (List.mem_of_getElem? (i := 51) rfl)) (hw _ (List.mem_of_getElem? (i := 2) rfl)) (hw _ (List.mem_of_getElem? (i := 53) rfl)) E_b0 (by decide) at_56 (rm10_c l Z a0 hw b0 b22b2b35b15 ar39 h39 n0 Zs A_b22b2b35b15 E_b22b2b35b15 F_bytes_b0 F_length_b0) eT pd_3 rfl (by rw [hml]; rfl) (by decide) 0 rfl (by decide) (by decide) (by decide) 59 rfl ?_
        intro T56 L9 v9 X hQ
        obtain ⟨h56, eT⟩ : ∃ z, T56.heap = z := ⟨_, rfl⟩
        rw [eT] at hQ
        have lt_b0 := E_b0.lt
        have lt_b22b2b35b15 := A_b22b2b35b15.lt
        have lt_b8b6 := A_b8b6.lt
        obtain ⟨b56b8b7, rfl, N9, Kc, hs_b56b8b7, A_b56b8b7, E_b56b8b7⟩ := hQ
        have g_b56b8b7 : n0 ≤ b56b8b7 := Nat.le_trans Zs hs_b56b8b7
        have sz_b56b8b7 : h0.size ≤ b56b8b7 := Nat.le_trans K.1 hs_b56b8b7
        have ne_b0_b56b8b7 : b0 ≠ b56b8b7 := Nat.ne_of_lt (Nat.lt_of_lt_of_le lt_b0 hs_b56b8b7)
        have ne_b22b2b35b15_b56b8b7 : b22b2b35b15 ≠ b56b8b7 := Nat.ne_of_lt (Nat.lt_of_lt_of_le lt_b22b2b35b15 hs_b56b8b7)
        have ne_b8b6_b56b8b7 : b8b6 ≠ b56b8b7 := Nat.ne_of_lt (Nat.lt_of_lt_of_le lt_b8b6 hs_b56b8b7)
        have E_b0 := E_b0.keep Kc
        have F_bytes_b0 := F_bytes_b0.keep Kc nin0
        have F_length_b0 := F_length_b0.keep Kc nin0
        have A_b8b6 := A_b8b6.keep Kc nin0
        have E_b8b6 := E_b8b6.keep Kc
        have A_b22b2b35b15 := A_b22b2b35b15.keep Kc nin0
        have E_b22b2b35b15 := E_b22b2b35b15.keep Kc
        have K := K.trans Kc all0
        have Zs := Nat.le_trans Zs Kc.1
        have N := Fr.app N N9
        show Go p e below _ T56 (mkF m 59 #[.val (.int p1), .val (.int p2), .val (.int p3), .val (.int p4), .val (.int p5), .val (.ref b0), .val (.int (2 : Int32)), .unset] [(.ref b56b8b7)])
        refine own_astore X hx hby at_59 rfl (l' := #[.val (.int p1), .val (.int p2), .val (.int p3), .val (.int p4), .val (.int p5), .val (.ref b0), .val (.int (2 : Int32)), .val (.ref b56b8b7)]) rfl 61 rfl ?_
        refine own_aload X hx hby (.ref b56b8b7) at_61 rfl rfl 63 rfl ?_
        refine own_arraylength X hx hby hZ (8 : Int32) eT A_b56b8b7 rfl at_63 64 rfl ?_
        refine own_bipush X hx hby (8 : Int32) at_64 rfl 66 rfl ?_
        have c66 : (8 : Int32) = (8 : Int32) := by decide
        refine own_icmp_eq X hx hby at_66 71 69 (by decide) rfl (fun _ => ?_) (fun q => absurd c66 q)
        refine own_aload X hx hby (.ref b56b8b7) at_71 rfl rfl 73 rfl ?_
        refine own_iconst X hx hby (0 : Int32) at_73 rfl 74 rfl ?_
        refine own_iload X hx hby (2 : Int32) at_74 rfl 76 rfl ?_
        refine own_iloadN X hx hby p2 at_76 rfl 77 rfl ?_
        refine own_iloadN X hx hby p3 at_77 rfl 78 rfl ?_
        refine own_iload X hx hby p5 at_78 rfl 80 rfl ?_
        refine own_callS X hx hby hZ (st := []) [(.ref b56b8b7), (.int (0 : Int32)), (.int (2 : Int32)), (.int p2), (.int p3), (.int p5)] rfl hown (hw _ (List.mem_of_getElem? (i := 63) rfl)) (hw _ (List.mem_of_getElem? (i := 64) rfl)) (hw _ (List.mem_of_getElem? (i := 65) rfl)) (hw _ (List.mem_of_getElem? (i := 66) rfl)) (by decide) at_80 (rm11 l Z a0 hw b56b8b7 (0 : Int32) (2 : Int32) p2 p3 p5 ar39 h56 n0 Zs (by decide) A_b56b8b7 E_b56b8b7) eT pd_9 rfl (by rw [hml]; rfl) (by decide) 0 rfl (by decide) (by decide) (by decide) 83 rfl ?_
        intro T80 L9 v9 X hQ
        obtain ⟨rfl, N9, eT⟩ := hQ
        have N := Fr.app N N9
        show Go p e below _ T80 (mkF m 83 #[.val (.int p1), .val (.int p2), .val (.int p3), .val (.int p4), .val (.int p5), .val (.ref b0), .val (.int (2 : Int32)), .val (.ref b56b8b7)] [(.int (f11 (0 : Int32) (2 : Int32) p2 p3 p5 ar39))])
        have c83 : ¬ (f11 (0 : Int32) (2 : Int32) p2 p3 p5 ar39) = (0 : Int32) := own_oka _ _ _ _ _ (24 : Int32) _ (by decide) (by decide) (by decide) (by rw [← ear39]; exact w0)
        refine own_if_eq X hx hby at_83 197 86 (by decide) rfl (fun q => absurd q c83) (fun _ => ?_)
        refine own_aload X hx hby (.ref b56b8b7) at_86 rfl rfl 88 rfl ?_
        refine own_iconst X hx hby (1 : Int32) at_88 rfl 89 rfl ?_
        refine own_iload X hx hby (2 : Int32) at_89 rfl 91 rfl ?_
        refine own_iloadN X hx hby p2 at_91 rfl 92 rfl ?_
        refine own_iloadN X hx hby p3 at_92 rfl 93 rfl ?_
        refine own_iload X hx hby p5 at_93 rfl 95 rfl ?_
        refine own_callS X hx hby hZ (st := []) [(.ref b56b8b7), (.int (1 : Int32)), (.int (2 : Int32)), (.int p2), (.int p3), (.int p5)] rfl hown (hw _ (List.mem_of_getElem? (i := 63) rfl)) (hw _ (List.mem_of_getElem? (i := 64) rfl)) (hw _ (List.mem_of_getElem? (i := 65) rfl)) (hw _ (List.mem_of_getElem? (i := 66) rfl)) (by decide) at_95 (rm11 l Z a0 hw b56b8b7 (1 : Int32) (2 : Int32) p2 p3 p5 ar39 h56 n0 Zs (by decide) A_b56b8b7 E_b56b8b7) eT pd_9 rfl (by rw [hml]; rfl) (by decide) 0 rfl (by decide) (by decide) (by decide) 98 rfl ?_
        intro T95 L9 v9 X hQ
        obtain ⟨rfl, N9, eT⟩ := hQ
        have N := Fr.app N N9
        show Go p e below _ T95 (mkF m 98 #[.val (.int p1), .val (.int p2), .val (.int p3), .val (.int p4), .val (.int p5), .val (.ref b0), .val (.int (2 : Int32)), .val (.ref b56b8b7)] [(.int (f11 (1 : Int32) (2 : Int32) p2 p3 p5 ar39))])
        have c98 : ¬ (f11 (1 : Int32) (2 : Int32) p2 p3 p5 ar39) = (0 : Int32) := own_oka _ _ _ _ _ (16 : Int32) _ (by decide) (by decide) (by decide) (by rw [← ear39]; exact w1)
        refine own_if_eq X hx hby at_98 197 101 (by decide) rfl (fun q => absurd q c98) (fun _ => ?_)
        refine own_aload X hx hby (.ref b56b8b7) at_101 rfl rfl 103 rfl ?_
        refine own_iconst X hx hby (2 : Int32) at_103 rfl 104 rfl ?_
        refine own_iload X hx hby (2 : Int32) at_104 rfl 106 rfl ?_
        refine own_iloadN X hx hby p2 at_106 rfl 107 rfl ?_
        refine own_iloadN X hx hby p3 at_107 rfl 108 rfl ?_
        refine own_iload X hx hby p5 at_108 rfl 110 rfl ?_
        refine own_callS X hx hby hZ (st := []) [(.ref b56b8b7), (.int (2 : Int32)), (.int (2 : Int32)), (.int p2), (.int p3), (.int p5)] rfl hown (hw _ (List.mem_of_getElem? (i := 63) rfl)) (hw _ (List.mem_of_getElem? (i := 64) rfl)) (hw _ (List.mem_of_getElem? (i := 65) rfl)) (hw _ (List.mem_of_getElem? (i := 66) rfl)) (by decide) at_110 (rm11 l Z a0 hw b56b8b7 (2 : Int32) (2 : Int32) p2 p3 p5 ar39 h56 n0 Zs (by decide) A_b56b8b7 E_b56b8b7) eT pd_9 rfl (by rw [hml]; rfl) (by decide) 0 rfl (by decide) (by decide) (by decide) 113 rfl ?_
        intro T110 L9 v9 X hQ
        obtain ⟨rfl, N9, eT⟩ := hQ
        have N := Fr.app N N9
        show Go p e below _ T110 (mkF m 113 #[.val (.int p1), .val (.int p2), .val (.int p3), .val (.int p4), .val (.int p5), .val (.ref b0), .val (.int (2 : Int32)), .val (.ref b56b8b7)] [(.int (f11 (2 : Int32) (2 : Int32) p2 p3 p5 ar39))])
        have c113 : ¬ (f11 (2 : Int32) (2 : Int32) p2 p3 p5 ar39) = (0 : Int32) := own_okv _ _ _ _ _ (24 : Int32) _ (by decide) (by decide) (by decide) (by rw [← ear39]; rfl)
        refine own_if_eq X hx hby at_113 197 116 (by decide) rfl (fun q => absurd q c113) (fun _ => ?_)
        refine own_aload X hx hby (.ref b56b8b7) at_116 rfl rfl 118 rfl ?_
        refine own_iconst X hx hby (3 : Int32) at_118 rfl 119 rfl ?_
        refine own_iload X hx hby (2 : Int32) at_119 rfl 121 rfl ?_
        refine own_iloadN X hx hby p2 at_121 rfl 122 rfl ?_
        refine own_iloadN X hx hby p3 at_122 rfl 123 rfl ?_
        refine own_iload X hx hby p5 at_123 rfl 125 rfl ?_
        refine own_callS X hx hby hZ (st := []) [(.ref b56b8b7), (.int (3 : Int32)), (.int (2 : Int32)), (.int p2), (.int p3), (.int p5)] rfl hown (hw _ (List.mem_of_getElem? (i := 63) rfl)) (hw _ (List.mem_of_getElem? (i := 64) rfl)) (hw _ (List.mem_of_getElem? (i := 65) rfl)) (hw _ (List.mem_of_getElem? (i := 66) rfl)) (by decide) at_125 (rm11 l Z a0 hw b56b8b7 (3 : Int32) (2 : Int32) p2 p3 p5 ar39 h56 n0 Zs (by decide) A_b56b8b7 E_b56b8b7) eT pd_9 rfl (by rw [hml]; rfl) (by decide) 0 rfl (by decide) (by decide) (by decide) 128 rfl ?_
        intro T125 L9 v9 X hQ
        obtain ⟨rfl, N9, eT⟩ := hQ
        have N := Fr.app N N9
        show Go p e below _ T125 (mkF m 128 #[.val (.int p1), .val (.int p2), .val (.int p3), .val (.int p4), .val (.int p5), .val (.ref b0), .val (.int (2 : Int32)), .val (.ref b56b8b7)] [(.int (f11 (3 : Int32) (2 : Int32) p2 p3 p5 ar39))])
        have c128 : ¬ (f11 (3 : Int32) (2 : Int32) p2 p3 p5 ar39) = (0 : Int32) := own_okv _ _ _ _ _ (16 : Int32) _ (by decide) (by decide) (by decide) (by rw [← ear39]; rfl)
        refine own_if_eq X hx hby at_128 197 131 (by decide) rfl (fun q => absurd q c128) (fun _ => ?_)
        refine own_aload X hx hby (.ref b56b8b7) at_131 rfl rfl 133 rfl ?_
        refine own_iconst X hx hby (4 : Int32) at_133 rfl 134 rfl ?_
        refine own_iload X hx hby (2 : Int32) at_134 rfl 136 rfl ?_
        refine own_iloadN X hx hby p2 at_136 rfl 137 rfl ?_
        refine own_iloadN X hx hby p3 at_137 rfl 138 rfl ?_
        refine own_iload X hx hby p5 at_138 rfl 140 rfl ?_
        refine own_callS X hx hby hZ (st := []) [(.ref b56b8b7), (.int (4 : Int32)), (.int (2 : Int32)), (.int p2), (.int p3), (.int p5)] rfl hown (hw _ (List.mem_of_getElem? (i := 63) rfl)) (hw _ (List.mem_of_getElem? (i := 64) rfl)) (hw _ (List.mem_of_getElem? (i := 65) rfl)) (hw _ (List.mem_of_getElem? (i := 66) rfl)) (by decide) at_140 (rm11 l Z a0 hw b56b8b7 (4 : Int32) (2 : Int32) p2 p3 p5 ar39 h56 n0 Zs (by decide) A_b56b8b7 E_b56b8b7) eT pd_9 rfl (by rw [hml]; rfl) (by decide) 0 rfl (by decide) (by decide) (by decide) 143 rfl ?_
        intro T140 L9 v9 X hQ
        obtain ⟨rfl, N9, eT⟩ := hQ
        have N := Fr.app N N9
        show Go p e below _ T140 (mkF m 143 #[.val (.int p1), .val (.int p2), .val (.int p3), .val (.int p4), .val (.int p5), .val (.ref b0), .val (.int (2 : Int32)), .val (.ref b56b8b7)] [(.int (f11 (4 : Int32) (2 : Int32) p2 p3 p5 ar39))])
        have c143 : ¬ (f11 (4 : Int32) (2 : Int32) p2 p3 p5 ar39) = (0 : Int32) := own_okv _ _ _ _ _ (8 : Int32) _ (by decide) (by decide) (by decide) (by rw [← ear39]; rfl)
        refine own_if_eq X hx hby at_143 197 146 (by decide) rfl (fun q => absurd q c143) (fun _ => ?_)
        refine own_aload X hx hby (.ref b56b8b7) at_146 rfl rfl 148 rfl ?_
        refine own_iconst X hx hby (5 : Int32) at_148 rfl 149 rfl ?_
        refine own_iload X hx hby (2 : Int32) at_149 rfl 151 rfl ?_
        refine own_iloadN X hx hby p2 at_151 rfl 152 rfl ?_
        refine own_iloadN X hx hby p3 at_152 rfl 153 rfl ?_
        refine own_iload X hx hby p5 at_153 rfl 155 rfl ?_
        refine own_callS X hx hby hZ (st := []) [(.ref b56b8b7), (.int (5 : Int32)), (.int (2 : Int32)), (.int p2), (.int p3), (.int p5)] rfl hown (hw _ (List.mem_of_getElem? (i := 63) rfl)) (hw _ (List.mem_of_getElem? (i := 64) rfl)) (hw _ (List.mem_of_getElem? (i := 65) rfl)) (hw _ (List.mem_of_getElem? (i := 66) rfl)) (by decide) at_155 (rm11 l Z a0 hw b56b8b7 (5 : Int32) (2 : Int32) p2 p3 p5 ar39 h56 n0 Zs (by decide) A_b56b8b7 E_b56b8b7) eT pd_9 rfl (by rw [hml]; rfl) (by decide) 0 rfl (by decide) (by decide) (by decide) 158 rfl ?_
        intro T155 L9 v9 X hQ
        obtain ⟨rfl, N9, eT⟩ := hQ
        have N := Fr.app N N9
        show Go p e below _ T155 (mkF m 158 #[.val (.int p1), .val (.int p2), .val (.int p3), .val (.int p4), .val (.int p5), .val (.ref b0), .val (.int (2 : Int32)), .val (.ref b56b8b7)] [(.int (f11 (5 : Int32) (2 : Int32) p2 p3 p5 ar39))])
        have c158 : ¬ (f11 (5 : Int32) (2 : Int32) p2 p3 p5 ar39) = (0 : Int32) := own_okv _ _ _ _ _ (0 : Int32) _ (by decide) (by decide) (by decide) (by rw [← ear39]; rfl)
        refine own_if_eq X hx hby at_158 197 161 (by decide) rfl (fun q => absurd q c158) (fun _ => ?_)
        refine own_aload X hx hby (.ref b56b8b7) at_161 rfl rfl 163 rfl ?_
        refine own_bipush X hx hby (6 : Int32) at_163 rfl 165 rfl ?_
        refine own_iload X hx hby (2 : Int32) at_165 rfl 167 rfl ?_
        refine own_iloadN X hx hby p2 at_167 rfl 168 rfl ?_
        refine own_iloadN X hx hby p3 at_168 rfl 169 rfl ?_
        refine own_iload X hx hby p5 at_169 rfl 171 rfl ?_
        refine own_callS X hx hby hZ (st := []) [(.ref b56b8b7), (.int (6 : Int32)), (.int (2 : Int32)), (.int p2), (.int p3), (.int p5)] rfl hown (hw _ (List.mem_of_getElem? (i := 63) rfl)) (hw _ (List.mem_of_getElem? (i := 64) rfl)) (hw _ (List.mem_of_getElem? (i := 65) rfl)) (hw _ (List.mem_of_getElem? (i := 66) rfl)) (by decide) at_171 (rm11 l Z a0 hw b56b8b7 (6 : Int32) (2 : Int32) p2 p3 p5 ar39 h56 n0 Zs (by decide) A_b56b8b7 E_b56b8b7) eT pd_9 rfl (by rw [hml]; rfl) (by decide) 0 rfl (by decide) (by decide) (by decide) 174 rfl ?_
        intro T171 L9 v9 X hQ
        obtain ⟨rfl, N9, eT⟩ := hQ
        have N := Fr.app N N9
        show Go p e below _ T171 (mkF m 174 #[.val (.int p1), .val (.int p2), .val (.int p3), .val (.int p4), .val (.int p5), .val (.ref b0), .val (.int (2 : Int32)), .val (.ref b56b8b7)] [(.int (f11 (6 : Int32) (2 : Int32) p2 p3 p5 ar39))])
        have c174 : ¬ (f11 (6 : Int32) (2 : Int32) p2 p3 p5 ar39) = (0 : Int32) := own_okb _ _ _ _ _ (8 : Int32) _ (by decide) (by decide) (by decide) (by rw [← ear39]; exact w6)
        refine own_if_eq X hx hby at_174 197 177 (by decide) rfl (fun q => absurd q c174) (fun _ => ?_)
        refine own_aload X hx hby (.ref b56b8b7) at_177 rfl rfl 179 rfl ?_
        refine own_bipush X hx hby (7 : Int32) at_179 rfl 181 rfl ?_
        refine own_iload X hx hby (2 : Int32) at_181 rfl 183 rfl ?_
        refine own_iloadN X hx hby p2 at_183 rfl 184 rfl ?_
        refine own_iloadN X hx hby p3 at_184 rfl 185 rfl ?_
        refine own_iload X hx hby p5 at_185 rfl 187 rfl ?_
        refine own_callS X hx hby hZ (st := []) [(.ref b56b8b7), (.int (7 : Int32)), (.int (2 : Int32)), (.int p2), (.int p3), (.int p5)] rfl hown (hw _ (List.mem_of_getElem? (i := 63) rfl)) (hw _ (List.mem_of_getElem? (i := 64) rfl)) (hw _ (List.mem_of_getElem? (i := 65) rfl)) (hw _ (List.mem_of_getElem? (i := 66) rfl)) (by decide) at_187 (rm11 l Z a0 hw b56b8b7 (7 : Int32) (2 : Int32) p2 p3 p5 ar39 h56 n0 Zs (by decide) A_b56b8b7 E_b56b8b7) eT pd_9 rfl (by rw [hml]; rfl) (by decide) 0 rfl (by decide) (by decide) (by decide) 190 rfl ?_
        intro T187 L9 v9 X hQ
        obtain ⟨rfl, N9, eT⟩ := hQ
        have N := Fr.app N N9
        show Go p e below _ T187 (mkF m 190 #[.val (.int p1), .val (.int p2), .val (.int p3), .val (.int p4), .val (.int p5), .val (.ref b0), .val (.int (2 : Int32)), .val (.ref b56b8b7)] [(.int (f11 (7 : Int32) (2 : Int32) p2 p3 p5 ar39))])
        have c190 : ¬ (f11 (7 : Int32) (2 : Int32) p2 p3 p5 ar39) = (0 : Int32) := own_okb _ _ _ _ _ (0 : Int32) _ (by decide) (by decide) (by decide) (by rw [← ear39]; exact w7)
        refine own_if_eq X hx hby at_190 197 193 (by decide) rfl (fun q => absurd q c190) (fun _ => ?_)
        refine own_iconst X hx hby (1 : Int32) at_193 rfl 194 rfl ?_
        refine own_goto X hx hby at_194 198 (by decide) ?_
        refine own_retN X hx hby hret hlk (t := .boolean) (z' := (1 : Int32)) (by simp) at_198 (by decide) (by decide) rfl ?_
        rw [eT]
        exact ⟨rfl, N⟩
      · skip
        refine own_callV X hx hby hZ (st := []) [] rfl hown (hw _ (List.mem_of_getElem? (i := 49) rfl)) (hw _ (List.mem_of_getElem? (i := 50) rfl)) (hw _ (List.mem_of_getElem? (i := 52) rfl)) (hw _ (List.mem_of_getElem? (i := 51) rfl)) (hw _ (List.mem_of_getElem? (i := 2) rfl)) (hw _ (List.mem_of_getElem? (i := 53) rfl)) E_b0 (by decide) at_56 (rm10_n l Z a0 hw b0 b22b2b35b15 ar39 n3 h39 n0 Zs (own_n8 q8 h3.2) h3.2 A_b22b2b35b15 E_b22b2b35b15 F_bytes_b0 F_length_b0) eT pd_3 rfl (by rw [hml]; rfl) (by decide) 0 rfl (by decide) (by decide) (by decide) 59 rfl ?_
        intro T56 L9 v9 X hQ
        obtain ⟨h56, eT⟩ : ∃ z, T56.heap = z := ⟨_, rfl⟩
        rw [eT] at hQ
        have lt_b0 := E_b0.lt
        have lt_b22b2b35b15 := A_b22b2b35b15.lt
        have lt_b8b6 := A_b8b6.lt
        obtain ⟨b56b8b15, rfl, N9, Kc, hs_b56b8b15, A_b56b8b15, E_b56b8b15⟩ := hQ
        have g_b56b8b15 : n0 ≤ b56b8b15 := Nat.le_trans Zs hs_b56b8b15
        have sz_b56b8b15 : h0.size ≤ b56b8b15 := Nat.le_trans K.1 hs_b56b8b15
        have ne_b0_b56b8b15 : b0 ≠ b56b8b15 := Nat.ne_of_lt (Nat.lt_of_lt_of_le lt_b0 hs_b56b8b15)
        have ne_b22b2b35b15_b56b8b15 : b22b2b35b15 ≠ b56b8b15 := Nat.ne_of_lt (Nat.lt_of_lt_of_le lt_b22b2b35b15 hs_b56b8b15)
        have ne_b8b6_b56b8b15 : b8b6 ≠ b56b8b15 := Nat.ne_of_lt (Nat.lt_of_lt_of_le lt_b8b6 hs_b56b8b15)
        have E_b0 := E_b0.keep Kc
        have F_bytes_b0 := F_bytes_b0.keep Kc nin0
        have F_length_b0 := F_length_b0.keep Kc nin0
        have A_b8b6 := A_b8b6.keep Kc nin0
        have E_b8b6 := E_b8b6.keep Kc
        have A_b22b2b35b15 := A_b22b2b35b15.keep Kc nin0
        have E_b22b2b35b15 := E_b22b2b35b15.keep Kc
        obtain ⟨ar56, ear56⟩ : ∃ z : Nat → Int32, (own_cp ar39 (Int32.toNatClampNeg (f7 (Int32.ofNat n3) (8 : Int32)))) = z := ⟨_, rfl⟩
        rw [ear56] at A_b56b8b15
        have K := K.trans Kc all0
        have Zs := Nat.le_trans Zs Kc.1
        have N := Fr.app N N9
        show Go p e below _ T56 (mkF m 59 #[.val (.int p1), .val (.int p2), .val (.int p3), .val (.int p4), .val (.int p5), .val (.ref b0), .val (.int (2 : Int32)), .unset] [(.ref b56b8b15)])
        refine own_astore X hx hby at_59 rfl (l' := #[.val (.int p1), .val (.int p2), .val (.int p3), .val (.int p4), .val (.int p5), .val (.ref b0), .val (.int (2 : Int32)), .val (.ref b56b8b15)]) rfl 61 rfl ?_
        refine own_aload X hx hby (.ref b56b8b15) at_61 rfl rfl 63 rfl ?_
        refine own_arraylength X hx hby hZ (8 : Int32) eT A_b56b8b15 rfl at_63 64 rfl ?_
        refine own_bipush X hx hby (8 : Int32) at_64 rfl 66 rfl ?_
        have c66 : (8 : Int32) = (8 : Int32) := by decide
        refine own_icmp_eq X hx hby at_66 71 69 (by decide) rfl (fun _ => ?_) (fun q => absurd c66 q)
        refine own_aload X hx hby (.ref b56b8b15) at_71 rfl rfl 73 rfl ?_
        refine own_iconst X hx hby (0 : Int32) at_73 rfl 74 rfl ?_
        refine own_iload X hx hby (2 : Int32) at_74 rfl 76 rfl ?_
        refine own_iloadN X hx hby p2 at_76 rfl 77 rfl ?_
        refine own_iloadN X hx hby p3 at_77 rfl 78 rfl ?_
        refine own_iload X hx hby p5 at_78 rfl 80 rfl ?_
        refine own_callS X hx hby hZ (st := []) [(.ref b56b8b15), (.int (0 : Int32)), (.int (2 : Int32)), (.int p2), (.int p3), (.int p5)] rfl hown (hw _ (List.mem_of_getElem? (i := 63) rfl)) (hw _ (List.mem_of_getElem? (i := 64) rfl)) (hw _ (List.mem_of_getElem? (i := 65) rfl)) (hw _ (List.mem_of_getElem? (i := 66) rfl)) (by decide) at_80 (rm11 l Z a0 hw b56b8b15 (0 : Int32) (2 : Int32) p2 p3 p5 ar56 h56 n0 Zs (by decide) A_b56b8b15 E_b56b8b15) eT pd_9 rfl (by rw [hml]; rfl) (by decide) 0 rfl (by decide) (by decide) (by decide) 83 rfl ?_
        intro T80 L9 v9 X hQ
        obtain ⟨rfl, N9, eT⟩ := hQ
        have N := Fr.app N N9
        show Go p e below _ T80 (mkF m 83 #[.val (.int p1), .val (.int p2), .val (.int p3), .val (.int p4), .val (.int p5), .val (.ref b0), .val (.int (2 : Int32)), .val (.ref b56b8b15)] [(.int (f11 (0 : Int32) (2 : Int32) p2 p3 p5 ar56))])
        have c83 : ¬ (f11 (0 : Int32) (2 : Int32) p2 p3 p5 ar56) = (0 : Int32) := own_oka _ _ _ _ _ (24 : Int32) _ (by decide) (by decide) (by decide) (by rw [← ear56]; refine (own_cpi (own_ck h3.2 (by decide) (Nat.lt_of_lt_of_le (by decide) h3.1) (by decide))).trans ?_; rw [← ear39]; exact w0)
        refine own_if_eq X hx hby at_83 197 86 (by decide) rfl (fun q => absurd q c83) (fun _ => ?_)
        refine own_aload X hx hby (.ref b56b8b15) at_86 rfl rfl 88 rfl ?_
        refine own_iconst X hx hby (1 : Int32) at_88 rfl 89 rfl ?_
        refine own_iload X hx hby (2 : Int32) at_89 rfl 91 rfl ?_
        refine own_iloadN X hx hby p2 at_91 rfl 92 rfl ?_
        refine own_iloadN X hx hby p3 at_92 rfl 93 rfl ?_
        refine own_iload X hx hby p5 at_93 rfl 95 rfl ?_
        refine own_callS X hx hby hZ (st := []) [(.ref b56b8b15), (.int (1 : Int32)), (.int (2 : Int32)), (.int p2), (.int p3), (.int p5)] rfl hown (hw _ (List.mem_of_getElem? (i := 63) rfl)) (hw _ (List.mem_of_getElem? (i := 64) rfl)) (hw _ (List.mem_of_getElem? (i := 65) rfl)) (hw _ (List.mem_of_getElem? (i := 66) rfl)) (by decide) at_95 (rm11 l Z a0 hw b56b8b15 (1 : Int32) (2 : Int32) p2 p3 p5 ar56 h56 n0 Zs (by decide) A_b56b8b15 E_b56b8b15) eT pd_9 rfl (by rw [hml]; rfl) (by decide) 0 rfl (by decide) (by decide) (by decide) 98 rfl ?_
        intro T95 L9 v9 X hQ
        obtain ⟨rfl, N9, eT⟩ := hQ
        have N := Fr.app N N9
        show Go p e below _ T95 (mkF m 98 #[.val (.int p1), .val (.int p2), .val (.int p3), .val (.int p4), .val (.int p5), .val (.ref b0), .val (.int (2 : Int32)), .val (.ref b56b8b15)] [(.int (f11 (1 : Int32) (2 : Int32) p2 p3 p5 ar56))])
        have c98 : ¬ (f11 (1 : Int32) (2 : Int32) p2 p3 p5 ar56) = (0 : Int32) := own_oka _ _ _ _ _ (16 : Int32) _ (by decide) (by decide) (by decide) (by rw [← ear56]; refine (own_cpi (own_ck h3.2 (by decide) (Nat.lt_of_lt_of_le (by decide) h3.1) (by decide))).trans ?_; rw [← ear39]; exact w1)
        refine own_if_eq X hx hby at_98 197 101 (by decide) rfl (fun q => absurd q c98) (fun _ => ?_)
        refine own_aload X hx hby (.ref b56b8b15) at_101 rfl rfl 103 rfl ?_
        refine own_iconst X hx hby (2 : Int32) at_103 rfl 104 rfl ?_
        refine own_iload X hx hby (2 : Int32) at_104 rfl 106 rfl ?_
        refine own_iloadN X hx hby p2 at_106 rfl 107 rfl ?_
        refine own_iloadN X hx hby p3 at_107 rfl 108 rfl ?_
        refine own_iload X hx hby p5 at_108 rfl 110 rfl ?_
        refine own_callS X hx hby hZ (st := []) [(.ref b56b8b15), (.int (2 : Int32)), (.int (2 : Int32)), (.int p2), (.int p3), (.int p5)] rfl hown (hw _ (List.mem_of_getElem? (i := 63) rfl)) (hw _ (List.mem_of_getElem? (i := 64) rfl)) (hw _ (List.mem_of_getElem? (i := 65) rfl)) (hw _ (List.mem_of_getElem? (i := 66) rfl)) (by decide) at_110 (rm11 l Z a0 hw b56b8b15 (2 : Int32) (2 : Int32) p2 p3 p5 ar56 h56 n0 Zs (by decide) A_b56b8b15 E_b56b8b15) eT pd_9 rfl (by rw [hml]; rfl) (by decide) 0 rfl (by decide) (by decide) (by decide) 113 rfl ?_
        intro T110 L9 v9 X hQ
        obtain ⟨rfl, N9, eT⟩ := hQ
        have N := Fr.app N N9
        show Go p e below _ T110 (mkF m 113 #[.val (.int p1), .val (.int p2), .val (.int p3), .val (.int p4), .val (.int p5), .val (.ref b0), .val (.int (2 : Int32)), .val (.ref b56b8b15)] [(.int (f11 (2 : Int32) (2 : Int32) p2 p3 p5 ar56))])
        have c113 : ¬ (f11 (2 : Int32) (2 : Int32) p2 p3 p5 ar56) = (0 : Int32) := own_okv _ _ _ _ _ (24 : Int32) _ (by decide) (by decide) (by decide) (by rw [← ear56]; refine (own_cpi (own_ck h3.2 (by decide) (Nat.lt_of_lt_of_le (by decide) h3.1) (by decide))).trans ?_; rw [← ear39]; rfl)
        refine own_if_eq X hx hby at_113 197 116 (by decide) rfl (fun q => absurd q c113) (fun _ => ?_)
        refine own_aload X hx hby (.ref b56b8b15) at_116 rfl rfl 118 rfl ?_
        refine own_iconst X hx hby (3 : Int32) at_118 rfl 119 rfl ?_
        refine own_iload X hx hby (2 : Int32) at_119 rfl 121 rfl ?_
        refine own_iloadN X hx hby p2 at_121 rfl 122 rfl ?_
        refine own_iloadN X hx hby p3 at_122 rfl 123 rfl ?_
        refine own_iload X hx hby p5 at_123 rfl 125 rfl ?_
        refine own_callS X hx hby hZ (st := []) [(.ref b56b8b15), (.int (3 : Int32)), (.int (2 : Int32)), (.int p2), (.int p3), (.int p5)] rfl hown (hw _ (List.mem_of_getElem? (i := 63) rfl)) (hw _ (List.mem_of_getElem? (i := 64) rfl)) (hw _ (List.mem_of_getElem? (i := 65) rfl)) (hw _ (List.mem_of_getElem? (i := 66) rfl)) (by decide) at_125 (rm11 l Z a0 hw b56b8b15 (3 : Int32) (2 : Int32) p2 p3 p5 ar56 h56 n0 Zs (by decide) A_b56b8b15 E_b56b8b15) eT pd_9 rfl (by rw [hml]; rfl) (by decide) 0 rfl (by decide) (by decide) (by decide) 128 rfl ?_
        intro T125 L9 v9 X hQ
        obtain ⟨rfl, N9, eT⟩ := hQ
        have N := Fr.app N N9
        show Go p e below _ T125 (mkF m 128 #[.val (.int p1), .val (.int p2), .val (.int p3), .val (.int p4), .val (.int p5), .val (.ref b0), .val (.int (2 : Int32)), .val (.ref b56b8b15)] [(.int (f11 (3 : Int32) (2 : Int32) p2 p3 p5 ar56))])
        have c128 : ¬ (f11 (3 : Int32) (2 : Int32) p2 p3 p5 ar56) = (0 : Int32) := own_okv _ _ _ _ _ (16 : Int32) _ (by decide) (by decide) (by decide) (by rw [← ear56]; refine (own_cpi (own_ck h3.2 (by decide) (Nat.lt_of_lt_of_le (by decide) h3.1) (by decide))).trans ?_; rw [← ear39]; rfl)
        refine own_if_eq X hx hby at_128 197 131 (by decide) rfl (fun q => absurd q c128) (fun _ => ?_)
        refine own_aload X hx hby (.ref b56b8b15) at_131 rfl rfl 133 rfl ?_
        refine own_iconst X hx hby (4 : Int32) at_133 rfl 134 rfl ?_
        refine own_iload X hx hby (2 : Int32) at_134 rfl 136 rfl ?_
        refine own_iloadN X hx hby p2 at_136 rfl 137 rfl ?_
        refine own_iloadN X hx hby p3 at_137 rfl 138 rfl ?_
        refine own_iload X hx hby p5 at_138 rfl 140 rfl ?_
        refine own_callS X hx hby hZ (st := []) [(.ref b56b8b15), (.int (4 : Int32)), (.int (2 : Int32)), (.int p2), (.int p3), (.int p5)] rfl hown (hw _ (List.mem_of_getElem? (i := 63) rfl)) (hw _ (List.mem_of_getElem? (i := 64) rfl)) (hw _ (List.mem_of_getElem? (i := 65) rfl)) (hw _ (List.mem_of_getElem? (i := 66) rfl)) (by decide) at_140 (rm11 l Z a0 hw b56b8b15 (4 : Int32) (2 : Int32) p2 p3 p5 ar56 h56 n0 Zs (by decide) A_b56b8b15 E_b56b8b15) eT pd_9 rfl (by rw [hml]; rfl) (by decide) 0 rfl (by decide) (by decide) (by decide) 143 rfl ?_
        intro T140 L9 v9 X hQ
        obtain ⟨rfl, N9, eT⟩ := hQ
        have N := Fr.app N N9
        show Go p e below _ T140 (mkF m 143 #[.val (.int p1), .val (.int p2), .val (.int p3), .val (.int p4), .val (.int p5), .val (.ref b0), .val (.int (2 : Int32)), .val (.ref b56b8b15)] [(.int (f11 (4 : Int32) (2 : Int32) p2 p3 p5 ar56))])
        have c143 : ¬ (f11 (4 : Int32) (2 : Int32) p2 p3 p5 ar56) = (0 : Int32) := own_okv _ _ _ _ _ (8 : Int32) _ (by decide) (by decide) (by decide) (by rw [← ear56]; refine (own_cpi (own_ck h3.2 (by decide) (Nat.lt_of_lt_of_le (by decide) h3.1) (by decide))).trans ?_; rw [← ear39]; rfl)
        refine own_if_eq X hx hby at_143 197 146 (by decide) rfl (fun q => absurd q c143) (fun _ => ?_)
        refine own_aload X hx hby (.ref b56b8b15) at_146 rfl rfl 148 rfl ?_
        refine own_iconst X hx hby (5 : Int32) at_148 rfl 149 rfl ?_
        refine own_iload X hx hby (2 : Int32) at_149 rfl 151 rfl ?_
        refine own_iloadN X hx hby p2 at_151 rfl 152 rfl ?_
        refine own_iloadN X hx hby p3 at_152 rfl 153 rfl ?_
        refine own_iload X hx hby p5 at_153 rfl 155 rfl ?_
        refine own_callS X hx hby hZ (st := []) [(.ref b56b8b15), (.int (5 : Int32)), (.int (2 : Int32)), (.int p2), (.int p3), (.int p5)] rfl hown (hw _ (List.mem_of_getElem? (i := 63) rfl)) (hw _ (List.mem_of_getElem? (i := 64) rfl)) (hw _ (List.mem_of_getElem? (i := 65) rfl)) (hw _ (List.mem_of_getElem? (i := 66) rfl)) (by decide) at_155 (rm11 l Z a0 hw b56b8b15 (5 : Int32) (2 : Int32) p2 p3 p5 ar56 h56 n0 Zs (by decide) A_b56b8b15 E_b56b8b15) eT pd_9 rfl (by rw [hml]; rfl) (by decide) 0 rfl (by decide) (by decide) (by decide) 158 rfl ?_
        intro T155 L9 v9 X hQ
        obtain ⟨rfl, N9, eT⟩ := hQ
        have N := Fr.app N N9
        show Go p e below _ T155 (mkF m 158 #[.val (.int p1), .val (.int p2), .val (.int p3), .val (.int p4), .val (.int p5), .val (.ref b0), .val (.int (2 : Int32)), .val (.ref b56b8b15)] [(.int (f11 (5 : Int32) (2 : Int32) p2 p3 p5 ar56))])
        have c158 : ¬ (f11 (5 : Int32) (2 : Int32) p2 p3 p5 ar56) = (0 : Int32) := own_okv _ _ _ _ _ (0 : Int32) _ (by decide) (by decide) (by decide) (by rw [← ear56]; refine (own_cpi (own_ck h3.2 (by decide) (Nat.lt_of_lt_of_le (by decide) h3.1) (by decide))).trans ?_; rw [← ear39]; rfl)
        refine own_if_eq X hx hby at_158 197 161 (by decide) rfl (fun q => absurd q c158) (fun _ => ?_)
        refine own_aload X hx hby (.ref b56b8b15) at_161 rfl rfl 163 rfl ?_
        refine own_bipush X hx hby (6 : Int32) at_163 rfl 165 rfl ?_
        refine own_iload X hx hby (2 : Int32) at_165 rfl 167 rfl ?_
        refine own_iloadN X hx hby p2 at_167 rfl 168 rfl ?_
        refine own_iloadN X hx hby p3 at_168 rfl 169 rfl ?_
        refine own_iload X hx hby p5 at_169 rfl 171 rfl ?_
        refine own_callS X hx hby hZ (st := []) [(.ref b56b8b15), (.int (6 : Int32)), (.int (2 : Int32)), (.int p2), (.int p3), (.int p5)] rfl hown (hw _ (List.mem_of_getElem? (i := 63) rfl)) (hw _ (List.mem_of_getElem? (i := 64) rfl)) (hw _ (List.mem_of_getElem? (i := 65) rfl)) (hw _ (List.mem_of_getElem? (i := 66) rfl)) (by decide) at_171 (rm11 l Z a0 hw b56b8b15 (6 : Int32) (2 : Int32) p2 p3 p5 ar56 h56 n0 Zs (by decide) A_b56b8b15 E_b56b8b15) eT pd_9 rfl (by rw [hml]; rfl) (by decide) 0 rfl (by decide) (by decide) (by decide) 174 rfl ?_
        intro T171 L9 v9 X hQ
        obtain ⟨rfl, N9, eT⟩ := hQ
        have N := Fr.app N N9
        show Go p e below _ T171 (mkF m 174 #[.val (.int p1), .val (.int p2), .val (.int p3), .val (.int p4), .val (.int p5), .val (.ref b0), .val (.int (2 : Int32)), .val (.ref b56b8b15)] [(.int (f11 (6 : Int32) (2 : Int32) p2 p3 p5 ar56))])
        have c174 : ¬ (f11 (6 : Int32) (2 : Int32) p2 p3 p5 ar56) = (0 : Int32) := own_okb _ _ _ _ _ (8 : Int32) _ (by decide) (by decide) (by decide) (by rw [← ear56]; refine (own_cpi (own_ck h3.2 (by decide) (Nat.lt_of_lt_of_le (by decide) h3.1) (by decide))).trans ?_; rw [← ear39]; exact w6)
        refine own_if_eq X hx hby at_174 197 177 (by decide) rfl (fun q => absurd q c174) (fun _ => ?_)
        refine own_aload X hx hby (.ref b56b8b15) at_177 rfl rfl 179 rfl ?_
        refine own_bipush X hx hby (7 : Int32) at_179 rfl 181 rfl ?_
        refine own_iload X hx hby (2 : Int32) at_181 rfl 183 rfl ?_
        refine own_iloadN X hx hby p2 at_183 rfl 184 rfl ?_
        refine own_iloadN X hx hby p3 at_184 rfl 185 rfl ?_
        refine own_iload X hx hby p5 at_185 rfl 187 rfl ?_
        refine own_callS X hx hby hZ (st := []) [(.ref b56b8b15), (.int (7 : Int32)), (.int (2 : Int32)), (.int p2), (.int p3), (.int p5)] rfl hown (hw _ (List.mem_of_getElem? (i := 63) rfl)) (hw _ (List.mem_of_getElem? (i := 64) rfl)) (hw _ (List.mem_of_getElem? (i := 65) rfl)) (hw _ (List.mem_of_getElem? (i := 66) rfl)) (by decide) at_187 (rm11 l Z a0 hw b56b8b15 (7 : Int32) (2 : Int32) p2 p3 p5 ar56 h56 n0 Zs (by decide) A_b56b8b15 E_b56b8b15) eT pd_9 rfl (by rw [hml]; rfl) (by decide) 0 rfl (by decide) (by decide) (by decide) 190 rfl ?_
        intro T187 L9 v9 X hQ
        obtain ⟨rfl, N9, eT⟩ := hQ
        have N := Fr.app N N9
        show Go p e below _ T187 (mkF m 190 #[.val (.int p1), .val (.int p2), .val (.int p3), .val (.int p4), .val (.int p5), .val (.ref b0), .val (.int (2 : Int32)), .val (.ref b56b8b15)] [(.int (f11 (7 : Int32) (2 : Int32) p2 p3 p5 ar56))])
        have c190 : ¬ (f11 (7 : Int32) (2 : Int32) p2 p3 p5 ar56) = (0 : Int32) := own_okb _ _ _ _ _ (0 : Int32) _ (by decide) (by decide) (by decide) (by rw [← ear56]; refine (own_cpi (own_ck h3.2 (by decide) (Nat.lt_of_lt_of_le (by decide) h3.1) (by decide))).trans ?_; rw [← ear39]; exact w7)
        refine own_if_eq X hx hby at_190 197 193 (by decide) rfl (fun q => absurd q c190) (fun _ => ?_)
        refine own_iconst X hx hby (1 : Int32) at_193 rfl 194 rfl ?_
        refine own_goto X hx hby at_194 198 (by decide) ?_
        refine own_retN X hx hby hret hlk (t := .boolean) (z' := (1 : Int32)) (by simp) at_198 (by decide) (by decide) rfl ?_
        rw [eT]
        exact ⟨rfl, N⟩
    · skip
      refine own_aload X hx hby (.ref b0) at_33 rfl rfl 35 rfl ?_
      refine own_iload X hx hby (3 : Int32) at_35 rfl 37 rfl ?_
      refine own_iload X hx hby p5 at_37 rfl 39 rfl ?_
      refine own_callV X hx hby hZ (st := []) [(.int (3 : Int32)), (.int p5)] rfl hown (hw _ (List.mem_of_getElem? (i := 39) rfl)) (hw _ (List.mem_of_getElem? (i := 40) rfl)) (hw _ (List.mem_of_getElem? (i := 42) rfl)) (hw _ (List.mem_of_getElem? (i := 41) rfl)) (hw _ (List.mem_of_getElem? (i := 2) rfl)) (hw _ (List.mem_of_getElem? (i := 43) rfl)) E_b0 (by decide) at_39 (rm8_3 l Z a0 hw b0 p5 b22b2b35b15 ar22 n3 (8 : Int32) h22 n0 Zs h3.1 A_b22b2b35b15 E_b22b2b35b15 g_b22b2b35b15 E_b0 F_bytes_b0 F_length_b0 g_b0) eT pd_6 rfl (by rw [hml]; rfl) (by decide) 0 rfl (by decide) (by decide) (by decide) 42 rfl ?_
      intro T39 L9 v9 X hQ
      obtain ⟨h39, eT⟩ : ∃ z, T39.heap = z := ⟨_, rfl⟩
      rw [eT] at hQ
      obtain ⟨rfl, N9, Kc, A_b22b2b35b15, E_b22b2b35b15⟩ := hQ
      have E_b0 := E_b0.keep Kc
      have F_bytes_b0 := F_bytes_b0.keep Kc (ninS ne_b0_b22b2b35b15 nin0)
      have F_length_b0 := F_length_b0.keep Kc (ninS ne_b0_b22b2b35b15 nin0)
      have A_b8b6 := A_b8b6.keep Kc (ninS ne_b8b6_b22b2b35b15 nin0)
      have E_b8b6 := E_b8b6.keep Kc
      obtain ⟨ar39, ear39⟩ : ∃ z : Nat → Int32, (updI (updI (updI (updI ar22 3 (nar .byte (((p5.toUInt32 >>> ((24 : Int32) &&& 31).toUInt32).toInt32).toInt8.toInt32))) 4 (nar .byte (((p5.toUInt32 >>> ((16 : Int32) &&& 31).toUInt32).toInt32).toInt8.toInt32))) 5 (nar .byte (((p5.toUInt32 >>> ((8 : Int32) &&& 31).toUInt32).toInt32).toInt8.toInt32))) 6 (nar .byte (((p5.toUInt32 >>> ((0 : Int32) &&& 31).toUInt32).toInt32).toInt8.toInt32))) = z := ⟨_, rfl⟩
      rw [ear39] at A_b22b2b35b15
      have K := K.trans Kc (allS (Or.inr sz_b22b2b35b15) all0)
      have Zs := Nat.le_trans Zs Kc.1
      have N := Fr.app N N9
      show Go p e below _ T39 (mkF m 42 #[.val (.int p1), .val (.int p2), .val (.int p3), .val (.int p4), .val (.int p5), .val (.ref b0), .val (.int (3 : Int32)), .unset] [])
      refine own_aload X hx hby (.ref b0) at_42 rfl rfl 44 rfl ?_
      refine own_callV X hx hby hZ (st := []) [] rfl hown (hw _ (List.mem_of_getElem? (i := 44) rfl)) (hw _ (List.mem_of_getElem? (i := 45) rfl)) (hw _ (List.mem_of_getElem? (i := 47) rfl)) (hw _ (List.mem_of_getElem? (i := 46) rfl)) (hw _ (List.mem_of_getElem? (i := 2) rfl)) (hw _ (List.mem_of_getElem? (i := 48) rfl)) E_b0 (by decide) at_44 (rm9 l Z a0 hw b0 h39 n0 Zs F_length_b0) eT pd_0 rfl (by rw [hml]; rfl) (by decide) 0 rfl (by decide) (by decide) (by decide) 47 rfl ?_
      intro T44 L9 v9 X hQ
      obtain ⟨rfl, N9, eT⟩ := hQ
      have N := Fr.app N N9
      show Go p e below _ T44 (mkF m 47 #[.val (.int p1), .val (.int p2), .val (.int p3), .val (.int p4), .val (.int p5), .val (.ref b0), .val (.int (3 : Int32)), .unset] [(.int (8 : Int32))])
      refine own_bipush X hx hby (8 : Int32) at_47 rfl 49 rfl ?_
      have c49 : (8 : Int32) = (8 : Int32) := by decide
      refine own_icmp_eq X hx hby at_49 54 52 (by decide) rfl (fun _ => ?_) (fun q => absurd c49 q)
      refine own_aload X hx hby (.ref b0) at_54 rfl rfl 56 rfl ?_
      by_cases q8 : n3 = 8
      · skip
        subst q8
        refine own_callV X hx hby hZ (st := []) [] rfl hown (hw _ (List.mem_of_getElem? (i := 49) rfl)) (hw _ (List.mem_of_getElem? (i := 50) rfl)) (hw _ (List.mem_of_getElem? (i := 52) rfl)) (hw _ (List.mem_of_getElem? (i := 51) rfl)) (hw _ (List.mem_of_getElem? (i := 2) rfl)) (hw _ (List.mem_of_getElem? (i := 53) rfl)) E_b0 (by decide) at_56 (rm10_c l Z a0 hw b0 b22b2b35b15 ar39 h39 n0 Zs A_b22b2b35b15 E_b22b2b35b15 F_bytes_b0 F_length_b0) eT pd_3 rfl (by rw [hml]; rfl) (by decide) 0 rfl (by decide) (by decide) (by decide) 59 rfl ?_
        intro T56 L9 v9 X hQ
        obtain ⟨h56, eT⟩ : ∃ z, T56.heap = z := ⟨_, rfl⟩
        rw [eT] at hQ
        have lt_b0 := E_b0.lt
        have lt_b22b2b35b15 := A_b22b2b35b15.lt
        have lt_b8b6 := A_b8b6.lt
        obtain ⟨b56b8b7, rfl, N9, Kc, hs_b56b8b7, A_b56b8b7, E_b56b8b7⟩ := hQ
        have g_b56b8b7 : n0 ≤ b56b8b7 := Nat.le_trans Zs hs_b56b8b7
        have sz_b56b8b7 : h0.size ≤ b56b8b7 := Nat.le_trans K.1 hs_b56b8b7
        have ne_b0_b56b8b7 : b0 ≠ b56b8b7 := Nat.ne_of_lt (Nat.lt_of_lt_of_le lt_b0 hs_b56b8b7)
        have ne_b22b2b35b15_b56b8b7 : b22b2b35b15 ≠ b56b8b7 := Nat.ne_of_lt (Nat.lt_of_lt_of_le lt_b22b2b35b15 hs_b56b8b7)
        have ne_b8b6_b56b8b7 : b8b6 ≠ b56b8b7 := Nat.ne_of_lt (Nat.lt_of_lt_of_le lt_b8b6 hs_b56b8b7)
        have E_b0 := E_b0.keep Kc
        have F_bytes_b0 := F_bytes_b0.keep Kc nin0
        have F_length_b0 := F_length_b0.keep Kc nin0
        have A_b8b6 := A_b8b6.keep Kc nin0
        have E_b8b6 := E_b8b6.keep Kc
        have A_b22b2b35b15 := A_b22b2b35b15.keep Kc nin0
        have E_b22b2b35b15 := E_b22b2b35b15.keep Kc
        have K := K.trans Kc all0
        have Zs := Nat.le_trans Zs Kc.1
        have N := Fr.app N N9
        show Go p e below _ T56 (mkF m 59 #[.val (.int p1), .val (.int p2), .val (.int p3), .val (.int p4), .val (.int p5), .val (.ref b0), .val (.int (3 : Int32)), .unset] [(.ref b56b8b7)])
        refine own_astore X hx hby at_59 rfl (l' := #[.val (.int p1), .val (.int p2), .val (.int p3), .val (.int p4), .val (.int p5), .val (.ref b0), .val (.int (3 : Int32)), .val (.ref b56b8b7)]) rfl 61 rfl ?_
        refine own_aload X hx hby (.ref b56b8b7) at_61 rfl rfl 63 rfl ?_
        refine own_arraylength X hx hby hZ (8 : Int32) eT A_b56b8b7 rfl at_63 64 rfl ?_
        refine own_bipush X hx hby (8 : Int32) at_64 rfl 66 rfl ?_
        have c66 : (8 : Int32) = (8 : Int32) := by decide
        refine own_icmp_eq X hx hby at_66 71 69 (by decide) rfl (fun _ => ?_) (fun q => absurd c66 q)
        refine own_aload X hx hby (.ref b56b8b7) at_71 rfl rfl 73 rfl ?_
        refine own_iconst X hx hby (0 : Int32) at_73 rfl 74 rfl ?_
        refine own_iload X hx hby (3 : Int32) at_74 rfl 76 rfl ?_
        refine own_iloadN X hx hby p2 at_76 rfl 77 rfl ?_
        refine own_iloadN X hx hby p3 at_77 rfl 78 rfl ?_
        refine own_iload X hx hby p5 at_78 rfl 80 rfl ?_
        refine own_callS X hx hby hZ (st := []) [(.ref b56b8b7), (.int (0 : Int32)), (.int (3 : Int32)), (.int p2), (.int p3), (.int p5)] rfl hown (hw _ (List.mem_of_getElem? (i := 63) rfl)) (hw _ (List.mem_of_getElem? (i := 64) rfl)) (hw _ (List.mem_of_getElem? (i := 65) rfl)) (hw _ (List.mem_of_getElem? (i := 66) rfl)) (by decide) at_80 (rm11 l Z a0 hw b56b8b7 (0 : Int32) (3 : Int32) p2 p3 p5 ar39 h56 n0 Zs (by decide) A_b56b8b7 E_b56b8b7) eT pd_9 rfl (by rw [hml]; rfl) (by decide) 0 rfl (by decide) (by decide) (by decide) 83 rfl ?_
        intro T80 L9 v9 X hQ
        obtain ⟨rfl, N9, eT⟩ := hQ
        have N := Fr.app N N9
        show Go p e below _ T80 (mkF m 83 #[.val (.int p1), .val (.int p2), .val (.int p3), .val (.int p4), .val (.int p5), .val (.ref b0), .val (.int (3 : Int32)), .val (.ref b56b8b7)] [(.int (f11 (0 : Int32) (3 : Int32) p2 p3 p5 ar39))])
        have c83 : ¬ (f11 (0 : Int32) (3 : Int32) p2 p3 p5 ar39) = (0 : Int32) := own_oka _ _ _ _ _ (24 : Int32) _ (by decide) (by decide) (by decide) (by rw [← ear39]; exact w0)
        refine own_if_eq X hx hby at_83 197 86 (by decide) rfl (fun q => absurd q c83) (fun _ => ?_)
        refine own_aload X hx hby (.ref b56b8b7) at_86 rfl rfl 88 rfl ?_
        refine own_iconst X hx hby (1 : Int32) at_88 rfl 89 rfl ?_
        refine own_iload X hx hby (3 : Int32) at_89 rfl 91 rfl ?_
        refine own_iloadN X hx hby p2 at_91 rfl 92 rfl ?_
        refine own_iloadN X hx hby p3 at_92 rfl 93 rfl ?_
        refine own_iload X hx hby p5 at_93 rfl 95 rfl ?_
        refine own_callS X hx hby hZ (st := []) [(.ref b56b8b7), (.int (1 : Int32)), (.int (3 : Int32)), (.int p2), (.int p3), (.int p5)] rfl hown (hw _ (List.mem_of_getElem? (i := 63) rfl)) (hw _ (List.mem_of_getElem? (i := 64) rfl)) (hw _ (List.mem_of_getElem? (i := 65) rfl)) (hw _ (List.mem_of_getElem? (i := 66) rfl)) (by decide) at_95 (rm11 l Z a0 hw b56b8b7 (1 : Int32) (3 : Int32) p2 p3 p5 ar39 h56 n0 Zs (by decide) A_b56b8b7 E_b56b8b7) eT pd_9 rfl (by rw [hml]; rfl) (by decide) 0 rfl (by decide) (by decide) (by decide) 98 rfl ?_
        intro T95 L9 v9 X hQ
        obtain ⟨rfl, N9, eT⟩ := hQ
        have N := Fr.app N N9
        show Go p e below _ T95 (mkF m 98 #[.val (.int p1), .val (.int p2), .val (.int p3), .val (.int p4), .val (.int p5), .val (.ref b0), .val (.int (3 : Int32)), .val (.ref b56b8b7)] [(.int (f11 (1 : Int32) (3 : Int32) p2 p3 p5 ar39))])
        have c98 : ¬ (f11 (1 : Int32) (3 : Int32) p2 p3 p5 ar39) = (0 : Int32) := own_oka _ _ _ _ _ (16 : Int32) _ (by decide) (by decide) (by decide) (by rw [← ear39]; exact w1)
        refine own_if_eq X hx hby at_98 197 101 (by decide) rfl (fun q => absurd q c98) (fun _ => ?_)
        refine own_aload X hx hby (.ref b56b8b7) at_101 rfl rfl 103 rfl ?_
        refine own_iconst X hx hby (2 : Int32) at_103 rfl 104 rfl ?_
        refine own_iload X hx hby (3 : Int32) at_104 rfl 106 rfl ?_
        refine own_iloadN X hx hby p2 at_106 rfl 107 rfl ?_
        refine own_iloadN X hx hby p3 at_107 rfl 108 rfl ?_
        refine own_iload X hx hby p5 at_108 rfl 110 rfl ?_
        refine own_callS X hx hby hZ (st := []) [(.ref b56b8b7), (.int (2 : Int32)), (.int (3 : Int32)), (.int p2), (.int p3), (.int p5)] rfl hown (hw _ (List.mem_of_getElem? (i := 63) rfl)) (hw _ (List.mem_of_getElem? (i := 64) rfl)) (hw _ (List.mem_of_getElem? (i := 65) rfl)) (hw _ (List.mem_of_getElem? (i := 66) rfl)) (by decide) at_110 (rm11 l Z a0 hw b56b8b7 (2 : Int32) (3 : Int32) p2 p3 p5 ar39 h56 n0 Zs (by decide) A_b56b8b7 E_b56b8b7) eT pd_9 rfl (by rw [hml]; rfl) (by decide) 0 rfl (by decide) (by decide) (by decide) 113 rfl ?_
        intro T110 L9 v9 X hQ
        obtain ⟨rfl, N9, eT⟩ := hQ
        have N := Fr.app N N9
        show Go p e below _ T110 (mkF m 113 #[.val (.int p1), .val (.int p2), .val (.int p3), .val (.int p4), .val (.int p5), .val (.ref b0), .val (.int (3 : Int32)), .val (.ref b56b8b7)] [(.int (f11 (2 : Int32) (3 : Int32) p2 p3 p5 ar39))])
        have c113 : ¬ (f11 (2 : Int32) (3 : Int32) p2 p3 p5 ar39) = (0 : Int32) := own_oka _ _ _ _ _ (8 : Int32) _ (by decide) (by decide) (by decide) (by rw [← ear39]; exact w2)
        refine own_if_eq X hx hby at_113 197 116 (by decide) rfl (fun q => absurd q c113) (fun _ => ?_)
        refine own_aload X hx hby (.ref b56b8b7) at_116 rfl rfl 118 rfl ?_
        refine own_iconst X hx hby (3 : Int32) at_118 rfl 119 rfl ?_
        refine own_iload X hx hby (3 : Int32) at_119 rfl 121 rfl ?_
        refine own_iloadN X hx hby p2 at_121 rfl 122 rfl ?_
        refine own_iloadN X hx hby p3 at_122 rfl 123 rfl ?_
        refine own_iload X hx hby p5 at_123 rfl 125 rfl ?_
        refine own_callS X hx hby hZ (st := []) [(.ref b56b8b7), (.int (3 : Int32)), (.int (3 : Int32)), (.int p2), (.int p3), (.int p5)] rfl hown (hw _ (List.mem_of_getElem? (i := 63) rfl)) (hw _ (List.mem_of_getElem? (i := 64) rfl)) (hw _ (List.mem_of_getElem? (i := 65) rfl)) (hw _ (List.mem_of_getElem? (i := 66) rfl)) (by decide) at_125 (rm11 l Z a0 hw b56b8b7 (3 : Int32) (3 : Int32) p2 p3 p5 ar39 h56 n0 Zs (by decide) A_b56b8b7 E_b56b8b7) eT pd_9 rfl (by rw [hml]; rfl) (by decide) 0 rfl (by decide) (by decide) (by decide) 128 rfl ?_
        intro T125 L9 v9 X hQ
        obtain ⟨rfl, N9, eT⟩ := hQ
        have N := Fr.app N N9
        show Go p e below _ T125 (mkF m 128 #[.val (.int p1), .val (.int p2), .val (.int p3), .val (.int p4), .val (.int p5), .val (.ref b0), .val (.int (3 : Int32)), .val (.ref b56b8b7)] [(.int (f11 (3 : Int32) (3 : Int32) p2 p3 p5 ar39))])
        have c128 : ¬ (f11 (3 : Int32) (3 : Int32) p2 p3 p5 ar39) = (0 : Int32) := own_okv _ _ _ _ _ (24 : Int32) _ (by decide) (by decide) (by decide) (by rw [← ear39]; rfl)
        refine own_if_eq X hx hby at_128 197 131 (by decide) rfl (fun q => absurd q c128) (fun _ => ?_)
        refine own_aload X hx hby (.ref b56b8b7) at_131 rfl rfl 133 rfl ?_
        refine own_iconst X hx hby (4 : Int32) at_133 rfl 134 rfl ?_
        refine own_iload X hx hby (3 : Int32) at_134 rfl 136 rfl ?_
        refine own_iloadN X hx hby p2 at_136 rfl 137 rfl ?_
        refine own_iloadN X hx hby p3 at_137 rfl 138 rfl ?_
        refine own_iload X hx hby p5 at_138 rfl 140 rfl ?_
        refine own_callS X hx hby hZ (st := []) [(.ref b56b8b7), (.int (4 : Int32)), (.int (3 : Int32)), (.int p2), (.int p3), (.int p5)] rfl hown (hw _ (List.mem_of_getElem? (i := 63) rfl)) (hw _ (List.mem_of_getElem? (i := 64) rfl)) (hw _ (List.mem_of_getElem? (i := 65) rfl)) (hw _ (List.mem_of_getElem? (i := 66) rfl)) (by decide) at_140 (rm11 l Z a0 hw b56b8b7 (4 : Int32) (3 : Int32) p2 p3 p5 ar39 h56 n0 Zs (by decide) A_b56b8b7 E_b56b8b7) eT pd_9 rfl (by rw [hml]; rfl) (by decide) 0 rfl (by decide) (by decide) (by decide) 143 rfl ?_
        intro T140 L9 v9 X hQ
        obtain ⟨rfl, N9, eT⟩ := hQ
        have N := Fr.app N N9
        show Go p e below _ T140 (mkF m 143 #[.val (.int p1), .val (.int p2), .val (.int p3), .val (.int p4), .val (.int p5), .val (.ref b0), .val (.int (3 : Int32)), .val (.ref b56b8b7)] [(.int (f11 (4 : Int32) (3 : Int32) p2 p3 p5 ar39))])
        have c143 : ¬ (f11 (4 : Int32) (3 : Int32) p2 p3 p5 ar39) = (0 : Int32) := own_okv _ _ _ _ _ (16 : Int32) _ (by decide) (by decide) (by decide) (by rw [← ear39]; rfl)
        refine own_if_eq X hx hby at_143 197 146 (by decide) rfl (fun q => absurd q c143) (fun _ => ?_)
        refine own_aload X hx hby (.ref b56b8b7) at_146 rfl rfl 148 rfl ?_
        refine own_iconst X hx hby (5 : Int32) at_148 rfl 149 rfl ?_
        refine own_iload X hx hby (3 : Int32) at_149 rfl 151 rfl ?_
        refine own_iloadN X hx hby p2 at_151 rfl 152 rfl ?_
        refine own_iloadN X hx hby p3 at_152 rfl 153 rfl ?_
        refine own_iload X hx hby p5 at_153 rfl 155 rfl ?_
        refine own_callS X hx hby hZ (st := []) [(.ref b56b8b7), (.int (5 : Int32)), (.int (3 : Int32)), (.int p2), (.int p3), (.int p5)] rfl hown (hw _ (List.mem_of_getElem? (i := 63) rfl)) (hw _ (List.mem_of_getElem? (i := 64) rfl)) (hw _ (List.mem_of_getElem? (i := 65) rfl)) (hw _ (List.mem_of_getElem? (i := 66) rfl)) (by decide) at_155 (rm11 l Z a0 hw b56b8b7 (5 : Int32) (3 : Int32) p2 p3 p5 ar39 h56 n0 Zs (by decide) A_b56b8b7 E_b56b8b7) eT pd_9 rfl (by rw [hml]; rfl) (by decide) 0 rfl (by decide) (by decide) (by decide) 158 rfl ?_
        intro T155 L9 v9 X hQ
        obtain ⟨rfl, N9, eT⟩ := hQ
        have N := Fr.app N N9
        show Go p e below _ T155 (mkF m 158 #[.val (.int p1), .val (.int p2), .val (.int p3), .val (.int p4), .val (.int p5), .val (.ref b0), .val (.int (3 : Int32)), .val (.ref b56b8b7)] [(.int (f11 (5 : Int32) (3 : Int32) p2 p3 p5 ar39))])
        have c158 : ¬ (f11 (5 : Int32) (3 : Int32) p2 p3 p5 ar39) = (0 : Int32) := own_okv _ _ _ _ _ (8 : Int32) _ (by decide) (by decide) (by decide) (by rw [← ear39]; rfl)
        refine own_if_eq X hx hby at_158 197 161 (by decide) rfl (fun q => absurd q c158) (fun _ => ?_)
        refine own_aload X hx hby (.ref b56b8b7) at_161 rfl rfl 163 rfl ?_
        refine own_bipush X hx hby (6 : Int32) at_163 rfl 165 rfl ?_
        refine own_iload X hx hby (3 : Int32) at_165 rfl 167 rfl ?_
        refine own_iloadN X hx hby p2 at_167 rfl 168 rfl ?_
        refine own_iloadN X hx hby p3 at_168 rfl 169 rfl ?_
        refine own_iload X hx hby p5 at_169 rfl 171 rfl ?_
        refine own_callS X hx hby hZ (st := []) [(.ref b56b8b7), (.int (6 : Int32)), (.int (3 : Int32)), (.int p2), (.int p3), (.int p5)] rfl hown (hw _ (List.mem_of_getElem? (i := 63) rfl)) (hw _ (List.mem_of_getElem? (i := 64) rfl)) (hw _ (List.mem_of_getElem? (i := 65) rfl)) (hw _ (List.mem_of_getElem? (i := 66) rfl)) (by decide) at_171 (rm11 l Z a0 hw b56b8b7 (6 : Int32) (3 : Int32) p2 p3 p5 ar39 h56 n0 Zs (by decide) A_b56b8b7 E_b56b8b7) eT pd_9 rfl (by rw [hml]; rfl) (by decide) 0 rfl (by decide) (by decide) (by decide) 174 rfl ?_
        intro T171 L9 v9 X hQ
        obtain ⟨rfl, N9, eT⟩ := hQ
        have N := Fr.app N N9
        show Go p e below _ T171 (mkF m 174 #[.val (.int p1), .val (.int p2), .val (.int p3), .val (.int p4), .val (.int p5), .val (.ref b0), .val (.int (3 : Int32)), .val (.ref b56b8b7)] [(.int (f11 (6 : Int32) (3 : Int32) p2 p3 p5 ar39))])
        have c174 : ¬ (f11 (6 : Int32) (3 : Int32) p2 p3 p5 ar39) = (0 : Int32) := own_okv _ _ _ _ _ (0 : Int32) _ (by decide) (by decide) (by decide) (by rw [← ear39]; rfl)
        refine own_if_eq X hx hby at_174 197 177 (by decide) rfl (fun q => absurd q c174) (fun _ => ?_)
        refine own_aload X hx hby (.ref b56b8b7) at_177 rfl rfl 179 rfl ?_
        refine own_bipush X hx hby (7 : Int32) at_179 rfl 181 rfl ?_
        refine own_iload X hx hby (3 : Int32) at_181 rfl 183 rfl ?_
        refine own_iloadN X hx hby p2 at_183 rfl 184 rfl ?_
        refine own_iloadN X hx hby p3 at_184 rfl 185 rfl ?_
        refine own_iload X hx hby p5 at_185 rfl 187 rfl ?_
        refine own_callS X hx hby hZ (st := []) [(.ref b56b8b7), (.int (7 : Int32)), (.int (3 : Int32)), (.int p2), (.int p3), (.int p5)] rfl hown (hw _ (List.mem_of_getElem? (i := 63) rfl)) (hw _ (List.mem_of_getElem? (i := 64) rfl)) (hw _ (List.mem_of_getElem? (i := 65) rfl)) (hw _ (List.mem_of_getElem? (i := 66) rfl)) (by decide) at_187 (rm11 l Z a0 hw b56b8b7 (7 : Int32) (3 : Int32) p2 p3 p5 ar39 h56 n0 Zs (by decide) A_b56b8b7 E_b56b8b7) eT pd_9 rfl (by rw [hml]; rfl) (by decide) 0 rfl (by decide) (by decide) (by decide) 190 rfl ?_
        intro T187 L9 v9 X hQ
        obtain ⟨rfl, N9, eT⟩ := hQ
        have N := Fr.app N N9
        show Go p e below _ T187 (mkF m 190 #[.val (.int p1), .val (.int p2), .val (.int p3), .val (.int p4), .val (.int p5), .val (.ref b0), .val (.int (3 : Int32)), .val (.ref b56b8b7)] [(.int (f11 (7 : Int32) (3 : Int32) p2 p3 p5 ar39))])
        have c190 : ¬ (f11 (7 : Int32) (3 : Int32) p2 p3 p5 ar39) = (0 : Int32) := own_okb _ _ _ _ _ (0 : Int32) _ (by decide) (by decide) (by decide) (by rw [← ear39]; exact w7)
        refine own_if_eq X hx hby at_190 197 193 (by decide) rfl (fun q => absurd q c190) (fun _ => ?_)
        refine own_iconst X hx hby (1 : Int32) at_193 rfl 194 rfl ?_
        refine own_goto X hx hby at_194 198 (by decide) ?_
        refine own_retN X hx hby hret hlk (t := .boolean) (z' := (1 : Int32)) (by simp) at_198 (by decide) (by decide) rfl ?_
        rw [eT]
        exact ⟨rfl, N⟩
      · skip
        refine own_callV X hx hby hZ (st := []) [] rfl hown (hw _ (List.mem_of_getElem? (i := 49) rfl)) (hw _ (List.mem_of_getElem? (i := 50) rfl)) (hw _ (List.mem_of_getElem? (i := 52) rfl)) (hw _ (List.mem_of_getElem? (i := 51) rfl)) (hw _ (List.mem_of_getElem? (i := 2) rfl)) (hw _ (List.mem_of_getElem? (i := 53) rfl)) E_b0 (by decide) at_56 (rm10_n l Z a0 hw b0 b22b2b35b15 ar39 n3 h39 n0 Zs (own_n8 q8 h3.2) h3.2 A_b22b2b35b15 E_b22b2b35b15 F_bytes_b0 F_length_b0) eT pd_3 rfl (by rw [hml]; rfl) (by decide) 0 rfl (by decide) (by decide) (by decide) 59 rfl ?_
        intro T56 L9 v9 X hQ
        obtain ⟨h56, eT⟩ : ∃ z, T56.heap = z := ⟨_, rfl⟩
        rw [eT] at hQ
        have lt_b0 := E_b0.lt
        have lt_b22b2b35b15 := A_b22b2b35b15.lt
        have lt_b8b6 := A_b8b6.lt
        obtain ⟨b56b8b15, rfl, N9, Kc, hs_b56b8b15, A_b56b8b15, E_b56b8b15⟩ := hQ
        have g_b56b8b15 : n0 ≤ b56b8b15 := Nat.le_trans Zs hs_b56b8b15
        have sz_b56b8b15 : h0.size ≤ b56b8b15 := Nat.le_trans K.1 hs_b56b8b15
        have ne_b0_b56b8b15 : b0 ≠ b56b8b15 := Nat.ne_of_lt (Nat.lt_of_lt_of_le lt_b0 hs_b56b8b15)
        have ne_b22b2b35b15_b56b8b15 : b22b2b35b15 ≠ b56b8b15 := Nat.ne_of_lt (Nat.lt_of_lt_of_le lt_b22b2b35b15 hs_b56b8b15)
        have ne_b8b6_b56b8b15 : b8b6 ≠ b56b8b15 := Nat.ne_of_lt (Nat.lt_of_lt_of_le lt_b8b6 hs_b56b8b15)
        have E_b0 := E_b0.keep Kc
        have F_bytes_b0 := F_bytes_b0.keep Kc nin0
        have F_length_b0 := F_length_b0.keep Kc nin0
        have A_b8b6 := A_b8b6.keep Kc nin0
        have E_b8b6 := E_b8b6.keep Kc
        have A_b22b2b35b15 := A_b22b2b35b15.keep Kc nin0
        have E_b22b2b35b15 := E_b22b2b35b15.keep Kc
        obtain ⟨ar56, ear56⟩ : ∃ z : Nat → Int32, (own_cp ar39 (Int32.toNatClampNeg (f7 (Int32.ofNat n3) (8 : Int32)))) = z := ⟨_, rfl⟩
        rw [ear56] at A_b56b8b15
        have K := K.trans Kc all0
        have Zs := Nat.le_trans Zs Kc.1
        have N := Fr.app N N9
        show Go p e below _ T56 (mkF m 59 #[.val (.int p1), .val (.int p2), .val (.int p3), .val (.int p4), .val (.int p5), .val (.ref b0), .val (.int (3 : Int32)), .unset] [(.ref b56b8b15)])
        refine own_astore X hx hby at_59 rfl (l' := #[.val (.int p1), .val (.int p2), .val (.int p3), .val (.int p4), .val (.int p5), .val (.ref b0), .val (.int (3 : Int32)), .val (.ref b56b8b15)]) rfl 61 rfl ?_
        refine own_aload X hx hby (.ref b56b8b15) at_61 rfl rfl 63 rfl ?_
        refine own_arraylength X hx hby hZ (8 : Int32) eT A_b56b8b15 rfl at_63 64 rfl ?_
        refine own_bipush X hx hby (8 : Int32) at_64 rfl 66 rfl ?_
        have c66 : (8 : Int32) = (8 : Int32) := by decide
        refine own_icmp_eq X hx hby at_66 71 69 (by decide) rfl (fun _ => ?_) (fun q => absurd c66 q)
        refine own_aload X hx hby (.ref b56b8b15) at_71 rfl rfl 73 rfl ?_
        refine own_iconst X hx hby (0 : Int32) at_73 rfl 74 rfl ?_
        refine own_iload X hx hby (3 : Int32) at_74 rfl 76 rfl ?_
        refine own_iloadN X hx hby p2 at_76 rfl 77 rfl ?_
        refine own_iloadN X hx hby p3 at_77 rfl 78 rfl ?_
        refine own_iload X hx hby p5 at_78 rfl 80 rfl ?_
        refine own_callS X hx hby hZ (st := []) [(.ref b56b8b15), (.int (0 : Int32)), (.int (3 : Int32)), (.int p2), (.int p3), (.int p5)] rfl hown (hw _ (List.mem_of_getElem? (i := 63) rfl)) (hw _ (List.mem_of_getElem? (i := 64) rfl)) (hw _ (List.mem_of_getElem? (i := 65) rfl)) (hw _ (List.mem_of_getElem? (i := 66) rfl)) (by decide) at_80 (rm11 l Z a0 hw b56b8b15 (0 : Int32) (3 : Int32) p2 p3 p5 ar56 h56 n0 Zs (by decide) A_b56b8b15 E_b56b8b15) eT pd_9 rfl (by rw [hml]; rfl) (by decide) 0 rfl (by decide) (by decide) (by decide) 83 rfl ?_
        intro T80 L9 v9 X hQ
        obtain ⟨rfl, N9, eT⟩ := hQ
        have N := Fr.app N N9
        show Go p e below _ T80 (mkF m 83 #[.val (.int p1), .val (.int p2), .val (.int p3), .val (.int p4), .val (.int p5), .val (.ref b0), .val (.int (3 : Int32)), .val (.ref b56b8b15)] [(.int (f11 (0 : Int32) (3 : Int32) p2 p3 p5 ar56))])
        have c83 : ¬ (f11 (0 : Int32) (3 : Int32) p2 p3 p5 ar56) = (0 : Int32) := own_oka _ _ _ _ _ (24 : Int32) _ (by decide) (by decide) (by decide) (by rw [← ear56]; refine (own_cpi (own_ck h3.2 (by decide) (Nat.lt_of_lt_of_le (by decide) h3.1) (by decide))).trans ?_; rw [← ear39]; exact w0)
        refine own_if_eq X hx hby at_83 197 86 (by decide) rfl (fun q => absurd q c83) (fun _ => ?_)
        refine own_aload X hx hby (.ref b56b8b15) at_86 rfl rfl 88 rfl ?_
        refine own_iconst X hx hby (1 : Int32) at_88 rfl 89 rfl ?_
        refine own_iload X hx hby (3 : Int32) at_89 rfl 91 rfl ?_
        refine own_iloadN X hx hby p2 at_91 rfl 92 rfl ?_
        refine own_iloadN X hx hby p3 at_92 rfl 93 rfl ?_
        refine own_iload X hx hby p5 at_93 rfl 95 rfl ?_
        refine own_callS X hx hby hZ (st := []) [(.ref b56b8b15), (.int (1 : Int32)), (.int (3 : Int32)), (.int p2), (.int p3), (.int p5)] rfl hown (hw _ (List.mem_of_getElem? (i := 63) rfl)) (hw _ (List.mem_of_getElem? (i := 64) rfl)) (hw _ (List.mem_of_getElem? (i := 65) rfl)) (hw _ (List.mem_of_getElem? (i := 66) rfl)) (by decide) at_95 (rm11 l Z a0 hw b56b8b15 (1 : Int32) (3 : Int32) p2 p3 p5 ar56 h56 n0 Zs (by decide) A_b56b8b15 E_b56b8b15) eT pd_9 rfl (by rw [hml]; rfl) (by decide) 0 rfl (by decide) (by decide) (by decide) 98 rfl ?_
        intro T95 L9 v9 X hQ
        obtain ⟨rfl, N9, eT⟩ := hQ
        have N := Fr.app N N9
        show Go p e below _ T95 (mkF m 98 #[.val (.int p1), .val (.int p2), .val (.int p3), .val (.int p4), .val (.int p5), .val (.ref b0), .val (.int (3 : Int32)), .val (.ref b56b8b15)] [(.int (f11 (1 : Int32) (3 : Int32) p2 p3 p5 ar56))])
        have c98 : ¬ (f11 (1 : Int32) (3 : Int32) p2 p3 p5 ar56) = (0 : Int32) := own_oka _ _ _ _ _ (16 : Int32) _ (by decide) (by decide) (by decide) (by rw [← ear56]; refine (own_cpi (own_ck h3.2 (by decide) (Nat.lt_of_lt_of_le (by decide) h3.1) (by decide))).trans ?_; rw [← ear39]; exact w1)
        refine own_if_eq X hx hby at_98 197 101 (by decide) rfl (fun q => absurd q c98) (fun _ => ?_)
        refine own_aload X hx hby (.ref b56b8b15) at_101 rfl rfl 103 rfl ?_
        refine own_iconst X hx hby (2 : Int32) at_103 rfl 104 rfl ?_
        refine own_iload X hx hby (3 : Int32) at_104 rfl 106 rfl ?_
        refine own_iloadN X hx hby p2 at_106 rfl 107 rfl ?_
        refine own_iloadN X hx hby p3 at_107 rfl 108 rfl ?_
        refine own_iload X hx hby p5 at_108 rfl 110 rfl ?_
        refine own_callS X hx hby hZ (st := []) [(.ref b56b8b15), (.int (2 : Int32)), (.int (3 : Int32)), (.int p2), (.int p3), (.int p5)] rfl hown (hw _ (List.mem_of_getElem? (i := 63) rfl)) (hw _ (List.mem_of_getElem? (i := 64) rfl)) (hw _ (List.mem_of_getElem? (i := 65) rfl)) (hw _ (List.mem_of_getElem? (i := 66) rfl)) (by decide) at_110 (rm11 l Z a0 hw b56b8b15 (2 : Int32) (3 : Int32) p2 p3 p5 ar56 h56 n0 Zs (by decide) A_b56b8b15 E_b56b8b15) eT pd_9 rfl (by rw [hml]; rfl) (by decide) 0 rfl (by decide) (by decide) (by decide) 113 rfl ?_
        intro T110 L9 v9 X hQ
        obtain ⟨rfl, N9, eT⟩ := hQ
        have N := Fr.app N N9
        show Go p e below _ T110 (mkF m 113 #[.val (.int p1), .val (.int p2), .val (.int p3), .val (.int p4), .val (.int p5), .val (.ref b0), .val (.int (3 : Int32)), .val (.ref b56b8b15)] [(.int (f11 (2 : Int32) (3 : Int32) p2 p3 p5 ar56))])
        have c113 : ¬ (f11 (2 : Int32) (3 : Int32) p2 p3 p5 ar56) = (0 : Int32) := own_oka _ _ _ _ _ (8 : Int32) _ (by decide) (by decide) (by decide) (by rw [← ear56]; refine (own_cpi (own_ck h3.2 (by decide) (Nat.lt_of_lt_of_le (by decide) h3.1) (by decide))).trans ?_; rw [← ear39]; exact w2)
        refine own_if_eq X hx hby at_113 197 116 (by decide) rfl (fun q => absurd q c113) (fun _ => ?_)
        refine own_aload X hx hby (.ref b56b8b15) at_116 rfl rfl 118 rfl ?_
        refine own_iconst X hx hby (3 : Int32) at_118 rfl 119 rfl ?_
        refine own_iload X hx hby (3 : Int32) at_119 rfl 121 rfl ?_
        refine own_iloadN X hx hby p2 at_121 rfl 122 rfl ?_
        refine own_iloadN X hx hby p3 at_122 rfl 123 rfl ?_
        refine own_iload X hx hby p5 at_123 rfl 125 rfl ?_
        refine own_callS X hx hby hZ (st := []) [(.ref b56b8b15), (.int (3 : Int32)), (.int (3 : Int32)), (.int p2), (.int p3), (.int p5)] rfl hown (hw _ (List.mem_of_getElem? (i := 63) rfl)) (hw _ (List.mem_of_getElem? (i := 64) rfl)) (hw _ (List.mem_of_getElem? (i := 65) rfl)) (hw _ (List.mem_of_getElem? (i := 66) rfl)) (by decide) at_125 (rm11 l Z a0 hw b56b8b15 (3 : Int32) (3 : Int32) p2 p3 p5 ar56 h56 n0 Zs (by decide) A_b56b8b15 E_b56b8b15) eT pd_9 rfl (by rw [hml]; rfl) (by decide) 0 rfl (by decide) (by decide) (by decide) 128 rfl ?_
        intro T125 L9 v9 X hQ
        obtain ⟨rfl, N9, eT⟩ := hQ
        have N := Fr.app N N9
        show Go p e below _ T125 (mkF m 128 #[.val (.int p1), .val (.int p2), .val (.int p3), .val (.int p4), .val (.int p5), .val (.ref b0), .val (.int (3 : Int32)), .val (.ref b56b8b15)] [(.int (f11 (3 : Int32) (3 : Int32) p2 p3 p5 ar56))])
        have c128 : ¬ (f11 (3 : Int32) (3 : Int32) p2 p3 p5 ar56) = (0 : Int32) := own_okv _ _ _ _ _ (24 : Int32) _ (by decide) (by decide) (by decide) (by rw [← ear56]; refine (own_cpi (own_ck h3.2 (by decide) (Nat.lt_of_lt_of_le (by decide) h3.1) (by decide))).trans ?_; rw [← ear39]; rfl)
        refine own_if_eq X hx hby at_128 197 131 (by decide) rfl (fun q => absurd q c128) (fun _ => ?_)
        refine own_aload X hx hby (.ref b56b8b15) at_131 rfl rfl 133 rfl ?_
        refine own_iconst X hx hby (4 : Int32) at_133 rfl 134 rfl ?_
        refine own_iload X hx hby (3 : Int32) at_134 rfl 136 rfl ?_
        refine own_iloadN X hx hby p2 at_136 rfl 137 rfl ?_
        refine own_iloadN X hx hby p3 at_137 rfl 138 rfl ?_
        refine own_iload X hx hby p5 at_138 rfl 140 rfl ?_
        refine own_callS X hx hby hZ (st := []) [(.ref b56b8b15), (.int (4 : Int32)), (.int (3 : Int32)), (.int p2), (.int p3), (.int p5)] rfl hown (hw _ (List.mem_of_getElem? (i := 63) rfl)) (hw _ (List.mem_of_getElem? (i := 64) rfl)) (hw _ (List.mem_of_getElem? (i := 65) rfl)) (hw _ (List.mem_of_getElem? (i := 66) rfl)) (by decide) at_140 (rm11 l Z a0 hw b56b8b15 (4 : Int32) (3 : Int32) p2 p3 p5 ar56 h56 n0 Zs (by decide) A_b56b8b15 E_b56b8b15) eT pd_9 rfl (by rw [hml]; rfl) (by decide) 0 rfl (by decide) (by decide) (by decide) 143 rfl ?_
        intro T140 L9 v9 X hQ
        obtain ⟨rfl, N9, eT⟩ := hQ
        have N := Fr.app N N9
        show Go p e below _ T140 (mkF m 143 #[.val (.int p1), .val (.int p2), .val (.int p3), .val (.int p4), .val (.int p5), .val (.ref b0), .val (.int (3 : Int32)), .val (.ref b56b8b15)] [(.int (f11 (4 : Int32) (3 : Int32) p2 p3 p5 ar56))])
        have c143 : ¬ (f11 (4 : Int32) (3 : Int32) p2 p3 p5 ar56) = (0 : Int32) := own_okv _ _ _ _ _ (16 : Int32) _ (by decide) (by decide) (by decide) (by rw [← ear56]; refine (own_cpi (own_ck h3.2 (by decide) (Nat.lt_of_lt_of_le (by decide) h3.1) (by decide))).trans ?_; rw [← ear39]; rfl)
        refine own_if_eq X hx hby at_143 197 146 (by decide) rfl (fun q => absurd q c143) (fun _ => ?_)
        refine own_aload X hx hby (.ref b56b8b15) at_146 rfl rfl 148 rfl ?_
        refine own_iconst X hx hby (5 : Int32) at_148 rfl 149 rfl ?_
        refine own_iload X hx hby (3 : Int32) at_149 rfl 151 rfl ?_
        refine own_iloadN X hx hby p2 at_151 rfl 152 rfl ?_
        refine own_iloadN X hx hby p3 at_152 rfl 153 rfl ?_
        refine own_iload X hx hby p5 at_153 rfl 155 rfl ?_
        refine own_callS X hx hby hZ (st := []) [(.ref b56b8b15), (.int (5 : Int32)), (.int (3 : Int32)), (.int p2), (.int p3), (.int p5)] rfl hown (hw _ (List.mem_of_getElem? (i := 63) rfl)) (hw _ (List.mem_of_getElem? (i := 64) rfl)) (hw _ (List.mem_of_getElem? (i := 65) rfl)) (hw _ (List.mem_of_getElem? (i := 66) rfl)) (by decide) at_155 (rm11 l Z a0 hw b56b8b15 (5 : Int32) (3 : Int32) p2 p3 p5 ar56 h56 n0 Zs (by decide) A_b56b8b15 E_b56b8b15) eT pd_9 rfl (by rw [hml]; rfl) (by decide) 0 rfl (by decide) (by decide) (by decide) 158 rfl ?_
        intro T155 L9 v9 X hQ
        obtain ⟨rfl, N9, eT⟩ := hQ
        have N := Fr.app N N9
        show Go p e below _ T155 (mkF m 158 #[.val (.int p1), .val (.int p2), .val (.int p3), .val (.int p4), .val (.int p5), .val (.ref b0), .val (.int (3 : Int32)), .val (.ref b56b8b15)] [(.int (f11 (5 : Int32) (3 : Int32) p2 p3 p5 ar56))])
        have c158 : ¬ (f11 (5 : Int32) (3 : Int32) p2 p3 p5 ar56) = (0 : Int32) := own_okv _ _ _ _ _ (8 : Int32) _ (by decide) (by decide) (by decide) (by rw [← ear56]; refine (own_cpi (own_ck h3.2 (by decide) (Nat.lt_of_lt_of_le (by decide) h3.1) (by decide))).trans ?_; rw [← ear39]; rfl)
        refine own_if_eq X hx hby at_158 197 161 (by decide) rfl (fun q => absurd q c158) (fun _ => ?_)
        refine own_aload X hx hby (.ref b56b8b15) at_161 rfl rfl 163 rfl ?_
        refine own_bipush X hx hby (6 : Int32) at_163 rfl 165 rfl ?_
        refine own_iload X hx hby (3 : Int32) at_165 rfl 167 rfl ?_
        refine own_iloadN X hx hby p2 at_167 rfl 168 rfl ?_
        refine own_iloadN X hx hby p3 at_168 rfl 169 rfl ?_
        refine own_iload X hx hby p5 at_169 rfl 171 rfl ?_
        refine own_callS X hx hby hZ (st := []) [(.ref b56b8b15), (.int (6 : Int32)), (.int (3 : Int32)), (.int p2), (.int p3), (.int p5)] rfl hown (hw _ (List.mem_of_getElem? (i := 63) rfl)) (hw _ (List.mem_of_getElem? (i := 64) rfl)) (hw _ (List.mem_of_getElem? (i := 65) rfl)) (hw _ (List.mem_of_getElem? (i := 66) rfl)) (by decide) at_171 (rm11 l Z a0 hw b56b8b15 (6 : Int32) (3 : Int32) p2 p3 p5 ar56 h56 n0 Zs (by decide) A_b56b8b15 E_b56b8b15) eT pd_9 rfl (by rw [hml]; rfl) (by decide) 0 rfl (by decide) (by decide) (by decide) 174 rfl ?_
        intro T171 L9 v9 X hQ
        obtain ⟨rfl, N9, eT⟩ := hQ
        have N := Fr.app N N9
        show Go p e below _ T171 (mkF m 174 #[.val (.int p1), .val (.int p2), .val (.int p3), .val (.int p4), .val (.int p5), .val (.ref b0), .val (.int (3 : Int32)), .val (.ref b56b8b15)] [(.int (f11 (6 : Int32) (3 : Int32) p2 p3 p5 ar56))])
        have c174 : ¬ (f11 (6 : Int32) (3 : Int32) p2 p3 p5 ar56) = (0 : Int32) := own_okv _ _ _ _ _ (0 : Int32) _ (by decide) (by decide) (by decide) (by rw [← ear56]; refine (own_cpi (own_ck h3.2 (by decide) (Nat.lt_of_lt_of_le (by decide) h3.1) (by decide))).trans ?_; rw [← ear39]; rfl)
        refine own_if_eq X hx hby at_174 197 177 (by decide) rfl (fun q => absurd q c174) (fun _ => ?_)
        refine own_aload X hx hby (.ref b56b8b15) at_177 rfl rfl 179 rfl ?_
        refine own_bipush X hx hby (7 : Int32) at_179 rfl 181 rfl ?_
        refine own_iload X hx hby (3 : Int32) at_181 rfl 183 rfl ?_
        refine own_iloadN X hx hby p2 at_183 rfl 184 rfl ?_
        refine own_iloadN X hx hby p3 at_184 rfl 185 rfl ?_
        refine own_iload X hx hby p5 at_185 rfl 187 rfl ?_
        refine own_callS X hx hby hZ (st := []) [(.ref b56b8b15), (.int (7 : Int32)), (.int (3 : Int32)), (.int p2), (.int p3), (.int p5)] rfl hown (hw _ (List.mem_of_getElem? (i := 63) rfl)) (hw _ (List.mem_of_getElem? (i := 64) rfl)) (hw _ (List.mem_of_getElem? (i := 65) rfl)) (hw _ (List.mem_of_getElem? (i := 66) rfl)) (by decide) at_187 (rm11 l Z a0 hw b56b8b15 (7 : Int32) (3 : Int32) p2 p3 p5 ar56 h56 n0 Zs (by decide) A_b56b8b15 E_b56b8b15) eT pd_9 rfl (by rw [hml]; rfl) (by decide) 0 rfl (by decide) (by decide) (by decide) 190 rfl ?_
        intro T187 L9 v9 X hQ
        obtain ⟨rfl, N9, eT⟩ := hQ
        have N := Fr.app N N9
        show Go p e below _ T187 (mkF m 190 #[.val (.int p1), .val (.int p2), .val (.int p3), .val (.int p4), .val (.int p5), .val (.ref b0), .val (.int (3 : Int32)), .val (.ref b56b8b15)] [(.int (f11 (7 : Int32) (3 : Int32) p2 p3 p5 ar56))])
        have c190 : ¬ (f11 (7 : Int32) (3 : Int32) p2 p3 p5 ar56) = (0 : Int32) := own_okb _ _ _ _ _ (0 : Int32) _ (by decide) (by decide) (by decide) (by rw [← ear56]; refine (own_cpi (own_ck h3.2 (by decide) (Nat.lt_of_lt_of_le (by decide) h3.1) (by decide))).trans ?_; rw [← ear39]; exact w7)
        refine own_if_eq X hx hby at_190 197 193 (by decide) rfl (fun q => absurd q c190) (fun _ => ?_)
        refine own_iconst X hx hby (1 : Int32) at_193 rfl 194 rfl ?_
        refine own_goto X hx hby at_194 198 (by decide) ?_
        refine own_retN X hx hby hret hlk (t := .boolean) (z' := (1 : Int32)) (by simp) at_198 (by decide) (by decide) rfl ?_
        rw [eT]
        exact ⟨rfl, N⟩
    · skip
      refine own_aload X hx hby (.ref b0) at_33 rfl rfl 35 rfl ?_
      refine own_iload X hx hby (4 : Int32) at_35 rfl 37 rfl ?_
      refine own_iload X hx hby p5 at_37 rfl 39 rfl ?_
      refine own_callV X hx hby hZ (st := []) [(.int (4 : Int32)), (.int p5)] rfl hown (hw _ (List.mem_of_getElem? (i := 39) rfl)) (hw _ (List.mem_of_getElem? (i := 40) rfl)) (hw _ (List.mem_of_getElem? (i := 42) rfl)) (hw _ (List.mem_of_getElem? (i := 41) rfl)) (hw _ (List.mem_of_getElem? (i := 2) rfl)) (hw _ (List.mem_of_getElem? (i := 43) rfl)) E_b0 (by decide) at_39 (rm8_4 l Z a0 hw b0 p5 b22b2b35b15 ar22 n3 (8 : Int32) h22 n0 Zs h3.1 A_b22b2b35b15 E_b22b2b35b15 g_b22b2b35b15 E_b0 F_bytes_b0 F_length_b0 g_b0) eT pd_6 rfl (by rw [hml]; rfl) (by decide) 0 rfl (by decide) (by decide) (by decide) 42 rfl ?_
      intro T39 L9 v9 X hQ
      obtain ⟨h39, eT⟩ : ∃ z, T39.heap = z := ⟨_, rfl⟩
      rw [eT] at hQ
      obtain ⟨rfl, N9, Kc, A_b22b2b35b15, E_b22b2b35b15⟩ := hQ
      have E_b0 := E_b0.keep Kc
      have F_bytes_b0 := F_bytes_b0.keep Kc (ninS ne_b0_b22b2b35b15 nin0)
      have F_length_b0 := F_length_b0.keep Kc (ninS ne_b0_b22b2b35b15 nin0)
      have A_b8b6 := A_b8b6.keep Kc (ninS ne_b8b6_b22b2b35b15 nin0)
      have E_b8b6 := E_b8b6.keep Kc
      obtain ⟨ar39, ear39⟩ : ∃ z : Nat → Int32, (updI (updI (updI (updI ar22 4 (nar .byte (((p5.toUInt32 >>> ((24 : Int32) &&& 31).toUInt32).toInt32).toInt8.toInt32))) 5 (nar .byte (((p5.toUInt32 >>> ((16 : Int32) &&& 31).toUInt32).toInt32).toInt8.toInt32))) 6 (nar .byte (((p5.toUInt32 >>> ((8 : Int32) &&& 31).toUInt32).toInt32).toInt8.toInt32))) 7 (nar .byte (((p5.toUInt32 >>> ((0 : Int32) &&& 31).toUInt32).toInt32).toInt8.toInt32))) = z := ⟨_, rfl⟩
      rw [ear39] at A_b22b2b35b15
      have K := K.trans Kc (allS (Or.inr sz_b22b2b35b15) all0)
      have Zs := Nat.le_trans Zs Kc.1
      have N := Fr.app N N9
      show Go p e below _ T39 (mkF m 42 #[.val (.int p1), .val (.int p2), .val (.int p3), .val (.int p4), .val (.int p5), .val (.ref b0), .val (.int (4 : Int32)), .unset] [])
      refine own_aload X hx hby (.ref b0) at_42 rfl rfl 44 rfl ?_
      refine own_callV X hx hby hZ (st := []) [] rfl hown (hw _ (List.mem_of_getElem? (i := 44) rfl)) (hw _ (List.mem_of_getElem? (i := 45) rfl)) (hw _ (List.mem_of_getElem? (i := 47) rfl)) (hw _ (List.mem_of_getElem? (i := 46) rfl)) (hw _ (List.mem_of_getElem? (i := 2) rfl)) (hw _ (List.mem_of_getElem? (i := 48) rfl)) E_b0 (by decide) at_44 (rm9 l Z a0 hw b0 h39 n0 Zs F_length_b0) eT pd_0 rfl (by rw [hml]; rfl) (by decide) 0 rfl (by decide) (by decide) (by decide) 47 rfl ?_
      intro T44 L9 v9 X hQ
      obtain ⟨rfl, N9, eT⟩ := hQ
      have N := Fr.app N N9
      show Go p e below _ T44 (mkF m 47 #[.val (.int p1), .val (.int p2), .val (.int p3), .val (.int p4), .val (.int p5), .val (.ref b0), .val (.int (4 : Int32)), .unset] [(.int (8 : Int32))])
      refine own_bipush X hx hby (8 : Int32) at_47 rfl 49 rfl ?_
      have c49 : (8 : Int32) = (8 : Int32) := by decide
      refine own_icmp_eq X hx hby at_49 54 52 (by decide) rfl (fun _ => ?_) (fun q => absurd c49 q)
      refine own_aload X hx hby (.ref b0) at_54 rfl rfl 56 rfl ?_
      by_cases q8 : n3 = 8
      · skip
        subst q8
        refine own_callV X hx hby hZ (st := []) [] rfl hown (hw _ (List.mem_of_getElem? (i := 49) rfl)) (hw _ (List.mem_of_getElem? (i := 50) rfl)) (hw _ (List.mem_of_getElem? (i := 52) rfl)) (hw _ (List.mem_of_getElem? (i := 51) rfl)) (hw _ (List.mem_of_getElem? (i := 2) rfl)) (hw _ (List.mem_of_getElem? (i := 53) rfl)) E_b0 (by decide) at_56 (rm10_c l Z a0 hw b0 b22b2b35b15 ar39 h39 n0 Zs A_b22b2b35b15 E_b22b2b35b15 F_bytes_b0 F_length_b0) eT pd_3 rfl (by rw [hml]; rfl) (by decide) 0 rfl (by decide) (by decide) (by decide) 59 rfl ?_
        intro T56 L9 v9 X hQ
        obtain ⟨h56, eT⟩ : ∃ z, T56.heap = z := ⟨_, rfl⟩
        rw [eT] at hQ
        have lt_b0 := E_b0.lt
        have lt_b22b2b35b15 := A_b22b2b35b15.lt
        have lt_b8b6 := A_b8b6.lt
        obtain ⟨b56b8b7, rfl, N9, Kc, hs_b56b8b7, A_b56b8b7, E_b56b8b7⟩ := hQ
        have g_b56b8b7 : n0 ≤ b56b8b7 := Nat.le_trans Zs hs_b56b8b7
        have sz_b56b8b7 : h0.size ≤ b56b8b7 := Nat.le_trans K.1 hs_b56b8b7
        have ne_b0_b56b8b7 : b0 ≠ b56b8b7 := Nat.ne_of_lt (Nat.lt_of_lt_of_le lt_b0 hs_b56b8b7)
        have ne_b22b2b35b15_b56b8b7 : b22b2b35b15 ≠ b56b8b7 := Nat.ne_of_lt (Nat.lt_of_lt_of_le lt_b22b2b35b15 hs_b56b8b7)
        have ne_b8b6_b56b8b7 : b8b6 ≠ b56b8b7 := Nat.ne_of_lt (Nat.lt_of_lt_of_le lt_b8b6 hs_b56b8b7)
        have E_b0 := E_b0.keep Kc
        have F_bytes_b0 := F_bytes_b0.keep Kc nin0
        have F_length_b0 := F_length_b0.keep Kc nin0
        have A_b8b6 := A_b8b6.keep Kc nin0
        have E_b8b6 := E_b8b6.keep Kc
        have A_b22b2b35b15 := A_b22b2b35b15.keep Kc nin0
        have E_b22b2b35b15 := E_b22b2b35b15.keep Kc
        have K := K.trans Kc all0
        have Zs := Nat.le_trans Zs Kc.1
        have N := Fr.app N N9
        show Go p e below _ T56 (mkF m 59 #[.val (.int p1), .val (.int p2), .val (.int p3), .val (.int p4), .val (.int p5), .val (.ref b0), .val (.int (4 : Int32)), .unset] [(.ref b56b8b7)])
        refine own_astore X hx hby at_59 rfl (l' := #[.val (.int p1), .val (.int p2), .val (.int p3), .val (.int p4), .val (.int p5), .val (.ref b0), .val (.int (4 : Int32)), .val (.ref b56b8b7)]) rfl 61 rfl ?_
        refine own_aload X hx hby (.ref b56b8b7) at_61 rfl rfl 63 rfl ?_
        refine own_arraylength X hx hby hZ (8 : Int32) eT A_b56b8b7 rfl at_63 64 rfl ?_
        refine own_bipush X hx hby (8 : Int32) at_64 rfl 66 rfl ?_
        have c66 : (8 : Int32) = (8 : Int32) := by decide
        refine own_icmp_eq X hx hby at_66 71 69 (by decide) rfl (fun _ => ?_) (fun q => absurd c66 q)
        refine own_aload X hx hby (.ref b56b8b7) at_71 rfl rfl 73 rfl ?_
        refine own_iconst X hx hby (0 : Int32) at_73 rfl 74 rfl ?_
        refine own_iload X hx hby (4 : Int32) at_74 rfl 76 rfl ?_
        refine own_iloadN X hx hby p2 at_76 rfl 77 rfl ?_
        refine own_iloadN X hx hby p3 at_77 rfl 78 rfl ?_
        refine own_iload X hx hby p5 at_78 rfl 80 rfl ?_
        refine own_callS X hx hby hZ (st := []) [(.ref b56b8b7), (.int (0 : Int32)), (.int (4 : Int32)), (.int p2), (.int p3), (.int p5)] rfl hown (hw _ (List.mem_of_getElem? (i := 63) rfl)) (hw _ (List.mem_of_getElem? (i := 64) rfl)) (hw _ (List.mem_of_getElem? (i := 65) rfl)) (hw _ (List.mem_of_getElem? (i := 66) rfl)) (by decide) at_80 (rm11 l Z a0 hw b56b8b7 (0 : Int32) (4 : Int32) p2 p3 p5 ar39 h56 n0 Zs (by decide) A_b56b8b7 E_b56b8b7) eT pd_9 rfl (by rw [hml]; rfl) (by decide) 0 rfl (by decide) (by decide) (by decide) 83 rfl ?_
        intro T80 L9 v9 X hQ
        obtain ⟨rfl, N9, eT⟩ := hQ
        have N := Fr.app N N9
        show Go p e below _ T80 (mkF m 83 #[.val (.int p1), .val (.int p2), .val (.int p3), .val (.int p4), .val (.int p5), .val (.ref b0), .val (.int (4 : Int32)), .val (.ref b56b8b7)] [(.int (f11 (0 : Int32) (4 : Int32) p2 p3 p5 ar39))])
        have c83 : ¬ (f11 (0 : Int32) (4 : Int32) p2 p3 p5 ar39) = (0 : Int32) := own_oka _ _ _ _ _ (24 : Int32) _ (by decide) (by decide) (by decide) (by rw [← ear39]; exact w0)
        refine own_if_eq X hx hby at_83 197 86 (by decide) rfl (fun q => absurd q c83) (fun _ => ?_)
        refine own_aload X hx hby (.ref b56b8b7) at_86 rfl rfl 88 rfl ?_
        refine own_iconst X hx hby (1 : Int32) at_88 rfl 89 rfl ?_
        refine own_iload X hx hby (4 : Int32) at_89 rfl 91 rfl ?_
        refine own_iloadN X hx hby p2 at_91 rfl 92 rfl ?_
        refine own_iloadN X hx hby p3 at_92 rfl 93 rfl ?_
        refine own_iload X hx hby p5 at_93 rfl 95 rfl ?_
        refine own_callS X hx hby hZ (st := []) [(.ref b56b8b7), (.int (1 : Int32)), (.int (4 : Int32)), (.int p2), (.int p3), (.int p5)] rfl hown (hw _ (List.mem_of_getElem? (i := 63) rfl)) (hw _ (List.mem_of_getElem? (i := 64) rfl)) (hw _ (List.mem_of_getElem? (i := 65) rfl)) (hw _ (List.mem_of_getElem? (i := 66) rfl)) (by decide) at_95 (rm11 l Z a0 hw b56b8b7 (1 : Int32) (4 : Int32) p2 p3 p5 ar39 h56 n0 Zs (by decide) A_b56b8b7 E_b56b8b7) eT pd_9 rfl (by rw [hml]; rfl) (by decide) 0 rfl (by decide) (by decide) (by decide) 98 rfl ?_
        intro T95 L9 v9 X hQ
        obtain ⟨rfl, N9, eT⟩ := hQ
        have N := Fr.app N N9
        show Go p e below _ T95 (mkF m 98 #[.val (.int p1), .val (.int p2), .val (.int p3), .val (.int p4), .val (.int p5), .val (.ref b0), .val (.int (4 : Int32)), .val (.ref b56b8b7)] [(.int (f11 (1 : Int32) (4 : Int32) p2 p3 p5 ar39))])
        have c98 : ¬ (f11 (1 : Int32) (4 : Int32) p2 p3 p5 ar39) = (0 : Int32) := own_oka _ _ _ _ _ (16 : Int32) _ (by decide) (by decide) (by decide) (by rw [← ear39]; exact w1)
        refine own_if_eq X hx hby at_98 197 101 (by decide) rfl (fun q => absurd q c98) (fun _ => ?_)
        refine own_aload X hx hby (.ref b56b8b7) at_101 rfl rfl 103 rfl ?_
        refine own_iconst X hx hby (2 : Int32) at_103 rfl 104 rfl ?_
        refine own_iload X hx hby (4 : Int32) at_104 rfl 106 rfl ?_
        refine own_iloadN X hx hby p2 at_106 rfl 107 rfl ?_
        refine own_iloadN X hx hby p3 at_107 rfl 108 rfl ?_
        refine own_iload X hx hby p5 at_108 rfl 110 rfl ?_
        refine own_callS X hx hby hZ (st := []) [(.ref b56b8b7), (.int (2 : Int32)), (.int (4 : Int32)), (.int p2), (.int p3), (.int p5)] rfl hown (hw _ (List.mem_of_getElem? (i := 63) rfl)) (hw _ (List.mem_of_getElem? (i := 64) rfl)) (hw _ (List.mem_of_getElem? (i := 65) rfl)) (hw _ (List.mem_of_getElem? (i := 66) rfl)) (by decide) at_110 (rm11 l Z a0 hw b56b8b7 (2 : Int32) (4 : Int32) p2 p3 p5 ar39 h56 n0 Zs (by decide) A_b56b8b7 E_b56b8b7) eT pd_9 rfl (by rw [hml]; rfl) (by decide) 0 rfl (by decide) (by decide) (by decide) 113 rfl ?_
        intro T110 L9 v9 X hQ
        obtain ⟨rfl, N9, eT⟩ := hQ
        have N := Fr.app N N9
        show Go p e below _ T110 (mkF m 113 #[.val (.int p1), .val (.int p2), .val (.int p3), .val (.int p4), .val (.int p5), .val (.ref b0), .val (.int (4 : Int32)), .val (.ref b56b8b7)] [(.int (f11 (2 : Int32) (4 : Int32) p2 p3 p5 ar39))])
        have c113 : ¬ (f11 (2 : Int32) (4 : Int32) p2 p3 p5 ar39) = (0 : Int32) := own_oka _ _ _ _ _ (8 : Int32) _ (by decide) (by decide) (by decide) (by rw [← ear39]; exact w2)
        refine own_if_eq X hx hby at_113 197 116 (by decide) rfl (fun q => absurd q c113) (fun _ => ?_)
        refine own_aload X hx hby (.ref b56b8b7) at_116 rfl rfl 118 rfl ?_
        refine own_iconst X hx hby (3 : Int32) at_118 rfl 119 rfl ?_
        refine own_iload X hx hby (4 : Int32) at_119 rfl 121 rfl ?_
        refine own_iloadN X hx hby p2 at_121 rfl 122 rfl ?_
        refine own_iloadN X hx hby p3 at_122 rfl 123 rfl ?_
        refine own_iload X hx hby p5 at_123 rfl 125 rfl ?_
        refine own_callS X hx hby hZ (st := []) [(.ref b56b8b7), (.int (3 : Int32)), (.int (4 : Int32)), (.int p2), (.int p3), (.int p5)] rfl hown (hw _ (List.mem_of_getElem? (i := 63) rfl)) (hw _ (List.mem_of_getElem? (i := 64) rfl)) (hw _ (List.mem_of_getElem? (i := 65) rfl)) (hw _ (List.mem_of_getElem? (i := 66) rfl)) (by decide) at_125 (rm11 l Z a0 hw b56b8b7 (3 : Int32) (4 : Int32) p2 p3 p5 ar39 h56 n0 Zs (by decide) A_b56b8b7 E_b56b8b7) eT pd_9 rfl (by rw [hml]; rfl) (by decide) 0 rfl (by decide) (by decide) (by decide) 128 rfl ?_
        intro T125 L9 v9 X hQ
        obtain ⟨rfl, N9, eT⟩ := hQ
        have N := Fr.app N N9
        show Go p e below _ T125 (mkF m 128 #[.val (.int p1), .val (.int p2), .val (.int p3), .val (.int p4), .val (.int p5), .val (.ref b0), .val (.int (4 : Int32)), .val (.ref b56b8b7)] [(.int (f11 (3 : Int32) (4 : Int32) p2 p3 p5 ar39))])
        have c128 : ¬ (f11 (3 : Int32) (4 : Int32) p2 p3 p5 ar39) = (0 : Int32) := own_oka _ _ _ _ _ (0 : Int32) _ (by decide) (by decide) (by decide) (by rw [← ear39]; exact w3)
        refine own_if_eq X hx hby at_128 197 131 (by decide) rfl (fun q => absurd q c128) (fun _ => ?_)
        refine own_aload X hx hby (.ref b56b8b7) at_131 rfl rfl 133 rfl ?_
        refine own_iconst X hx hby (4 : Int32) at_133 rfl 134 rfl ?_
        refine own_iload X hx hby (4 : Int32) at_134 rfl 136 rfl ?_
        refine own_iloadN X hx hby p2 at_136 rfl 137 rfl ?_
        refine own_iloadN X hx hby p3 at_137 rfl 138 rfl ?_
        refine own_iload X hx hby p5 at_138 rfl 140 rfl ?_
        refine own_callS X hx hby hZ (st := []) [(.ref b56b8b7), (.int (4 : Int32)), (.int (4 : Int32)), (.int p2), (.int p3), (.int p5)] rfl hown (hw _ (List.mem_of_getElem? (i := 63) rfl)) (hw _ (List.mem_of_getElem? (i := 64) rfl)) (hw _ (List.mem_of_getElem? (i := 65) rfl)) (hw _ (List.mem_of_getElem? (i := 66) rfl)) (by decide) at_140 (rm11 l Z a0 hw b56b8b7 (4 : Int32) (4 : Int32) p2 p3 p5 ar39 h56 n0 Zs (by decide) A_b56b8b7 E_b56b8b7) eT pd_9 rfl (by rw [hml]; rfl) (by decide) 0 rfl (by decide) (by decide) (by decide) 143 rfl ?_
        intro T140 L9 v9 X hQ
        obtain ⟨rfl, N9, eT⟩ := hQ
        have N := Fr.app N N9
        show Go p e below _ T140 (mkF m 143 #[.val (.int p1), .val (.int p2), .val (.int p3), .val (.int p4), .val (.int p5), .val (.ref b0), .val (.int (4 : Int32)), .val (.ref b56b8b7)] [(.int (f11 (4 : Int32) (4 : Int32) p2 p3 p5 ar39))])
        have c143 : ¬ (f11 (4 : Int32) (4 : Int32) p2 p3 p5 ar39) = (0 : Int32) := own_okv _ _ _ _ _ (24 : Int32) _ (by decide) (by decide) (by decide) (by rw [← ear39]; rfl)
        refine own_if_eq X hx hby at_143 197 146 (by decide) rfl (fun q => absurd q c143) (fun _ => ?_)
        refine own_aload X hx hby (.ref b56b8b7) at_146 rfl rfl 148 rfl ?_
        refine own_iconst X hx hby (5 : Int32) at_148 rfl 149 rfl ?_
        refine own_iload X hx hby (4 : Int32) at_149 rfl 151 rfl ?_
        refine own_iloadN X hx hby p2 at_151 rfl 152 rfl ?_
        refine own_iloadN X hx hby p3 at_152 rfl 153 rfl ?_
        refine own_iload X hx hby p5 at_153 rfl 155 rfl ?_
        refine own_callS X hx hby hZ (st := []) [(.ref b56b8b7), (.int (5 : Int32)), (.int (4 : Int32)), (.int p2), (.int p3), (.int p5)] rfl hown (hw _ (List.mem_of_getElem? (i := 63) rfl)) (hw _ (List.mem_of_getElem? (i := 64) rfl)) (hw _ (List.mem_of_getElem? (i := 65) rfl)) (hw _ (List.mem_of_getElem? (i := 66) rfl)) (by decide) at_155 (rm11 l Z a0 hw b56b8b7 (5 : Int32) (4 : Int32) p2 p3 p5 ar39 h56 n0 Zs (by decide) A_b56b8b7 E_b56b8b7) eT pd_9 rfl (by rw [hml]; rfl) (by decide) 0 rfl (by decide) (by decide) (by decide) 158 rfl ?_
        intro T155 L9 v9 X hQ
        obtain ⟨rfl, N9, eT⟩ := hQ
        have N := Fr.app N N9
        show Go p e below _ T155 (mkF m 158 #[.val (.int p1), .val (.int p2), .val (.int p3), .val (.int p4), .val (.int p5), .val (.ref b0), .val (.int (4 : Int32)), .val (.ref b56b8b7)] [(.int (f11 (5 : Int32) (4 : Int32) p2 p3 p5 ar39))])
        have c158 : ¬ (f11 (5 : Int32) (4 : Int32) p2 p3 p5 ar39) = (0 : Int32) := own_okv _ _ _ _ _ (16 : Int32) _ (by decide) (by decide) (by decide) (by rw [← ear39]; rfl)
        refine own_if_eq X hx hby at_158 197 161 (by decide) rfl (fun q => absurd q c158) (fun _ => ?_)
        refine own_aload X hx hby (.ref b56b8b7) at_161 rfl rfl 163 rfl ?_
        refine own_bipush X hx hby (6 : Int32) at_163 rfl 165 rfl ?_
        refine own_iload X hx hby (4 : Int32) at_165 rfl 167 rfl ?_
        refine own_iloadN X hx hby p2 at_167 rfl 168 rfl ?_
        refine own_iloadN X hx hby p3 at_168 rfl 169 rfl ?_
        refine own_iload X hx hby p5 at_169 rfl 171 rfl ?_
        refine own_callS X hx hby hZ (st := []) [(.ref b56b8b7), (.int (6 : Int32)), (.int (4 : Int32)), (.int p2), (.int p3), (.int p5)] rfl hown (hw _ (List.mem_of_getElem? (i := 63) rfl)) (hw _ (List.mem_of_getElem? (i := 64) rfl)) (hw _ (List.mem_of_getElem? (i := 65) rfl)) (hw _ (List.mem_of_getElem? (i := 66) rfl)) (by decide) at_171 (rm11 l Z a0 hw b56b8b7 (6 : Int32) (4 : Int32) p2 p3 p5 ar39 h56 n0 Zs (by decide) A_b56b8b7 E_b56b8b7) eT pd_9 rfl (by rw [hml]; rfl) (by decide) 0 rfl (by decide) (by decide) (by decide) 174 rfl ?_
        intro T171 L9 v9 X hQ
        obtain ⟨rfl, N9, eT⟩ := hQ
        have N := Fr.app N N9
        show Go p e below _ T171 (mkF m 174 #[.val (.int p1), .val (.int p2), .val (.int p3), .val (.int p4), .val (.int p5), .val (.ref b0), .val (.int (4 : Int32)), .val (.ref b56b8b7)] [(.int (f11 (6 : Int32) (4 : Int32) p2 p3 p5 ar39))])
        have c174 : ¬ (f11 (6 : Int32) (4 : Int32) p2 p3 p5 ar39) = (0 : Int32) := own_okv _ _ _ _ _ (8 : Int32) _ (by decide) (by decide) (by decide) (by rw [← ear39]; rfl)
        refine own_if_eq X hx hby at_174 197 177 (by decide) rfl (fun q => absurd q c174) (fun _ => ?_)
        refine own_aload X hx hby (.ref b56b8b7) at_177 rfl rfl 179 rfl ?_
        refine own_bipush X hx hby (7 : Int32) at_179 rfl 181 rfl ?_
        refine own_iload X hx hby (4 : Int32) at_181 rfl 183 rfl ?_
        refine own_iloadN X hx hby p2 at_183 rfl 184 rfl ?_
        refine own_iloadN X hx hby p3 at_184 rfl 185 rfl ?_
        refine own_iload X hx hby p5 at_185 rfl 187 rfl ?_
        refine own_callS X hx hby hZ (st := []) [(.ref b56b8b7), (.int (7 : Int32)), (.int (4 : Int32)), (.int p2), (.int p3), (.int p5)] rfl hown (hw _ (List.mem_of_getElem? (i := 63) rfl)) (hw _ (List.mem_of_getElem? (i := 64) rfl)) (hw _ (List.mem_of_getElem? (i := 65) rfl)) (hw _ (List.mem_of_getElem? (i := 66) rfl)) (by decide) at_187 (rm11 l Z a0 hw b56b8b7 (7 : Int32) (4 : Int32) p2 p3 p5 ar39 h56 n0 Zs (by decide) A_b56b8b7 E_b56b8b7) eT pd_9 rfl (by rw [hml]; rfl) (by decide) 0 rfl (by decide) (by decide) (by decide) 190 rfl ?_
        intro T187 L9 v9 X hQ
        obtain ⟨rfl, N9, eT⟩ := hQ
        have N := Fr.app N N9
        show Go p e below _ T187 (mkF m 190 #[.val (.int p1), .val (.int p2), .val (.int p3), .val (.int p4), .val (.int p5), .val (.ref b0), .val (.int (4 : Int32)), .val (.ref b56b8b7)] [(.int (f11 (7 : Int32) (4 : Int32) p2 p3 p5 ar39))])
        have c190 : ¬ (f11 (7 : Int32) (4 : Int32) p2 p3 p5 ar39) = (0 : Int32) := own_okv _ _ _ _ _ (0 : Int32) _ (by decide) (by decide) (by decide) (by rw [← ear39]; rfl)
        refine own_if_eq X hx hby at_190 197 193 (by decide) rfl (fun q => absurd q c190) (fun _ => ?_)
        refine own_iconst X hx hby (1 : Int32) at_193 rfl 194 rfl ?_
        refine own_goto X hx hby at_194 198 (by decide) ?_
        refine own_retN X hx hby hret hlk (t := .boolean) (z' := (1 : Int32)) (by simp) at_198 (by decide) (by decide) rfl ?_
        rw [eT]
        exact ⟨rfl, N⟩
      · skip
        refine own_callV X hx hby hZ (st := []) [] rfl hown (hw _ (List.mem_of_getElem? (i := 49) rfl)) (hw _ (List.mem_of_getElem? (i := 50) rfl)) (hw _ (List.mem_of_getElem? (i := 52) rfl)) (hw _ (List.mem_of_getElem? (i := 51) rfl)) (hw _ (List.mem_of_getElem? (i := 2) rfl)) (hw _ (List.mem_of_getElem? (i := 53) rfl)) E_b0 (by decide) at_56 (rm10_n l Z a0 hw b0 b22b2b35b15 ar39 n3 h39 n0 Zs (own_n8 q8 h3.2) h3.2 A_b22b2b35b15 E_b22b2b35b15 F_bytes_b0 F_length_b0) eT pd_3 rfl (by rw [hml]; rfl) (by decide) 0 rfl (by decide) (by decide) (by decide) 59 rfl ?_
        intro T56 L9 v9 X hQ
        obtain ⟨h56, eT⟩ : ∃ z, T56.heap = z := ⟨_, rfl⟩
        rw [eT] at hQ
        have lt_b0 := E_b0.lt
        have lt_b22b2b35b15 := A_b22b2b35b15.lt
        have lt_b8b6 := A_b8b6.lt
        obtain ⟨b56b8b15, rfl, N9, Kc, hs_b56b8b15, A_b56b8b15, E_b56b8b15⟩ := hQ
        have g_b56b8b15 : n0 ≤ b56b8b15 := Nat.le_trans Zs hs_b56b8b15
        have sz_b56b8b15 : h0.size ≤ b56b8b15 := Nat.le_trans K.1 hs_b56b8b15
        have ne_b0_b56b8b15 : b0 ≠ b56b8b15 := Nat.ne_of_lt (Nat.lt_of_lt_of_le lt_b0 hs_b56b8b15)
        have ne_b22b2b35b15_b56b8b15 : b22b2b35b15 ≠ b56b8b15 := Nat.ne_of_lt (Nat.lt_of_lt_of_le lt_b22b2b35b15 hs_b56b8b15)
        have ne_b8b6_b56b8b15 : b8b6 ≠ b56b8b15 := Nat.ne_of_lt (Nat.lt_of_lt_of_le lt_b8b6 hs_b56b8b15)
        have E_b0 := E_b0.keep Kc
        have F_bytes_b0 := F_bytes_b0.keep Kc nin0
        have F_length_b0 := F_length_b0.keep Kc nin0
        have A_b8b6 := A_b8b6.keep Kc nin0
        have E_b8b6 := E_b8b6.keep Kc
        have A_b22b2b35b15 := A_b22b2b35b15.keep Kc nin0
        have E_b22b2b35b15 := E_b22b2b35b15.keep Kc
        obtain ⟨ar56, ear56⟩ : ∃ z : Nat → Int32, (own_cp ar39 (Int32.toNatClampNeg (f7 (Int32.ofNat n3) (8 : Int32)))) = z := ⟨_, rfl⟩
        rw [ear56] at A_b56b8b15
        have K := K.trans Kc all0
        have Zs := Nat.le_trans Zs Kc.1
        have N := Fr.app N N9
        show Go p e below _ T56 (mkF m 59 #[.val (.int p1), .val (.int p2), .val (.int p3), .val (.int p4), .val (.int p5), .val (.ref b0), .val (.int (4 : Int32)), .unset] [(.ref b56b8b15)])
        refine own_astore X hx hby at_59 rfl (l' := #[.val (.int p1), .val (.int p2), .val (.int p3), .val (.int p4), .val (.int p5), .val (.ref b0), .val (.int (4 : Int32)), .val (.ref b56b8b15)]) rfl 61 rfl ?_
        refine own_aload X hx hby (.ref b56b8b15) at_61 rfl rfl 63 rfl ?_
        refine own_arraylength X hx hby hZ (8 : Int32) eT A_b56b8b15 rfl at_63 64 rfl ?_
        refine own_bipush X hx hby (8 : Int32) at_64 rfl 66 rfl ?_
        have c66 : (8 : Int32) = (8 : Int32) := by decide
        refine own_icmp_eq X hx hby at_66 71 69 (by decide) rfl (fun _ => ?_) (fun q => absurd c66 q)
        refine own_aload X hx hby (.ref b56b8b15) at_71 rfl rfl 73 rfl ?_
        refine own_iconst X hx hby (0 : Int32) at_73 rfl 74 rfl ?_
        refine own_iload X hx hby (4 : Int32) at_74 rfl 76 rfl ?_
        refine own_iloadN X hx hby p2 at_76 rfl 77 rfl ?_
        refine own_iloadN X hx hby p3 at_77 rfl 78 rfl ?_
        refine own_iload X hx hby p5 at_78 rfl 80 rfl ?_
        refine own_callS X hx hby hZ (st := []) [(.ref b56b8b15), (.int (0 : Int32)), (.int (4 : Int32)), (.int p2), (.int p3), (.int p5)] rfl hown (hw _ (List.mem_of_getElem? (i := 63) rfl)) (hw _ (List.mem_of_getElem? (i := 64) rfl)) (hw _ (List.mem_of_getElem? (i := 65) rfl)) (hw _ (List.mem_of_getElem? (i := 66) rfl)) (by decide) at_80 (rm11 l Z a0 hw b56b8b15 (0 : Int32) (4 : Int32) p2 p3 p5 ar56 h56 n0 Zs (by decide) A_b56b8b15 E_b56b8b15) eT pd_9 rfl (by rw [hml]; rfl) (by decide) 0 rfl (by decide) (by decide) (by decide) 83 rfl ?_
        intro T80 L9 v9 X hQ
        obtain ⟨rfl, N9, eT⟩ := hQ
        have N := Fr.app N N9
        show Go p e below _ T80 (mkF m 83 #[.val (.int p1), .val (.int p2), .val (.int p3), .val (.int p4), .val (.int p5), .val (.ref b0), .val (.int (4 : Int32)), .val (.ref b56b8b15)] [(.int (f11 (0 : Int32) (4 : Int32) p2 p3 p5 ar56))])
        have c83 : ¬ (f11 (0 : Int32) (4 : Int32) p2 p3 p5 ar56) = (0 : Int32) := own_oka _ _ _ _ _ (24 : Int32) _ (by decide) (by decide) (by decide) (by rw [← ear56]; refine (own_cpi (own_ck h3.2 (by decide) (Nat.lt_of_lt_of_le (by decide) h3.1) (by decide))).trans ?_; rw [← ear39]; exact w0)
        refine own_if_eq X hx hby at_83 197 86 (by decide) rfl (fun q => absurd q c83) (fun _ => ?_)
        refine own_aload X hx hby (.ref b56b8b15) at_86 rfl rfl 88 rfl ?_
        refine own_iconst X hx hby (1 : Int32) at_88 rfl 89 rfl ?_
        refine own_iload X hx hby (4 : Int32) at_89 rfl 91 rfl ?_
        refine own_iloadN X hx hby p2 at_91 rfl 92 rfl ?_
        refine own_iloadN X hx hby p3 at_92 rfl 93 rfl ?_
        refine own_iload X hx hby p5 at_93 rfl 95 rfl ?_
        refine own_callS X hx hby hZ (st := []) [(.ref b56b8b15), (.int (1 : Int32)), (.int (4 : Int32)), (.int p2), (.int p3), (.int p5)] rfl hown (hw _ (List.mem_of_getElem? (i := 63) rfl)) (hw _ (List.mem_of_getElem? (i := 64) rfl)) (hw _ (List.mem_of_getElem? (i := 65) rfl)) (hw _ (List.mem_of_getElem? (i := 66) rfl)) (by decide) at_95 (rm11 l Z a0 hw b56b8b15 (1 : Int32) (4 : Int32) p2 p3 p5 ar56 h56 n0 Zs (by decide) A_b56b8b15 E_b56b8b15) eT pd_9 rfl (by rw [hml]; rfl) (by decide) 0 rfl (by decide) (by decide) (by decide) 98 rfl ?_
        intro T95 L9 v9 X hQ
        obtain ⟨rfl, N9, eT⟩ := hQ
        have N := Fr.app N N9
        show Go p e below _ T95 (mkF m 98 #[.val (.int p1), .val (.int p2), .val (.int p3), .val (.int p4), .val (.int p5), .val (.ref b0), .val (.int (4 : Int32)), .val (.ref b56b8b15)] [(.int (f11 (1 : Int32) (4 : Int32) p2 p3 p5 ar56))])
        have c98 : ¬ (f11 (1 : Int32) (4 : Int32) p2 p3 p5 ar56) = (0 : Int32) := own_oka _ _ _ _ _ (16 : Int32) _ (by decide) (by decide) (by decide) (by rw [← ear56]; refine (own_cpi (own_ck h3.2 (by decide) (Nat.lt_of_lt_of_le (by decide) h3.1) (by decide))).trans ?_; rw [← ear39]; exact w1)
        refine own_if_eq X hx hby at_98 197 101 (by decide) rfl (fun q => absurd q c98) (fun _ => ?_)
        refine own_aload X hx hby (.ref b56b8b15) at_101 rfl rfl 103 rfl ?_
        refine own_iconst X hx hby (2 : Int32) at_103 rfl 104 rfl ?_
        refine own_iload X hx hby (4 : Int32) at_104 rfl 106 rfl ?_
        refine own_iloadN X hx hby p2 at_106 rfl 107 rfl ?_
        refine own_iloadN X hx hby p3 at_107 rfl 108 rfl ?_
        refine own_iload X hx hby p5 at_108 rfl 110 rfl ?_
        refine own_callS X hx hby hZ (st := []) [(.ref b56b8b15), (.int (2 : Int32)), (.int (4 : Int32)), (.int p2), (.int p3), (.int p5)] rfl hown (hw _ (List.mem_of_getElem? (i := 63) rfl)) (hw _ (List.mem_of_getElem? (i := 64) rfl)) (hw _ (List.mem_of_getElem? (i := 65) rfl)) (hw _ (List.mem_of_getElem? (i := 66) rfl)) (by decide) at_110 (rm11 l Z a0 hw b56b8b15 (2 : Int32) (4 : Int32) p2 p3 p5 ar56 h56 n0 Zs (by decide) A_b56b8b15 E_b56b8b15) eT pd_9 rfl (by rw [hml]; rfl) (by decide) 0 rfl (by decide) (by decide) (by decide) 113 rfl ?_
        intro T110 L9 v9 X hQ
        obtain ⟨rfl, N9, eT⟩ := hQ
        have N := Fr.app N N9
        show Go p e below _ T110 (mkF m 113 #[.val (.int p1), .val (.int p2), .val (.int p3), .val (.int p4), .val (.int p5), .val (.ref b0), .val (.int (4 : Int32)), .val (.ref b56b8b15)] [(.int (f11 (2 : Int32) (4 : Int32) p2 p3 p5 ar56))])
        have c113 : ¬ (f11 (2 : Int32) (4 : Int32) p2 p3 p5 ar56) = (0 : Int32) := own_oka _ _ _ _ _ (8 : Int32) _ (by decide) (by decide) (by decide) (by rw [← ear56]; refine (own_cpi (own_ck h3.2 (by decide) (Nat.lt_of_lt_of_le (by decide) h3.1) (by decide))).trans ?_; rw [← ear39]; exact w2)
        refine own_if_eq X hx hby at_113 197 116 (by decide) rfl (fun q => absurd q c113) (fun _ => ?_)
        refine own_aload X hx hby (.ref b56b8b15) at_116 rfl rfl 118 rfl ?_
        refine own_iconst X hx hby (3 : Int32) at_118 rfl 119 rfl ?_
        refine own_iload X hx hby (4 : Int32) at_119 rfl 121 rfl ?_
        refine own_iloadN X hx hby p2 at_121 rfl 122 rfl ?_
        refine own_iloadN X hx hby p3 at_122 rfl 123 rfl ?_
        refine own_iload X hx hby p5 at_123 rfl 125 rfl ?_
        refine own_callS X hx hby hZ (st := []) [(.ref b56b8b15), (.int (3 : Int32)), (.int (4 : Int32)), (.int p2), (.int p3), (.int p5)] rfl hown (hw _ (List.mem_of_getElem? (i := 63) rfl)) (hw _ (List.mem_of_getElem? (i := 64) rfl)) (hw _ (List.mem_of_getElem? (i := 65) rfl)) (hw _ (List.mem_of_getElem? (i := 66) rfl)) (by decide) at_125 (rm11 l Z a0 hw b56b8b15 (3 : Int32) (4 : Int32) p2 p3 p5 ar56 h56 n0 Zs (by decide) A_b56b8b15 E_b56b8b15) eT pd_9 rfl (by rw [hml]; rfl) (by decide) 0 rfl (by decide) (by decide) (by decide) 128 rfl ?_
        intro T125 L9 v9 X hQ
        obtain ⟨rfl, N9, eT⟩ := hQ
        have N := Fr.app N N9
        show Go p e below _ T125 (mkF m 128 #[.val (.int p1), .val (.int p2), .val (.int p3), .val (.int p4), .val (.int p5), .val (.ref b0), .val (.int (4 : Int32)), .val (.ref b56b8b15)] [(.int (f11 (3 : Int32) (4 : Int32) p2 p3 p5 ar56))])
        have c128 : ¬ (f11 (3 : Int32) (4 : Int32) p2 p3 p5 ar56) = (0 : Int32) := own_oka _ _ _ _ _ (0 : Int32) _ (by decide) (by decide) (by decide) (by rw [← ear56]; refine (own_cpi (own_ck h3.2 (by decide) (Nat.lt_of_lt_of_le (by decide) h3.1) (by decide))).trans ?_; rw [← ear39]; exact w3)
        refine own_if_eq X hx hby at_128 197 131 (by decide) rfl (fun q => absurd q c128) (fun _ => ?_)
        refine own_aload X hx hby (.ref b56b8b15) at_131 rfl rfl 133 rfl ?_
        refine own_iconst X hx hby (4 : Int32) at_133 rfl 134 rfl ?_
        refine own_iload X hx hby (4 : Int32) at_134 rfl 136 rfl ?_
        refine own_iloadN X hx hby p2 at_136 rfl 137 rfl ?_
        refine own_iloadN X hx hby p3 at_137 rfl 138 rfl ?_
        refine own_iload X hx hby p5 at_138 rfl 140 rfl ?_
        refine own_callS X hx hby hZ (st := []) [(.ref b56b8b15), (.int (4 : Int32)), (.int (4 : Int32)), (.int p2), (.int p3), (.int p5)] rfl hown (hw _ (List.mem_of_getElem? (i := 63) rfl)) (hw _ (List.mem_of_getElem? (i := 64) rfl)) (hw _ (List.mem_of_getElem? (i := 65) rfl)) (hw _ (List.mem_of_getElem? (i := 66) rfl)) (by decide) at_140 (rm11 l Z a0 hw b56b8b15 (4 : Int32) (4 : Int32) p2 p3 p5 ar56 h56 n0 Zs (by decide) A_b56b8b15 E_b56b8b15) eT pd_9 rfl (by rw [hml]; rfl) (by decide) 0 rfl (by decide) (by decide) (by decide) 143 rfl ?_
        intro T140 L9 v9 X hQ
        obtain ⟨rfl, N9, eT⟩ := hQ
        have N := Fr.app N N9
        show Go p e below _ T140 (mkF m 143 #[.val (.int p1), .val (.int p2), .val (.int p3), .val (.int p4), .val (.int p5), .val (.ref b0), .val (.int (4 : Int32)), .val (.ref b56b8b15)] [(.int (f11 (4 : Int32) (4 : Int32) p2 p3 p5 ar56))])
        have c143 : ¬ (f11 (4 : Int32) (4 : Int32) p2 p3 p5 ar56) = (0 : Int32) := own_okv _ _ _ _ _ (24 : Int32) _ (by decide) (by decide) (by decide) (by rw [← ear56]; refine (own_cpi (own_ck h3.2 (by decide) (Nat.lt_of_lt_of_le (by decide) h3.1) (by decide))).trans ?_; rw [← ear39]; rfl)
        refine own_if_eq X hx hby at_143 197 146 (by decide) rfl (fun q => absurd q c143) (fun _ => ?_)
        refine own_aload X hx hby (.ref b56b8b15) at_146 rfl rfl 148 rfl ?_
        refine own_iconst X hx hby (5 : Int32) at_148 rfl 149 rfl ?_
        refine own_iload X hx hby (4 : Int32) at_149 rfl 151 rfl ?_
        refine own_iloadN X hx hby p2 at_151 rfl 152 rfl ?_
        refine own_iloadN X hx hby p3 at_152 rfl 153 rfl ?_
        refine own_iload X hx hby p5 at_153 rfl 155 rfl ?_
        refine own_callS X hx hby hZ (st := []) [(.ref b56b8b15), (.int (5 : Int32)), (.int (4 : Int32)), (.int p2), (.int p3), (.int p5)] rfl hown (hw _ (List.mem_of_getElem? (i := 63) rfl)) (hw _ (List.mem_of_getElem? (i := 64) rfl)) (hw _ (List.mem_of_getElem? (i := 65) rfl)) (hw _ (List.mem_of_getElem? (i := 66) rfl)) (by decide) at_155 (rm11 l Z a0 hw b56b8b15 (5 : Int32) (4 : Int32) p2 p3 p5 ar56 h56 n0 Zs (by decide) A_b56b8b15 E_b56b8b15) eT pd_9 rfl (by rw [hml]; rfl) (by decide) 0 rfl (by decide) (by decide) (by decide) 158 rfl ?_
        intro T155 L9 v9 X hQ
        obtain ⟨rfl, N9, eT⟩ := hQ
        have N := Fr.app N N9
        show Go p e below _ T155 (mkF m 158 #[.val (.int p1), .val (.int p2), .val (.int p3), .val (.int p4), .val (.int p5), .val (.ref b0), .val (.int (4 : Int32)), .val (.ref b56b8b15)] [(.int (f11 (5 : Int32) (4 : Int32) p2 p3 p5 ar56))])
        have c158 : ¬ (f11 (5 : Int32) (4 : Int32) p2 p3 p5 ar56) = (0 : Int32) := own_okv _ _ _ _ _ (16 : Int32) _ (by decide) (by decide) (by decide) (by rw [← ear56]; refine (own_cpi (own_ck h3.2 (by decide) (Nat.lt_of_lt_of_le (by decide) h3.1) (by decide))).trans ?_; rw [← ear39]; rfl)
        refine own_if_eq X hx hby at_158 197 161 (by decide) rfl (fun q => absurd q c158) (fun _ => ?_)
        refine own_aload X hx hby (.ref b56b8b15) at_161 rfl rfl 163 rfl ?_
        refine own_bipush X hx hby (6 : Int32) at_163 rfl 165 rfl ?_
        refine own_iload X hx hby (4 : Int32) at_165 rfl 167 rfl ?_
        refine own_iloadN X hx hby p2 at_167 rfl 168 rfl ?_
        refine own_iloadN X hx hby p3 at_168 rfl 169 rfl ?_
        refine own_iload X hx hby p5 at_169 rfl 171 rfl ?_
        refine own_callS X hx hby hZ (st := []) [(.ref b56b8b15), (.int (6 : Int32)), (.int (4 : Int32)), (.int p2), (.int p3), (.int p5)] rfl hown (hw _ (List.mem_of_getElem? (i := 63) rfl)) (hw _ (List.mem_of_getElem? (i := 64) rfl)) (hw _ (List.mem_of_getElem? (i := 65) rfl)) (hw _ (List.mem_of_getElem? (i := 66) rfl)) (by decide) at_171 (rm11 l Z a0 hw b56b8b15 (6 : Int32) (4 : Int32) p2 p3 p5 ar56 h56 n0 Zs (by decide) A_b56b8b15 E_b56b8b15) eT pd_9 rfl (by rw [hml]; rfl) (by decide) 0 rfl (by decide) (by decide) (by decide) 174 rfl ?_
        intro T171 L9 v9 X hQ
        obtain ⟨rfl, N9, eT⟩ := hQ
        have N := Fr.app N N9
        show Go p e below _ T171 (mkF m 174 #[.val (.int p1), .val (.int p2), .val (.int p3), .val (.int p4), .val (.int p5), .val (.ref b0), .val (.int (4 : Int32)), .val (.ref b56b8b15)] [(.int (f11 (6 : Int32) (4 : Int32) p2 p3 p5 ar56))])
        have c174 : ¬ (f11 (6 : Int32) (4 : Int32) p2 p3 p5 ar56) = (0 : Int32) := own_okv _ _ _ _ _ (8 : Int32) _ (by decide) (by decide) (by decide) (by rw [← ear56]; refine (own_cpi (own_ck h3.2 (by decide) (Nat.lt_of_lt_of_le (by decide) h3.1) (by decide))).trans ?_; rw [← ear39]; rfl)
        refine own_if_eq X hx hby at_174 197 177 (by decide) rfl (fun q => absurd q c174) (fun _ => ?_)
        refine own_aload X hx hby (.ref b56b8b15) at_177 rfl rfl 179 rfl ?_
        refine own_bipush X hx hby (7 : Int32) at_179 rfl 181 rfl ?_
        refine own_iload X hx hby (4 : Int32) at_181 rfl 183 rfl ?_
        refine own_iloadN X hx hby p2 at_183 rfl 184 rfl ?_
        refine own_iloadN X hx hby p3 at_184 rfl 185 rfl ?_
        refine own_iload X hx hby p5 at_185 rfl 187 rfl ?_
        refine own_callS X hx hby hZ (st := []) [(.ref b56b8b15), (.int (7 : Int32)), (.int (4 : Int32)), (.int p2), (.int p3), (.int p5)] rfl hown (hw _ (List.mem_of_getElem? (i := 63) rfl)) (hw _ (List.mem_of_getElem? (i := 64) rfl)) (hw _ (List.mem_of_getElem? (i := 65) rfl)) (hw _ (List.mem_of_getElem? (i := 66) rfl)) (by decide) at_187 (rm11 l Z a0 hw b56b8b15 (7 : Int32) (4 : Int32) p2 p3 p5 ar56 h56 n0 Zs (by decide) A_b56b8b15 E_b56b8b15) eT pd_9 rfl (by rw [hml]; rfl) (by decide) 0 rfl (by decide) (by decide) (by decide) 190 rfl ?_
        intro T187 L9 v9 X hQ
        obtain ⟨rfl, N9, eT⟩ := hQ
        have N := Fr.app N N9
        show Go p e below _ T187 (mkF m 190 #[.val (.int p1), .val (.int p2), .val (.int p3), .val (.int p4), .val (.int p5), .val (.ref b0), .val (.int (4 : Int32)), .val (.ref b56b8b15)] [(.int (f11 (7 : Int32) (4 : Int32) p2 p3 p5 ar56))])
        have c190 : ¬ (f11 (7 : Int32) (4 : Int32) p2 p3 p5 ar56) = (0 : Int32) := own_okv _ _ _ _ _ (0 : Int32) _ (by decide) (by decide) (by decide) (by rw [← ear56]; refine (own_cpi (own_ck h3.2 (by decide) (Nat.lt_of_lt_of_le (by decide) h3.1) (by decide))).trans ?_; rw [← ear39]; rfl)
        refine own_if_eq X hx hby at_190 197 193 (by decide) rfl (fun q => absurd q c190) (fun _ => ?_)
        refine own_iconst X hx hby (1 : Int32) at_193 rfl 194 rfl ?_
        refine own_goto X hx hby at_194 198 (by decide) ?_
        refine own_retN X hx hby hret hlk (t := .boolean) (z' := (1 : Int32)) (by simp) at_198 (by decide) (by decide) rfl ?_
        rw [eT]
        exact ⟨rfl, N⟩
  · skip
    refine own_aload X hx hby (.ref b0) at_13 rfl rfl 15 rfl ?_
    refine own_iloadN X hx hby p2 at_15 rfl 16 rfl ?_
    refine own_callV X hx hby hZ (st := []) [(.int p2)] rfl hown (hw _ (List.mem_of_getElem? (i := 12) rfl)) (hw _ (List.mem_of_getElem? (i := 13) rfl)) (hw _ (List.mem_of_getElem? (i := 15) rfl)) (hw _ (List.mem_of_getElem? (i := 14) rfl)) (hw _ (List.mem_of_getElem? (i := 2) rfl)) (hw _ (List.mem_of_getElem? (i := 16) rfl)) E_b0 (by decide) at_16 (rm3_0g l Z a0 hw b0 p2 b8b6 ar8 nn h8 n0 Zs k1 (Nat.lt_trans k3 (by decide)) A_b8b6 E_b8b6 g_b8b6 E_b0 F_bytes_b0 F_length_b0 g_b0) eT pd_4 rfl (by rw [hml]; rfl) (by decide) 0 rfl (by decide) (by decide) (by decide) 19 rfl ?_
    intro T16 L9 v9 X hQ
    obtain ⟨h16, eT⟩ : ∃ z, T16.heap = z := ⟨_, rfl⟩
    rw [eT] at hQ
    have lt_b0 := E_b0.lt
    have lt_b8b6 := A_b8b6.lt
    obtain ⟨b16b2b35b15, rfl, N9, Kc, hs_b16b2b35b15, E_b0, F_bytes_b0, F_length_b0, A_b16b2b35b15, E_b16b2b35b15⟩ := hQ
    have g_b16b2b35b15 : n0 ≤ b16b2b35b15 := Nat.le_trans Zs hs_b16b2b35b15
    have sz_b16b2b35b15 : h0.size ≤ b16b2b35b15 := Nat.le_trans K.1 hs_b16b2b35b15
    have ne_b0_b16b2b35b15 : b0 ≠ b16b2b35b15 := Nat.ne_of_lt (Nat.lt_of_lt_of_le lt_b0 hs_b16b2b35b15)
    have ne_b8b6_b16b2b35b15 : b8b6 ≠ b16b2b35b15 := Nat.ne_of_lt (Nat.lt_of_lt_of_le lt_b8b6 hs_b16b2b35b15)
    have A_b8b6 := A_b8b6.keep Kc (ninS (Ne.symm ne_b0_b8b6) nin0)
    have E_b8b6 := E_b8b6.keep Kc
    obtain ⟨ar16, ear16⟩ : ∃ z : Nat → Int32, (updI (updI (updI (updI (own_cp ar8 (Int32.toNatClampNeg (f7 (Int32.ofNat nn) (f5 ((2 : Int32) * (Int32.ofNat nn)) (4 : Int32))))) 0 (nar .byte (((p2.toUInt32 >>> ((24 : Int32) &&& 31).toUInt32).toInt32).toInt8.toInt32))) 1 (nar .byte (((p2.toUInt32 >>> ((16 : Int32) &&& 31).toUInt32).toInt32).toInt8.toInt32))) 2 (nar .byte (((p2.toUInt32 >>> ((8 : Int32) &&& 31).toUInt32).toInt32).toInt8.toInt32))) 3 (nar .byte (((p2.toUInt32 >>> ((0 : Int32) &&& 31).toUInt32).toInt32).toInt8.toInt32))) = z := ⟨_, rfl⟩
    rw [ear16] at A_b16b2b35b15
    have K := K.trans Kc (allS (Or.inr sz_b0) all0)
    have Zs := Nat.le_trans Zs Kc.1
    have N := Fr.app N N9
    show Go p e below _ T16 (mkF m 19 #[.val (.int p1), .val (.int p2), .val (.int p3), .val (.int p4), .val (.int p5), .val (.ref b0), .unset, .unset] [])
    obtain ⟨n2, en2⟩ : ∃ z : Nat, (Int32.toNatClampNeg (f5 ((2 : Int32) * (Int32.ofNat nn)) (4 : Int32))) = z := ⟨_, rfl⟩
    rw [en2] at A_b16b2b35b15
    have h2 : 4 ≤ n2 ∧ n2 < 8 := by rw [← en2]; exact ⟨(own_g3 4 (Nat.lt_trans k3 (by decide)) (by decide)).1, (own_g3 4 (Nat.lt_trans k3 (by decide)) (by decide)).2.2 k3 (by decide)⟩
    refine own_aload X hx hby (.ref b0) at_19 rfl rfl 21 rfl ?_
    refine own_iloadN X hx hby p3 at_21 rfl 22 rfl ?_
    refine own_callV X hx hby hZ (st := []) [(.int p3)] rfl hown (hw _ (List.mem_of_getElem? (i := 12) rfl)) (hw _ (List.mem_of_getElem? (i := 13) rfl)) (hw _ (List.mem_of_getElem? (i := 15) rfl)) (hw _ (List.mem_of_getElem? (i := 14) rfl)) (hw _ (List.mem_of_getElem? (i := 2) rfl)) (hw _ (List.mem_of_getElem? (i := 16) rfl)) E_b0 (by decide) at_22 (rm3_4g l Z a0 hw b0 p3 b16b2b35b15 ar16 n2 h16 n0 Zs ((own_lt (Nat.lt_trans h2.2 (by decide)) (by decide)).mpr h2.2) h2.2 A_b16b2b35b15 E_b16b2b35b15 g_b16b2b35b15 E_b0 F_bytes_b0 F_length_b0 g_b0) eT pd_4 rfl (by rw [hml]; rfl) (by decide) 0 rfl (by decide) (by decide) (by decide) 25 rfl ?_
    intro T22 L9 v9 X hQ
    obtain ⟨h22, eT⟩ : ∃ z, T22.heap = z := ⟨_, rfl⟩
    rw [eT] at hQ
    have lt_b0 := E_b0.lt
    have lt_b16b2b35b15 := A_b16b2b35b15.lt
    have lt_b8b6 := A_b8b6.lt
    obtain ⟨b22b2b35b15, rfl, N9, Kc, hs_b22b2b35b15, E_b0, F_bytes_b0, F_length_b0, A_b22b2b35b15, E_b22b2b35b15⟩ := hQ
    have g_b22b2b35b15 : n0 ≤ b22b2b35b15 := Nat.le_trans Zs hs_b22b2b35b15
    have sz_b22b2b35b15 : h0.size ≤ b22b2b35b15 := Nat.le_trans K.1 hs_b22b2b35b15
    have ne_b0_b22b2b35b15 : b0 ≠ b22b2b35b15 := Nat.ne_of_lt (Nat.lt_of_lt_of_le lt_b0 hs_b22b2b35b15)
    have ne_b16b2b35b15_b22b2b35b15 : b16b2b35b15 ≠ b22b2b35b15 := Nat.ne_of_lt (Nat.lt_of_lt_of_le lt_b16b2b35b15 hs_b22b2b35b15)
    have ne_b8b6_b22b2b35b15 : b8b6 ≠ b22b2b35b15 := Nat.ne_of_lt (Nat.lt_of_lt_of_le lt_b8b6 hs_b22b2b35b15)
    have A_b8b6 := A_b8b6.keep Kc (ninS (Ne.symm ne_b0_b8b6) nin0)
    have E_b8b6 := E_b8b6.keep Kc
    have A_b16b2b35b15 := A_b16b2b35b15.keep Kc (ninS (Ne.symm ne_b0_b16b2b35b15) nin0)
    have E_b16b2b35b15 := E_b16b2b35b15.keep Kc
    obtain ⟨ar22, ear22⟩ : ∃ z : Nat → Int32, (updI (updI (updI (updI (own_cp ar16 (Int32.toNatClampNeg (f7 (Int32.ofNat n2) (f5 ((2 : Int32) * (Int32.ofNat n2)) (8 : Int32))))) 4 (nar .byte (((p3.toUInt32 >>> ((24 : Int32) &&& 31).toUInt32).toInt32).toInt8.toInt32))) 5 (nar .byte (((p3.toUInt32 >>> ((16 : Int32) &&& 31).toUInt32).toInt32).toInt8.toInt32))) 6 (nar .byte (((p3.toUInt32 >>> ((8 : Int32) &&& 31).toUInt32).toInt32).toInt8.toInt32))) 7 (nar .byte (((p3.toUInt32 >>> ((0 : Int32) &&& 31).toUInt32).toInt32).toInt8.toInt32))) = z := ⟨_, rfl⟩
    rw [ear22] at A_b22b2b35b15
    have K := K.trans Kc (allS (Or.inr sz_b0) all0)
    have Zs := Nat.le_trans Zs Kc.1
    have N := Fr.app N N9
    show Go p e below _ T22 (mkF m 25 #[.val (.int p1), .val (.int p2), .val (.int p3), .val (.int p4), .val (.int p5), .val (.ref b0), .unset, .unset] [])
    obtain ⟨n3, en3⟩ : ∃ z : Nat, (Int32.toNatClampNeg (f5 ((2 : Int32) * (Int32.ofNat n2)) (8 : Int32))) = z := ⟨_, rfl⟩
    rw [en3] at A_b22b2b35b15
    have h3 : 8 ≤ n3 ∧ n3 < 16 := by rw [← en3]; exact ⟨(own_g3 8 h2.2 (by decide)).1, (own_g3 8 h2.2 (by decide)).2.1⟩
    have w0 : ar22 0 = nar .byte (((p2.toUInt32 >>> ((24 : Int32) &&& 31).toUInt32).toInt32).toInt8.toInt32) := by
      rw [← ear22]
      show own_cp ar16 _ 0 = _
      refine (own_cpi (own_ck (Nat.lt_trans h2.2 (by decide)) (own_g2 8 h2.2 (by decide)) (Nat.lt_of_lt_of_le (by decide) h2.1) (Nat.lt_of_lt_of_le (by decide) (own_g3 8 h2.2 (by decide)).1))).trans ?_
      rw [← ear16]; rfl
    have w1 : ar22 1 = nar .byte (((p2.toUInt32 >>> ((16 : Int32) &&& 31).toUInt32).toInt32).toInt8.toInt32) := by
      rw [← ear22]
      show own_cp ar16 _ 1 = _
      refine (own_cpi (own_ck (Nat.lt_trans h2.2 (by decide)) (own_g2 8 h2.2 (by decide)) (Nat.lt_of_lt_of_le (by decide) h2.1) (Nat.lt_of_lt_of_le (by decide) (own_g3 8 h2.2 (by decide)).1))).trans ?_
      rw [← ear16]; rfl
    have w2 : ar22 2 = nar .byte (((p2.toUInt32 >>> ((8 : Int32) &&& 31).toUInt32).toInt32).toInt8.toInt32) := by
      rw [← ear22]
      show own_cp ar16 _ 2 = _
      refine (own_cpi (own_ck (Nat.lt_trans h2.2 (by decide)) (own_g2 8 h2.2 (by decide)) (Nat.lt_of_lt_of_le (by decide) h2.1) (Nat.lt_of_lt_of_le (by decide) (own_g3 8 h2.2 (by decide)).1))).trans ?_
      rw [← ear16]; rfl
    have w3 : ar22 3 = nar .byte (((p2.toUInt32 >>> ((0 : Int32) &&& 31).toUInt32).toInt32).toInt8.toInt32) := by
      rw [← ear22]
      show own_cp ar16 _ 3 = _
      refine (own_cpi (own_ck (Nat.lt_trans h2.2 (by decide)) (own_g2 8 h2.2 (by decide)) (Nat.lt_of_lt_of_le (by decide) h2.1) (Nat.lt_of_lt_of_le (by decide) (own_g3 8 h2.2 (by decide)).1))).trans ?_
      rw [← ear16]; rfl
    have w4 : ar22 4 = nar .byte (((p3.toUInt32 >>> ((24 : Int32) &&& 31).toUInt32).toInt32).toInt8.toInt32) := by
      rw [← ear22]; rfl
    have w5 : ar22 5 = nar .byte (((p3.toUInt32 >>> ((16 : Int32) &&& 31).toUInt32).toInt32).toInt8.toInt32) := by
      rw [← ear22]; rfl
    have w6 : ar22 6 = nar .byte (((p3.toUInt32 >>> ((8 : Int32) &&& 31).toUInt32).toInt32).toInt8.toInt32) := by
      rw [← ear22]; rfl
    have w7 : ar22 7 = nar .byte (((p3.toUInt32 >>> ((0 : Int32) &&& 31).toUInt32).toInt32).toInt8.toInt32) := by
      rw [← ear22]; rfl
    refine own_iloadN X hx hby p4 at_25 rfl 26 rfl ?_
    refine own_ldc X hx hby hZ (2147483647 : Int32) hown (hw _ (List.mem_of_getElem? (i := 38) rfl)) at_26 28 rfl ?_
    refine own_iand X hx hby at_28 29 rfl ?_
    refine own_iconst X hx hby (5 : Int32) at_29 rfl 30 rfl ?_
    refine own_irem X hx hby at_30 (by decide) 31 rfl ?_
    obtain ⟨v31, e31⟩ : ∃ z : Int32, ((p4 &&& (2147483647 : Int32)) % (5 : Int32)) = z := ⟨_, rfl⟩
    refine own_istore X hx hby at_31 e31 (l' := #[.val (.int p1), .val (.int p2), .val (.int p3), .val (.int p4), .val (.int p5), .val (.ref b0), .val (.int v31), .unset]) rfl 33 rfl ?_
    rcases (own_five _ _ e31 : v31 = (0 : Int32) ∨ v31 = (1 : Int32) ∨ v31 = (2 : Int32) ∨ v31 = (3 : Int32) ∨ v31 = (4 : Int32)) with rfl | rfl | rfl | rfl | rfl
    · skip
      refine own_aload X hx hby (.ref b0) at_33 rfl rfl 35 rfl ?_
      refine own_iload X hx hby (0 : Int32) at_35 rfl 37 rfl ?_
      refine own_iload X hx hby p5 at_37 rfl 39 rfl ?_
      refine own_callV X hx hby hZ (st := []) [(.int (0 : Int32)), (.int p5)] rfl hown (hw _ (List.mem_of_getElem? (i := 39) rfl)) (hw _ (List.mem_of_getElem? (i := 40) rfl)) (hw _ (List.mem_of_getElem? (i := 42) rfl)) (hw _ (List.mem_of_getElem? (i := 41) rfl)) (hw _ (List.mem_of_getElem? (i := 2) rfl)) (hw _ (List.mem_of_getElem? (i := 43) rfl)) E_b0 (by decide) at_39 (rm8_0 l Z a0 hw b0 p5 b22b2b35b15 ar22 n3 (8 : Int32) h22 n0 Zs h3.1 A_b22b2b35b15 E_b22b2b35b15 g_b22b2b35b15 E_b0 F_bytes_b0 F_length_b0 g_b0) eT pd_6 rfl (by rw [hml]; rfl) (by decide) 0 rfl (by decide) (by decide) (by decide) 42 rfl ?_
      intro T39 L9 v9 X hQ
      obtain ⟨h39, eT⟩ : ∃ z, T39.heap = z := ⟨_, rfl⟩
      rw [eT] at hQ
      obtain ⟨rfl, N9, Kc, A_b22b2b35b15, E_b22b2b35b15⟩ := hQ
      have E_b0 := E_b0.keep Kc
      have F_bytes_b0 := F_bytes_b0.keep Kc (ninS ne_b0_b22b2b35b15 nin0)
      have F_length_b0 := F_length_b0.keep Kc (ninS ne_b0_b22b2b35b15 nin0)
      have A_b8b6 := A_b8b6.keep Kc (ninS ne_b8b6_b22b2b35b15 nin0)
      have E_b8b6 := E_b8b6.keep Kc
      have A_b16b2b35b15 := A_b16b2b35b15.keep Kc (ninS ne_b16b2b35b15_b22b2b35b15 nin0)
      have E_b16b2b35b15 := E_b16b2b35b15.keep Kc
      obtain ⟨ar39, ear39⟩ : ∃ z : Nat → Int32, (updI (updI (updI (updI ar22 0 (nar .byte (((p5.toUInt32 >>> ((24 : Int32) &&& 31).toUInt32).toInt32).toInt8.toInt32))) 1 (nar .byte (((p5.toUInt32 >>> ((16 : Int32) &&& 31).toUInt32).toInt32).toInt8.toInt32))) 2 (nar .byte (((p5.toUInt32 >>> ((8 : Int32) &&& 31).toUInt32).toInt32).toInt8.toInt32))) 3 (nar .byte (((p5.toUInt32 >>> ((0 : Int32) &&& 31).toUInt32).toInt32).toInt8.toInt32))) = z := ⟨_, rfl⟩
      rw [ear39] at A_b22b2b35b15
      have K := K.trans Kc (allS (Or.inr sz_b22b2b35b15) all0)
      have Zs := Nat.le_trans Zs Kc.1
      have N := Fr.app N N9
      show Go p e below _ T39 (mkF m 42 #[.val (.int p1), .val (.int p2), .val (.int p3), .val (.int p4), .val (.int p5), .val (.ref b0), .val (.int (0 : Int32)), .unset] [])
      refine own_aload X hx hby (.ref b0) at_42 rfl rfl 44 rfl ?_
      refine own_callV X hx hby hZ (st := []) [] rfl hown (hw _ (List.mem_of_getElem? (i := 44) rfl)) (hw _ (List.mem_of_getElem? (i := 45) rfl)) (hw _ (List.mem_of_getElem? (i := 47) rfl)) (hw _ (List.mem_of_getElem? (i := 46) rfl)) (hw _ (List.mem_of_getElem? (i := 2) rfl)) (hw _ (List.mem_of_getElem? (i := 48) rfl)) E_b0 (by decide) at_44 (rm9 l Z a0 hw b0 h39 n0 Zs F_length_b0) eT pd_0 rfl (by rw [hml]; rfl) (by decide) 0 rfl (by decide) (by decide) (by decide) 47 rfl ?_
      intro T44 L9 v9 X hQ
      obtain ⟨rfl, N9, eT⟩ := hQ
      have N := Fr.app N N9
      show Go p e below _ T44 (mkF m 47 #[.val (.int p1), .val (.int p2), .val (.int p3), .val (.int p4), .val (.int p5), .val (.ref b0), .val (.int (0 : Int32)), .unset] [(.int (8 : Int32))])
      refine own_bipush X hx hby (8 : Int32) at_47 rfl 49 rfl ?_
      have c49 : (8 : Int32) = (8 : Int32) := by decide
      refine own_icmp_eq X hx hby at_49 54 52 (by decide) rfl (fun _ => ?_) (fun q => absurd c49 q)
      refine own_aload X hx hby (.ref b0) at_54 rfl rfl 56 rfl ?_
      by_cases q8 : n3 = 8
      · skip
        subst q8
        refine own_callV X hx hby hZ (st := []) [] rfl hown (hw _ (List.mem_of_getElem? (i := 49) rfl)) (hw _ (List.mem_of_getElem? (i := 50) rfl)) (hw _ (List.mem_of_getElem? (i := 52) rfl)) (hw _ (List.mem_of_getElem? (i := 51) rfl)) (hw _ (List.mem_of_getElem? (i := 2) rfl)) (hw _ (List.mem_of_getElem? (i := 53) rfl)) E_b0 (by decide) at_56 (rm10_c l Z a0 hw b0 b22b2b35b15 ar39 h39 n0 Zs A_b22b2b35b15 E_b22b2b35b15 F_bytes_b0 F_length_b0) eT pd_3 rfl (by rw [hml]; rfl) (by decide) 0 rfl (by decide) (by decide) (by decide) 59 rfl ?_
        intro T56 L9 v9 X hQ
        obtain ⟨h56, eT⟩ : ∃ z, T56.heap = z := ⟨_, rfl⟩
        rw [eT] at hQ
        have lt_b0 := E_b0.lt
        have lt_b16b2b35b15 := A_b16b2b35b15.lt
        have lt_b22b2b35b15 := A_b22b2b35b15.lt
        have lt_b8b6 := A_b8b6.lt
        obtain ⟨b56b8b7, rfl, N9, Kc, hs_b56b8b7, A_b56b8b7, E_b56b8b7⟩ := hQ
        have g_b56b8b7 : n0 ≤ b56b8b7 := Nat.le_trans Zs hs_b56b8b7
        have sz_b56b8b7 : h0.size ≤ b56b8b7 := Nat.le_trans K.1 hs_b56b8b7
        have ne_b0_b56b8b7 : b0 ≠ b56b8b7 := Nat.ne_of_lt (Nat.lt_of_lt_of_le lt_b0 hs_b56b8b7)
        have ne_b16b2b35b15_b56b8b7 : b16b2b35b15 ≠ b56b8b7 := Nat.ne_of_lt (Nat.lt_of_lt_of_le lt_b16b2b35b15 hs_b56b8b7)
        have ne_b22b2b35b15_b56b8b7 : b22b2b35b15 ≠ b56b8b7 := Nat.ne_of_lt (Nat.lt_of_lt_of_le lt_b22b2b35b15 hs_b56b8b7)
        have ne_b8b6_b56b8b7 : b8b6 ≠ b56b8b7 := Nat.ne_of_lt (Nat.lt_of_lt_of_le lt_b8b6 hs_b56b8b7)
        have E_b0 := E_b0.keep Kc
        have F_bytes_b0 := F_bytes_b0.keep Kc nin0
        have F_length_b0 := F_length_b0.keep Kc nin0
        have A_b8b6 := A_b8b6.keep Kc nin0
        have E_b8b6 := E_b8b6.keep Kc
        have A_b16b2b35b15 := A_b16b2b35b15.keep Kc nin0
        have E_b16b2b35b15 := E_b16b2b35b15.keep Kc
        have A_b22b2b35b15 := A_b22b2b35b15.keep Kc nin0
        have E_b22b2b35b15 := E_b22b2b35b15.keep Kc
        have K := K.trans Kc all0
        have Zs := Nat.le_trans Zs Kc.1
        have N := Fr.app N N9
        show Go p e below _ T56 (mkF m 59 #[.val (.int p1), .val (.int p2), .val (.int p3), .val (.int p4), .val (.int p5), .val (.ref b0), .val (.int (0 : Int32)), .unset] [(.ref b56b8b7)])
        refine own_astore X hx hby at_59 rfl (l' := #[.val (.int p1), .val (.int p2), .val (.int p3), .val (.int p4), .val (.int p5), .val (.ref b0), .val (.int (0 : Int32)), .val (.ref b56b8b7)]) rfl 61 rfl ?_
        refine own_aload X hx hby (.ref b56b8b7) at_61 rfl rfl 63 rfl ?_
        refine own_arraylength X hx hby hZ (8 : Int32) eT A_b56b8b7 rfl at_63 64 rfl ?_
        refine own_bipush X hx hby (8 : Int32) at_64 rfl 66 rfl ?_
        have c66 : (8 : Int32) = (8 : Int32) := by decide
        refine own_icmp_eq X hx hby at_66 71 69 (by decide) rfl (fun _ => ?_) (fun q => absurd c66 q)
        refine own_aload X hx hby (.ref b56b8b7) at_71 rfl rfl 73 rfl ?_
        refine own_iconst X hx hby (0 : Int32) at_73 rfl 74 rfl ?_
        refine own_iload X hx hby (0 : Int32) at_74 rfl 76 rfl ?_
        refine own_iloadN X hx hby p2 at_76 rfl 77 rfl ?_
        refine own_iloadN X hx hby p3 at_77 rfl 78 rfl ?_
        refine own_iload X hx hby p5 at_78 rfl 80 rfl ?_
        refine own_callS X hx hby hZ (st := []) [(.ref b56b8b7), (.int (0 : Int32)), (.int (0 : Int32)), (.int p2), (.int p3), (.int p5)] rfl hown (hw _ (List.mem_of_getElem? (i := 63) rfl)) (hw _ (List.mem_of_getElem? (i := 64) rfl)) (hw _ (List.mem_of_getElem? (i := 65) rfl)) (hw _ (List.mem_of_getElem? (i := 66) rfl)) (by decide) at_80 (rm11 l Z a0 hw b56b8b7 (0 : Int32) (0 : Int32) p2 p3 p5 ar39 h56 n0 Zs (by decide) A_b56b8b7 E_b56b8b7) eT pd_9 rfl (by rw [hml]; rfl) (by decide) 0 rfl (by decide) (by decide) (by decide) 83 rfl ?_
        intro T80 L9 v9 X hQ
        obtain ⟨rfl, N9, eT⟩ := hQ
        have N := Fr.app N N9
        show Go p e below _ T80 (mkF m 83 #[.val (.int p1), .val (.int p2), .val (.int p3), .val (.int p4), .val (.int p5), .val (.ref b0), .val (.int (0 : Int32)), .val (.ref b56b8b7)] [(.int (f11 (0 : Int32) (0 : Int32) p2 p3 p5 ar39))])
        have c83 : ¬ (f11 (0 : Int32) (0 : Int32) p2 p3 p5 ar39) = (0 : Int32) := own_okv _ _ _ _ _ (24 : Int32) _ (by decide) (by decide) (by decide) (by rw [← ear39]; rfl)
        refine own_if_eq X hx hby at_83 197 86 (by decide) rfl (fun q => absurd q c83) (fun _ => ?_)
        refine own_aload X hx hby (.ref b56b8b7) at_86 rfl rfl 88 rfl ?_
        refine own_iconst X hx hby (1 : Int32) at_88 rfl 89 rfl ?_
        refine own_iload X hx hby (0 : Int32) at_89 rfl 91 rfl ?_
        refine own_iloadN X hx hby p2 at_91 rfl 92 rfl ?_
        refine own_iloadN X hx hby p3 at_92 rfl 93 rfl ?_
        refine own_iload X hx hby p5 at_93 rfl 95 rfl ?_
        refine own_callS X hx hby hZ (st := []) [(.ref b56b8b7), (.int (1 : Int32)), (.int (0 : Int32)), (.int p2), (.int p3), (.int p5)] rfl hown (hw _ (List.mem_of_getElem? (i := 63) rfl)) (hw _ (List.mem_of_getElem? (i := 64) rfl)) (hw _ (List.mem_of_getElem? (i := 65) rfl)) (hw _ (List.mem_of_getElem? (i := 66) rfl)) (by decide) at_95 (rm11 l Z a0 hw b56b8b7 (1 : Int32) (0 : Int32) p2 p3 p5 ar39 h56 n0 Zs (by decide) A_b56b8b7 E_b56b8b7) eT pd_9 rfl (by rw [hml]; rfl) (by decide) 0 rfl (by decide) (by decide) (by decide) 98 rfl ?_
        intro T95 L9 v9 X hQ
        obtain ⟨rfl, N9, eT⟩ := hQ
        have N := Fr.app N N9
        show Go p e below _ T95 (mkF m 98 #[.val (.int p1), .val (.int p2), .val (.int p3), .val (.int p4), .val (.int p5), .val (.ref b0), .val (.int (0 : Int32)), .val (.ref b56b8b7)] [(.int (f11 (1 : Int32) (0 : Int32) p2 p3 p5 ar39))])
        have c98 : ¬ (f11 (1 : Int32) (0 : Int32) p2 p3 p5 ar39) = (0 : Int32) := own_okv _ _ _ _ _ (16 : Int32) _ (by decide) (by decide) (by decide) (by rw [← ear39]; rfl)
        refine own_if_eq X hx hby at_98 197 101 (by decide) rfl (fun q => absurd q c98) (fun _ => ?_)
        refine own_aload X hx hby (.ref b56b8b7) at_101 rfl rfl 103 rfl ?_
        refine own_iconst X hx hby (2 : Int32) at_103 rfl 104 rfl ?_
        refine own_iload X hx hby (0 : Int32) at_104 rfl 106 rfl ?_
        refine own_iloadN X hx hby p2 at_106 rfl 107 rfl ?_
        refine own_iloadN X hx hby p3 at_107 rfl 108 rfl ?_
        refine own_iload X hx hby p5 at_108 rfl 110 rfl ?_
        refine own_callS X hx hby hZ (st := []) [(.ref b56b8b7), (.int (2 : Int32)), (.int (0 : Int32)), (.int p2), (.int p3), (.int p5)] rfl hown (hw _ (List.mem_of_getElem? (i := 63) rfl)) (hw _ (List.mem_of_getElem? (i := 64) rfl)) (hw _ (List.mem_of_getElem? (i := 65) rfl)) (hw _ (List.mem_of_getElem? (i := 66) rfl)) (by decide) at_110 (rm11 l Z a0 hw b56b8b7 (2 : Int32) (0 : Int32) p2 p3 p5 ar39 h56 n0 Zs (by decide) A_b56b8b7 E_b56b8b7) eT pd_9 rfl (by rw [hml]; rfl) (by decide) 0 rfl (by decide) (by decide) (by decide) 113 rfl ?_
        intro T110 L9 v9 X hQ
        obtain ⟨rfl, N9, eT⟩ := hQ
        have N := Fr.app N N9
        show Go p e below _ T110 (mkF m 113 #[.val (.int p1), .val (.int p2), .val (.int p3), .val (.int p4), .val (.int p5), .val (.ref b0), .val (.int (0 : Int32)), .val (.ref b56b8b7)] [(.int (f11 (2 : Int32) (0 : Int32) p2 p3 p5 ar39))])
        have c113 : ¬ (f11 (2 : Int32) (0 : Int32) p2 p3 p5 ar39) = (0 : Int32) := own_okv _ _ _ _ _ (8 : Int32) _ (by decide) (by decide) (by decide) (by rw [← ear39]; rfl)
        refine own_if_eq X hx hby at_113 197 116 (by decide) rfl (fun q => absurd q c113) (fun _ => ?_)
        refine own_aload X hx hby (.ref b56b8b7) at_116 rfl rfl 118 rfl ?_
        refine own_iconst X hx hby (3 : Int32) at_118 rfl 119 rfl ?_
        refine own_iload X hx hby (0 : Int32) at_119 rfl 121 rfl ?_
        refine own_iloadN X hx hby p2 at_121 rfl 122 rfl ?_
        refine own_iloadN X hx hby p3 at_122 rfl 123 rfl ?_
        refine own_iload X hx hby p5 at_123 rfl 125 rfl ?_
        refine own_callS X hx hby hZ (st := []) [(.ref b56b8b7), (.int (3 : Int32)), (.int (0 : Int32)), (.int p2), (.int p3), (.int p5)] rfl hown (hw _ (List.mem_of_getElem? (i := 63) rfl)) (hw _ (List.mem_of_getElem? (i := 64) rfl)) (hw _ (List.mem_of_getElem? (i := 65) rfl)) (hw _ (List.mem_of_getElem? (i := 66) rfl)) (by decide) at_125 (rm11 l Z a0 hw b56b8b7 (3 : Int32) (0 : Int32) p2 p3 p5 ar39 h56 n0 Zs (by decide) A_b56b8b7 E_b56b8b7) eT pd_9 rfl (by rw [hml]; rfl) (by decide) 0 rfl (by decide) (by decide) (by decide) 128 rfl ?_
        intro T125 L9 v9 X hQ
        obtain ⟨rfl, N9, eT⟩ := hQ
        have N := Fr.app N N9
        show Go p e below _ T125 (mkF m 128 #[.val (.int p1), .val (.int p2), .val (.int p3), .val (.int p4), .val (.int p5), .val (.ref b0), .val (.int (0 : Int32)), .val (.ref b56b8b7)] [(.int (f11 (3 : Int32) (0 : Int32) p2 p3 p5 ar39))])
        have c128 : ¬ (f11 (3 : Int32) (0 : Int32) p2 p3 p5 ar39) = (0 : Int32) := own_okv _ _ _ _ _ (0 : Int32) _ (by decide) (by decide) (by decide) (by rw [← ear39]; rfl)
        refine own_if_eq X hx hby at_128 197 131 (by decide) rfl (fun q => absurd q c128) (fun _ => ?_)
        refine own_aload X hx hby (.ref b56b8b7) at_131 rfl rfl 133 rfl ?_
        refine own_iconst X hx hby (4 : Int32) at_133 rfl 134 rfl ?_
        refine own_iload X hx hby (0 : Int32) at_134 rfl 136 rfl ?_
        refine own_iloadN X hx hby p2 at_136 rfl 137 rfl ?_
        refine own_iloadN X hx hby p3 at_137 rfl 138 rfl ?_
        refine own_iload X hx hby p5 at_138 rfl 140 rfl ?_
        refine own_callS X hx hby hZ (st := []) [(.ref b56b8b7), (.int (4 : Int32)), (.int (0 : Int32)), (.int p2), (.int p3), (.int p5)] rfl hown (hw _ (List.mem_of_getElem? (i := 63) rfl)) (hw _ (List.mem_of_getElem? (i := 64) rfl)) (hw _ (List.mem_of_getElem? (i := 65) rfl)) (hw _ (List.mem_of_getElem? (i := 66) rfl)) (by decide) at_140 (rm11 l Z a0 hw b56b8b7 (4 : Int32) (0 : Int32) p2 p3 p5 ar39 h56 n0 Zs (by decide) A_b56b8b7 E_b56b8b7) eT pd_9 rfl (by rw [hml]; rfl) (by decide) 0 rfl (by decide) (by decide) (by decide) 143 rfl ?_
        intro T140 L9 v9 X hQ
        obtain ⟨rfl, N9, eT⟩ := hQ
        have N := Fr.app N N9
        show Go p e below _ T140 (mkF m 143 #[.val (.int p1), .val (.int p2), .val (.int p3), .val (.int p4), .val (.int p5), .val (.ref b0), .val (.int (0 : Int32)), .val (.ref b56b8b7)] [(.int (f11 (4 : Int32) (0 : Int32) p2 p3 p5 ar39))])
        have c143 : ¬ (f11 (4 : Int32) (0 : Int32) p2 p3 p5 ar39) = (0 : Int32) := own_okb _ _ _ _ _ (24 : Int32) _ (by decide) (by decide) (by decide) (by rw [← ear39]; exact w4)
        refine own_if_eq X hx hby at_143 197 146 (by decide) rfl (fun q => absurd q c143) (fun _ => ?_)
        refine own_aload X hx hby (.ref b56b8b7) at_146 rfl rfl 148 rfl ?_
        refine own_iconst X hx hby (5 : Int32) at_148 rfl 149 rfl ?_
        refine own_iload X hx hby (0 : Int32) at_149 rfl 151 rfl ?_
        refine own_iloadN X hx hby p2 at_151 rfl 152 rfl ?_
        refine own_iloadN X hx hby p3 at_152 rfl 153 rfl ?_
        refine own_iload X hx hby p5 at_153 rfl 155 rfl ?_
        refine own_callS X hx hby hZ (st := []) [(.ref b56b8b7), (.int (5 : Int32)), (.int (0 : Int32)), (.int p2), (.int p3), (.int p5)] rfl hown (hw _ (List.mem_of_getElem? (i := 63) rfl)) (hw _ (List.mem_of_getElem? (i := 64) rfl)) (hw _ (List.mem_of_getElem? (i := 65) rfl)) (hw _ (List.mem_of_getElem? (i := 66) rfl)) (by decide) at_155 (rm11 l Z a0 hw b56b8b7 (5 : Int32) (0 : Int32) p2 p3 p5 ar39 h56 n0 Zs (by decide) A_b56b8b7 E_b56b8b7) eT pd_9 rfl (by rw [hml]; rfl) (by decide) 0 rfl (by decide) (by decide) (by decide) 158 rfl ?_
        intro T155 L9 v9 X hQ
        obtain ⟨rfl, N9, eT⟩ := hQ
        have N := Fr.app N N9
        show Go p e below _ T155 (mkF m 158 #[.val (.int p1), .val (.int p2), .val (.int p3), .val (.int p4), .val (.int p5), .val (.ref b0), .val (.int (0 : Int32)), .val (.ref b56b8b7)] [(.int (f11 (5 : Int32) (0 : Int32) p2 p3 p5 ar39))])
        have c158 : ¬ (f11 (5 : Int32) (0 : Int32) p2 p3 p5 ar39) = (0 : Int32) := own_okb _ _ _ _ _ (16 : Int32) _ (by decide) (by decide) (by decide) (by rw [← ear39]; exact w5)
        refine own_if_eq X hx hby at_158 197 161 (by decide) rfl (fun q => absurd q c158) (fun _ => ?_)
        refine own_aload X hx hby (.ref b56b8b7) at_161 rfl rfl 163 rfl ?_
        refine own_bipush X hx hby (6 : Int32) at_163 rfl 165 rfl ?_
        refine own_iload X hx hby (0 : Int32) at_165 rfl 167 rfl ?_
        refine own_iloadN X hx hby p2 at_167 rfl 168 rfl ?_
        refine own_iloadN X hx hby p3 at_168 rfl 169 rfl ?_
        refine own_iload X hx hby p5 at_169 rfl 171 rfl ?_
        refine own_callS X hx hby hZ (st := []) [(.ref b56b8b7), (.int (6 : Int32)), (.int (0 : Int32)), (.int p2), (.int p3), (.int p5)] rfl hown (hw _ (List.mem_of_getElem? (i := 63) rfl)) (hw _ (List.mem_of_getElem? (i := 64) rfl)) (hw _ (List.mem_of_getElem? (i := 65) rfl)) (hw _ (List.mem_of_getElem? (i := 66) rfl)) (by decide) at_171 (rm11 l Z a0 hw b56b8b7 (6 : Int32) (0 : Int32) p2 p3 p5 ar39 h56 n0 Zs (by decide) A_b56b8b7 E_b56b8b7) eT pd_9 rfl (by rw [hml]; rfl) (by decide) 0 rfl (by decide) (by decide) (by decide) 174 rfl ?_
        intro T171 L9 v9 X hQ
        obtain ⟨rfl, N9, eT⟩ := hQ
        have N := Fr.app N N9
        show Go p e below _ T171 (mkF m 174 #[.val (.int p1), .val (.int p2), .val (.int p3), .val (.int p4), .val (.int p5), .val (.ref b0), .val (.int (0 : Int32)), .val (.ref b56b8b7)] [(.int (f11 (6 : Int32) (0 : Int32) p2 p3 p5 ar39))])
        have c174 : ¬ (f11 (6 : Int32) (0 : Int32) p2 p3 p5 ar39) = (0 : Int32) := own_okb _ _ _ _ _ (8 : Int32) _ (by decide) (by decide) (by decide) (by rw [← ear39]; exact w6)
        refine own_if_eq X hx hby at_174 197 177 (by decide) rfl (fun q => absurd q c174) (fun _ => ?_)
        refine own_aload X hx hby (.ref b56b8b7) at_177 rfl rfl 179 rfl ?_
        refine own_bipush X hx hby (7 : Int32) at_179 rfl 181 rfl ?_
        refine own_iload X hx hby (0 : Int32) at_181 rfl 183 rfl ?_
        refine own_iloadN X hx hby p2 at_183 rfl 184 rfl ?_
        refine own_iloadN X hx hby p3 at_184 rfl 185 rfl ?_
        refine own_iload X hx hby p5 at_185 rfl 187 rfl ?_
        refine own_callS X hx hby hZ (st := []) [(.ref b56b8b7), (.int (7 : Int32)), (.int (0 : Int32)), (.int p2), (.int p3), (.int p5)] rfl hown (hw _ (List.mem_of_getElem? (i := 63) rfl)) (hw _ (List.mem_of_getElem? (i := 64) rfl)) (hw _ (List.mem_of_getElem? (i := 65) rfl)) (hw _ (List.mem_of_getElem? (i := 66) rfl)) (by decide) at_187 (rm11 l Z a0 hw b56b8b7 (7 : Int32) (0 : Int32) p2 p3 p5 ar39 h56 n0 Zs (by decide) A_b56b8b7 E_b56b8b7) eT pd_9 rfl (by rw [hml]; rfl) (by decide) 0 rfl (by decide) (by decide) (by decide) 190 rfl ?_
        intro T187 L9 v9 X hQ
        obtain ⟨rfl, N9, eT⟩ := hQ
        have N := Fr.app N N9
        show Go p e below _ T187 (mkF m 190 #[.val (.int p1), .val (.int p2), .val (.int p3), .val (.int p4), .val (.int p5), .val (.ref b0), .val (.int (0 : Int32)), .val (.ref b56b8b7)] [(.int (f11 (7 : Int32) (0 : Int32) p2 p3 p5 ar39))])
        have c190 : ¬ (f11 (7 : Int32) (0 : Int32) p2 p3 p5 ar39) = (0 : Int32) := own_okb _ _ _ _ _ (0 : Int32) _ (by decide) (by decide) (by decide) (by rw [← ear39]; exact w7)
        refine own_if_eq X hx hby at_190 197 193 (by decide) rfl (fun q => absurd q c190) (fun _ => ?_)
        refine own_iconst X hx hby (1 : Int32) at_193 rfl 194 rfl ?_
        refine own_goto X hx hby at_194 198 (by decide) ?_
        refine own_retN X hx hby hret hlk (t := .boolean) (z' := (1 : Int32)) (by simp) at_198 (by decide) (by decide) rfl ?_
        rw [eT]
        exact ⟨rfl, N⟩
      · skip
        refine own_callV X hx hby hZ (st := []) [] rfl hown (hw _ (List.mem_of_getElem? (i := 49) rfl)) (hw _ (List.mem_of_getElem? (i := 50) rfl)) (hw _ (List.mem_of_getElem? (i := 52) rfl)) (hw _ (List.mem_of_getElem? (i := 51) rfl)) (hw _ (List.mem_of_getElem? (i := 2) rfl)) (hw _ (List.mem_of_getElem? (i := 53) rfl)) E_b0 (by decide) at_56 (rm10_n l Z a0 hw b0 b22b2b35b15 ar39 n3 h39 n0 Zs (own_n8 q8 h3.2) h3.2 A_b22b2b35b15 E_b22b2b35b15 F_bytes_b0 F_length_b0) eT pd_3 rfl (by rw [hml]; rfl) (by decide) 0 rfl (by decide) (by decide) (by decide) 59 rfl ?_
        intro T56 L9 v9 X hQ
        obtain ⟨h56, eT⟩ : ∃ z, T56.heap = z := ⟨_, rfl⟩
        rw [eT] at hQ
        have lt_b0 := E_b0.lt
        have lt_b16b2b35b15 := A_b16b2b35b15.lt
        have lt_b22b2b35b15 := A_b22b2b35b15.lt
        have lt_b8b6 := A_b8b6.lt
        obtain ⟨b56b8b15, rfl, N9, Kc, hs_b56b8b15, A_b56b8b15, E_b56b8b15⟩ := hQ
        have g_b56b8b15 : n0 ≤ b56b8b15 := Nat.le_trans Zs hs_b56b8b15
        have sz_b56b8b15 : h0.size ≤ b56b8b15 := Nat.le_trans K.1 hs_b56b8b15
        have ne_b0_b56b8b15 : b0 ≠ b56b8b15 := Nat.ne_of_lt (Nat.lt_of_lt_of_le lt_b0 hs_b56b8b15)
        have ne_b16b2b35b15_b56b8b15 : b16b2b35b15 ≠ b56b8b15 := Nat.ne_of_lt (Nat.lt_of_lt_of_le lt_b16b2b35b15 hs_b56b8b15)
        have ne_b22b2b35b15_b56b8b15 : b22b2b35b15 ≠ b56b8b15 := Nat.ne_of_lt (Nat.lt_of_lt_of_le lt_b22b2b35b15 hs_b56b8b15)
        have ne_b8b6_b56b8b15 : b8b6 ≠ b56b8b15 := Nat.ne_of_lt (Nat.lt_of_lt_of_le lt_b8b6 hs_b56b8b15)
        have E_b0 := E_b0.keep Kc
        have F_bytes_b0 := F_bytes_b0.keep Kc nin0
        have F_length_b0 := F_length_b0.keep Kc nin0
        have A_b8b6 := A_b8b6.keep Kc nin0
        have E_b8b6 := E_b8b6.keep Kc
        have A_b16b2b35b15 := A_b16b2b35b15.keep Kc nin0
        have E_b16b2b35b15 := E_b16b2b35b15.keep Kc
        have A_b22b2b35b15 := A_b22b2b35b15.keep Kc nin0
        have E_b22b2b35b15 := E_b22b2b35b15.keep Kc
        obtain ⟨ar56, ear56⟩ : ∃ z : Nat → Int32, (own_cp ar39 (Int32.toNatClampNeg (f7 (Int32.ofNat n3) (8 : Int32)))) = z := ⟨_, rfl⟩
        rw [ear56] at A_b56b8b15
        have K := K.trans Kc all0
        have Zs := Nat.le_trans Zs Kc.1
        have N := Fr.app N N9
        show Go p e below _ T56 (mkF m 59 #[.val (.int p1), .val (.int p2), .val (.int p3), .val (.int p4), .val (.int p5), .val (.ref b0), .val (.int (0 : Int32)), .unset] [(.ref b56b8b15)])
        refine own_astore X hx hby at_59 rfl (l' := #[.val (.int p1), .val (.int p2), .val (.int p3), .val (.int p4), .val (.int p5), .val (.ref b0), .val (.int (0 : Int32)), .val (.ref b56b8b15)]) rfl 61 rfl ?_
        refine own_aload X hx hby (.ref b56b8b15) at_61 rfl rfl 63 rfl ?_
        refine own_arraylength X hx hby hZ (8 : Int32) eT A_b56b8b15 rfl at_63 64 rfl ?_
        refine own_bipush X hx hby (8 : Int32) at_64 rfl 66 rfl ?_
        have c66 : (8 : Int32) = (8 : Int32) := by decide
        refine own_icmp_eq X hx hby at_66 71 69 (by decide) rfl (fun _ => ?_) (fun q => absurd c66 q)
        refine own_aload X hx hby (.ref b56b8b15) at_71 rfl rfl 73 rfl ?_
        refine own_iconst X hx hby (0 : Int32) at_73 rfl 74 rfl ?_
        refine own_iload X hx hby (0 : Int32) at_74 rfl 76 rfl ?_
        refine own_iloadN X hx hby p2 at_76 rfl 77 rfl ?_
        refine own_iloadN X hx hby p3 at_77 rfl 78 rfl ?_
        refine own_iload X hx hby p5 at_78 rfl 80 rfl ?_
        refine own_callS X hx hby hZ (st := []) [(.ref b56b8b15), (.int (0 : Int32)), (.int (0 : Int32)), (.int p2), (.int p3), (.int p5)] rfl hown (hw _ (List.mem_of_getElem? (i := 63) rfl)) (hw _ (List.mem_of_getElem? (i := 64) rfl)) (hw _ (List.mem_of_getElem? (i := 65) rfl)) (hw _ (List.mem_of_getElem? (i := 66) rfl)) (by decide) at_80 (rm11 l Z a0 hw b56b8b15 (0 : Int32) (0 : Int32) p2 p3 p5 ar56 h56 n0 Zs (by decide) A_b56b8b15 E_b56b8b15) eT pd_9 rfl (by rw [hml]; rfl) (by decide) 0 rfl (by decide) (by decide) (by decide) 83 rfl ?_
        intro T80 L9 v9 X hQ
        obtain ⟨rfl, N9, eT⟩ := hQ
        have N := Fr.app N N9
        show Go p e below _ T80 (mkF m 83 #[.val (.int p1), .val (.int p2), .val (.int p3), .val (.int p4), .val (.int p5), .val (.ref b0), .val (.int (0 : Int32)), .val (.ref b56b8b15)] [(.int (f11 (0 : Int32) (0 : Int32) p2 p3 p5 ar56))])
        have c83 : ¬ (f11 (0 : Int32) (0 : Int32) p2 p3 p5 ar56) = (0 : Int32) := own_okv _ _ _ _ _ (24 : Int32) _ (by decide) (by decide) (by decide) (by rw [← ear56]; refine (own_cpi (own_ck h3.2 (by decide) (Nat.lt_of_lt_of_le (by decide) h3.1) (by decide))).trans ?_; rw [← ear39]; rfl)
        refine own_if_eq X hx hby at_83 197 86 (by decide) rfl (fun q => absurd q c83) (fun _ => ?_)
        refine own_aload X hx hby (.ref b56b8b15) at_86 rfl rfl 88 rfl ?_
        refine own_iconst X hx hby (1 : Int32) at_88 rfl 89 rfl ?_
        refine own_iload X hx hby (0 : Int32) at_89 rfl 91 rfl ?_
        refine own_iloadN X hx hby p2 at_91 rfl 92 rfl ?_
        refine own_iloadN X hx hby p3 at_92 rfl 93 rfl ?_
        refine own_iload X hx hby p5 at_93 rfl 95 rfl ?_
        refine own_callS X hx hby hZ (st := []) [(.ref b56b8b15), (.int (1 : Int32)), (.int (0 : Int32)), (.int p2), (.int p3), (.int p5)] rfl hown (hw _ (List.mem_of_getElem? (i := 63) rfl)) (hw _ (List.mem_of_getElem? (i := 64) rfl)) (hw _ (List.mem_of_getElem? (i := 65) rfl)) (hw _ (List.mem_of_getElem? (i := 66) rfl)) (by decide) at_95 (rm11 l Z a0 hw b56b8b15 (1 : Int32) (0 : Int32) p2 p3 p5 ar56 h56 n0 Zs (by decide) A_b56b8b15 E_b56b8b15) eT pd_9 rfl (by rw [hml]; rfl) (by decide) 0 rfl (by decide) (by decide) (by decide) 98 rfl ?_
        intro T95 L9 v9 X hQ
        obtain ⟨rfl, N9, eT⟩ := hQ
        have N := Fr.app N N9
        show Go p e below _ T95 (mkF m 98 #[.val (.int p1), .val (.int p2), .val (.int p3), .val (.int p4), .val (.int p5), .val (.ref b0), .val (.int (0 : Int32)), .val (.ref b56b8b15)] [(.int (f11 (1 : Int32) (0 : Int32) p2 p3 p5 ar56))])
        have c98 : ¬ (f11 (1 : Int32) (0 : Int32) p2 p3 p5 ar56) = (0 : Int32) := own_okv _ _ _ _ _ (16 : Int32) _ (by decide) (by decide) (by decide) (by rw [← ear56]; refine (own_cpi (own_ck h3.2 (by decide) (Nat.lt_of_lt_of_le (by decide) h3.1) (by decide))).trans ?_; rw [← ear39]; rfl)
        refine own_if_eq X hx hby at_98 197 101 (by decide) rfl (fun q => absurd q c98) (fun _ => ?_)
        refine own_aload X hx hby (.ref b56b8b15) at_101 rfl rfl 103 rfl ?_
        refine own_iconst X hx hby (2 : Int32) at_103 rfl 104 rfl ?_
        refine own_iload X hx hby (0 : Int32) at_104 rfl 106 rfl ?_
        refine own_iloadN X hx hby p2 at_106 rfl 107 rfl ?_
        refine own_iloadN X hx hby p3 at_107 rfl 108 rfl ?_
        refine own_iload X hx hby p5 at_108 rfl 110 rfl ?_
        refine own_callS X hx hby hZ (st := []) [(.ref b56b8b15), (.int (2 : Int32)), (.int (0 : Int32)), (.int p2), (.int p3), (.int p5)] rfl hown (hw _ (List.mem_of_getElem? (i := 63) rfl)) (hw _ (List.mem_of_getElem? (i := 64) rfl)) (hw _ (List.mem_of_getElem? (i := 65) rfl)) (hw _ (List.mem_of_getElem? (i := 66) rfl)) (by decide) at_110 (rm11 l Z a0 hw b56b8b15 (2 : Int32) (0 : Int32) p2 p3 p5 ar56 h56 n0 Zs (by decide) A_b56b8b15 E_b56b8b15) eT pd_9 rfl (by rw [hml]; rfl) (by decide) 0 rfl (by decide) (by decide) (by decide) 113 rfl ?_
        intro T110 L9 v9 X hQ
        obtain ⟨rfl, N9, eT⟩ := hQ
        have N := Fr.app N N9
        show Go p e below _ T110 (mkF m 113 #[.val (.int p1), .val (.int p2), .val (.int p3), .val (.int p4), .val (.int p5), .val (.ref b0), .val (.int (0 : Int32)), .val (.ref b56b8b15)] [(.int (f11 (2 : Int32) (0 : Int32) p2 p3 p5 ar56))])
        have c113 : ¬ (f11 (2 : Int32) (0 : Int32) p2 p3 p5 ar56) = (0 : Int32) := own_okv _ _ _ _ _ (8 : Int32) _ (by decide) (by decide) (by decide) (by rw [← ear56]; refine (own_cpi (own_ck h3.2 (by decide) (Nat.lt_of_lt_of_le (by decide) h3.1) (by decide))).trans ?_; rw [← ear39]; rfl)
        refine own_if_eq X hx hby at_113 197 116 (by decide) rfl (fun q => absurd q c113) (fun _ => ?_)
        refine own_aload X hx hby (.ref b56b8b15) at_116 rfl rfl 118 rfl ?_
        refine own_iconst X hx hby (3 : Int32) at_118 rfl 119 rfl ?_
        refine own_iload X hx hby (0 : Int32) at_119 rfl 121 rfl ?_
        refine own_iloadN X hx hby p2 at_121 rfl 122 rfl ?_
        refine own_iloadN X hx hby p3 at_122 rfl 123 rfl ?_
        refine own_iload X hx hby p5 at_123 rfl 125 rfl ?_
        refine own_callS X hx hby hZ (st := []) [(.ref b56b8b15), (.int (3 : Int32)), (.int (0 : Int32)), (.int p2), (.int p3), (.int p5)] rfl hown (hw _ (List.mem_of_getElem? (i := 63) rfl)) (hw _ (List.mem_of_getElem? (i := 64) rfl)) (hw _ (List.mem_of_getElem? (i := 65) rfl)) (hw _ (List.mem_of_getElem? (i := 66) rfl)) (by decide) at_125 (rm11 l Z a0 hw b56b8b15 (3 : Int32) (0 : Int32) p2 p3 p5 ar56 h56 n0 Zs (by decide) A_b56b8b15 E_b56b8b15) eT pd_9 rfl (by rw [hml]; rfl) (by decide) 0 rfl (by decide) (by decide) (by decide) 128 rfl ?_
        intro T125 L9 v9 X hQ
        obtain ⟨rfl, N9, eT⟩ := hQ
        have N := Fr.app N N9
        show Go p e below _ T125 (mkF m 128 #[.val (.int p1), .val (.int p2), .val (.int p3), .val (.int p4), .val (.int p5), .val (.ref b0), .val (.int (0 : Int32)), .val (.ref b56b8b15)] [(.int (f11 (3 : Int32) (0 : Int32) p2 p3 p5 ar56))])
        have c128 : ¬ (f11 (3 : Int32) (0 : Int32) p2 p3 p5 ar56) = (0 : Int32) := own_okv _ _ _ _ _ (0 : Int32) _ (by decide) (by decide) (by decide) (by rw [← ear56]; refine (own_cpi (own_ck h3.2 (by decide) (Nat.lt_of_lt_of_le (by decide) h3.1) (by decide))).trans ?_; rw [← ear39]; rfl)
        refine own_if_eq X hx hby at_128 197 131 (by decide) rfl (fun q => absurd q c128) (fun _ => ?_)
        refine own_aload X hx hby (.ref b56b8b15) at_131 rfl rfl 133 rfl ?_
        refine own_iconst X hx hby (4 : Int32) at_133 rfl 134 rfl ?_
        refine own_iload X hx hby (0 : Int32) at_134 rfl 136 rfl ?_
        refine own_iloadN X hx hby p2 at_136 rfl 137 rfl ?_
        refine own_iloadN X hx hby p3 at_137 rfl 138 rfl ?_
        refine own_iload X hx hby p5 at_138 rfl 140 rfl ?_
        refine own_callS X hx hby hZ (st := []) [(.ref b56b8b15), (.int (4 : Int32)), (.int (0 : Int32)), (.int p2), (.int p3), (.int p5)] rfl hown (hw _ (List.mem_of_getElem? (i := 63) rfl)) (hw _ (List.mem_of_getElem? (i := 64) rfl)) (hw _ (List.mem_of_getElem? (i := 65) rfl)) (hw _ (List.mem_of_getElem? (i := 66) rfl)) (by decide) at_140 (rm11 l Z a0 hw b56b8b15 (4 : Int32) (0 : Int32) p2 p3 p5 ar56 h56 n0 Zs (by decide) A_b56b8b15 E_b56b8b15) eT pd_9 rfl (by rw [hml]; rfl) (by decide) 0 rfl (by decide) (by decide) (by decide) 143 rfl ?_
        intro T140 L9 v9 X hQ
        obtain ⟨rfl, N9, eT⟩ := hQ
        have N := Fr.app N N9
        show Go p e below _ T140 (mkF m 143 #[.val (.int p1), .val (.int p2), .val (.int p3), .val (.int p4), .val (.int p5), .val (.ref b0), .val (.int (0 : Int32)), .val (.ref b56b8b15)] [(.int (f11 (4 : Int32) (0 : Int32) p2 p3 p5 ar56))])
        have c143 : ¬ (f11 (4 : Int32) (0 : Int32) p2 p3 p5 ar56) = (0 : Int32) := own_okb _ _ _ _ _ (24 : Int32) _ (by decide) (by decide) (by decide) (by rw [← ear56]; refine (own_cpi (own_ck h3.2 (by decide) (Nat.lt_of_lt_of_le (by decide) h3.1) (by decide))).trans ?_; rw [← ear39]; exact w4)
        refine own_if_eq X hx hby at_143 197 146 (by decide) rfl (fun q => absurd q c143) (fun _ => ?_)
        refine own_aload X hx hby (.ref b56b8b15) at_146 rfl rfl 148 rfl ?_
        refine own_iconst X hx hby (5 : Int32) at_148 rfl 149 rfl ?_
        refine own_iload X hx hby (0 : Int32) at_149 rfl 151 rfl ?_
        refine own_iloadN X hx hby p2 at_151 rfl 152 rfl ?_
        refine own_iloadN X hx hby p3 at_152 rfl 153 rfl ?_
        refine own_iload X hx hby p5 at_153 rfl 155 rfl ?_
        refine own_callS X hx hby hZ (st := []) [(.ref b56b8b15), (.int (5 : Int32)), (.int (0 : Int32)), (.int p2), (.int p3), (.int p5)] rfl hown (hw _ (List.mem_of_getElem? (i := 63) rfl)) (hw _ (List.mem_of_getElem? (i := 64) rfl)) (hw _ (List.mem_of_getElem? (i := 65) rfl)) (hw _ (List.mem_of_getElem? (i := 66) rfl)) (by decide) at_155 (rm11 l Z a0 hw b56b8b15 (5 : Int32) (0 : Int32) p2 p3 p5 ar56 h56 n0 Zs (by decide) A_b56b8b15 E_b56b8b15) eT pd_9 rfl (by rw [hml]; rfl) (by decide) 0 rfl (by decide) (by decide) (by decide) 158 rfl ?_
        intro T155 L9 v9 X hQ
        obtain ⟨rfl, N9, eT⟩ := hQ
        have N := Fr.app N N9
        show Go p e below _ T155 (mkF m 158 #[.val (.int p1), .val (.int p2), .val (.int p3), .val (.int p4), .val (.int p5), .val (.ref b0), .val (.int (0 : Int32)), .val (.ref b56b8b15)] [(.int (f11 (5 : Int32) (0 : Int32) p2 p3 p5 ar56))])
        have c158 : ¬ (f11 (5 : Int32) (0 : Int32) p2 p3 p5 ar56) = (0 : Int32) := own_okb _ _ _ _ _ (16 : Int32) _ (by decide) (by decide) (by decide) (by rw [← ear56]; refine (own_cpi (own_ck h3.2 (by decide) (Nat.lt_of_lt_of_le (by decide) h3.1) (by decide))).trans ?_; rw [← ear39]; exact w5)
        refine own_if_eq X hx hby at_158 197 161 (by decide) rfl (fun q => absurd q c158) (fun _ => ?_)
        refine own_aload X hx hby (.ref b56b8b15) at_161 rfl rfl 163 rfl ?_
        refine own_bipush X hx hby (6 : Int32) at_163 rfl 165 rfl ?_
        refine own_iload X hx hby (0 : Int32) at_165 rfl 167 rfl ?_
        refine own_iloadN X hx hby p2 at_167 rfl 168 rfl ?_
        refine own_iloadN X hx hby p3 at_168 rfl 169 rfl ?_
        refine own_iload X hx hby p5 at_169 rfl 171 rfl ?_
        refine own_callS X hx hby hZ (st := []) [(.ref b56b8b15), (.int (6 : Int32)), (.int (0 : Int32)), (.int p2), (.int p3), (.int p5)] rfl hown (hw _ (List.mem_of_getElem? (i := 63) rfl)) (hw _ (List.mem_of_getElem? (i := 64) rfl)) (hw _ (List.mem_of_getElem? (i := 65) rfl)) (hw _ (List.mem_of_getElem? (i := 66) rfl)) (by decide) at_171 (rm11 l Z a0 hw b56b8b15 (6 : Int32) (0 : Int32) p2 p3 p5 ar56 h56 n0 Zs (by decide) A_b56b8b15 E_b56b8b15) eT pd_9 rfl (by rw [hml]; rfl) (by decide) 0 rfl (by decide) (by decide) (by decide) 174 rfl ?_
        intro T171 L9 v9 X hQ
        obtain ⟨rfl, N9, eT⟩ := hQ
        have N := Fr.app N N9
        show Go p e below _ T171 (mkF m 174 #[.val (.int p1), .val (.int p2), .val (.int p3), .val (.int p4), .val (.int p5), .val (.ref b0), .val (.int (0 : Int32)), .val (.ref b56b8b15)] [(.int (f11 (6 : Int32) (0 : Int32) p2 p3 p5 ar56))])
        have c174 : ¬ (f11 (6 : Int32) (0 : Int32) p2 p3 p5 ar56) = (0 : Int32) := own_okb _ _ _ _ _ (8 : Int32) _ (by decide) (by decide) (by decide) (by rw [← ear56]; refine (own_cpi (own_ck h3.2 (by decide) (Nat.lt_of_lt_of_le (by decide) h3.1) (by decide))).trans ?_; rw [← ear39]; exact w6)
        refine own_if_eq X hx hby at_174 197 177 (by decide) rfl (fun q => absurd q c174) (fun _ => ?_)
        refine own_aload X hx hby (.ref b56b8b15) at_177 rfl rfl 179 rfl ?_
        refine own_bipush X hx hby (7 : Int32) at_179 rfl 181 rfl ?_
        refine own_iload X hx hby (0 : Int32) at_181 rfl 183 rfl ?_
        refine own_iloadN X hx hby p2 at_183 rfl 184 rfl ?_
        refine own_iloadN X hx hby p3 at_184 rfl 185 rfl ?_
        refine own_iload X hx hby p5 at_185 rfl 187 rfl ?_
        refine own_callS X hx hby hZ (st := []) [(.ref b56b8b15), (.int (7 : Int32)), (.int (0 : Int32)), (.int p2), (.int p3), (.int p5)] rfl hown (hw _ (List.mem_of_getElem? (i := 63) rfl)) (hw _ (List.mem_of_getElem? (i := 64) rfl)) (hw _ (List.mem_of_getElem? (i := 65) rfl)) (hw _ (List.mem_of_getElem? (i := 66) rfl)) (by decide) at_187 (rm11 l Z a0 hw b56b8b15 (7 : Int32) (0 : Int32) p2 p3 p5 ar56 h56 n0 Zs (by decide) A_b56b8b15 E_b56b8b15) eT pd_9 rfl (by rw [hml]; rfl) (by decide) 0 rfl (by decide) (by decide) (by decide) 190 rfl ?_
        intro T187 L9 v9 X hQ
        obtain ⟨rfl, N9, eT⟩ := hQ
        have N := Fr.app N N9
        show Go p e below _ T187 (mkF m 190 #[.val (.int p1), .val (.int p2), .val (.int p3), .val (.int p4), .val (.int p5), .val (.ref b0), .val (.int (0 : Int32)), .val (.ref b56b8b15)] [(.int (f11 (7 : Int32) (0 : Int32) p2 p3 p5 ar56))])
        have c190 : ¬ (f11 (7 : Int32) (0 : Int32) p2 p3 p5 ar56) = (0 : Int32) := own_okb _ _ _ _ _ (0 : Int32) _ (by decide) (by decide) (by decide) (by rw [← ear56]; refine (own_cpi (own_ck h3.2 (by decide) (Nat.lt_of_lt_of_le (by decide) h3.1) (by decide))).trans ?_; rw [← ear39]; exact w7)
        refine own_if_eq X hx hby at_190 197 193 (by decide) rfl (fun q => absurd q c190) (fun _ => ?_)
        refine own_iconst X hx hby (1 : Int32) at_193 rfl 194 rfl ?_
        refine own_goto X hx hby at_194 198 (by decide) ?_
        refine own_retN X hx hby hret hlk (t := .boolean) (z' := (1 : Int32)) (by simp) at_198 (by decide) (by decide) rfl ?_
        rw [eT]
        exact ⟨rfl, N⟩
    · skip
      refine own_aload X hx hby (.ref b0) at_33 rfl rfl 35 rfl ?_
      refine own_iload X hx hby (1 : Int32) at_35 rfl 37 rfl ?_
      refine own_iload X hx hby p5 at_37 rfl 39 rfl ?_
      refine own_callV X hx hby hZ (st := []) [(.int (1 : Int32)), (.int p5)] rfl hown (hw _ (List.mem_of_getElem? (i := 39) rfl)) (hw _ (List.mem_of_getElem? (i := 40) rfl)) (hw _ (List.mem_of_getElem? (i := 42) rfl)) (hw _ (List.mem_of_getElem? (i := 41) rfl)) (hw _ (List.mem_of_getElem? (i := 2) rfl)) (hw _ (List.mem_of_getElem? (i := 43) rfl)) E_b0 (by decide) at_39 (rm8_1 l Z a0 hw b0 p5 b22b2b35b15 ar22 n3 (8 : Int32) h22 n0 Zs h3.1 A_b22b2b35b15 E_b22b2b35b15 g_b22b2b35b15 E_b0 F_bytes_b0 F_length_b0 g_b0) eT pd_6 rfl (by rw [hml]; rfl) (by decide) 0 rfl (by decide) (by decide) (by decide) 42 rfl ?_
      intro T39 L9 v9 X hQ
      obtain ⟨h39, eT⟩ : ∃ z, T39.heap = z := ⟨_, rfl⟩
      rw [eT] at hQ
      obtain ⟨rfl, N9, Kc, A_b22b2b35b15, E_b22b2b35b15⟩ := hQ
      have E_b0 := E_b0.keep Kc
      have F_bytes_b0 := F_bytes_b0.keep Kc (ninS ne_b0_b22b2b35b15 nin0)
      have F_length_b0 := F_length_b0.keep Kc (ninS ne_b0_b22b2b35b15 nin0)
      have A_b8b6 := A_b8b6.keep Kc (ninS ne_b8b6_b22b2b35b15 nin0)
      have E_b8b6 := E_b8b6.keep Kc
      have A_b16b2b35b15 := A_b16b2b35b15.keep Kc (ninS ne_b16b2b35b15_b22b2b35b15 nin0)
      have E_b16b2b35b15 := E_b16b2b35b15.keep Kc
      obtain ⟨ar39, ear39⟩ : ∃ z : Nat → Int32, (updI (updI (updI (updI ar22 1 (nar .byte (((p5.toUInt32 >>> ((24 : Int32) &&& 31).toUInt32).toInt32).toInt8.toInt32))) 2 (nar .byte (((p5.toUInt32 >>> ((16 : Int32) &&& 31).toUInt32).toInt32).toInt8.toInt32))) 3 (nar .byte (((p5.toUInt32 >>> ((8 : Int32) &&& 31).toUInt32).toInt32).toInt8.toInt32))) 4 (nar .byte (((p5.toUInt32 >>> ((0 : Int32) &&& 31).toUInt32).toInt32).toInt8.toInt32))) = z := ⟨_, rfl⟩
      rw [ear39] at A_b22b2b35b15
      have K := K.trans Kc (allS (Or.inr sz_b22b2b35b15) all0)
      have Zs := Nat.le_trans Zs Kc.1
      have N := Fr.app N N9
      show Go p e below _ T39 (mkF m 42 #[.val (.int p1), .val (.int p2), .val (.int p3), .val (.int p4), .val (.int p5), .val (.ref b0), .val (.int (1 : Int32)), .unset] [])
      refine own_aload X hx hby (.ref b0) at_42 rfl rfl 44 rfl ?_
      refine own_callV X hx hby hZ (st := []) [] rfl hown (hw _ (List.mem_of_getElem? (i := 44) rfl)) (hw _ (List.mem_of_getElem? (i := 45) rfl)) (hw _ (List.mem_of_getElem? (i := 47) rfl)) (hw _ (List.mem_of_getElem? (i := 46) rfl)) (hw _ (List.mem_of_getElem? (i := 2) rfl)) (hw _ (List.mem_of_getElem? (i := 48) rfl)) E_b0 (by decide) at_44 (rm9 l Z a0 hw b0 h39 n0 Zs F_length_b0) eT pd_0 rfl (by rw [hml]; rfl) (by decide) 0 rfl (by decide) (by decide) (by decide) 47 rfl ?_
      intro T44 L9 v9 X hQ
      obtain ⟨rfl, N9, eT⟩ := hQ
      have N := Fr.app N N9
      show Go p e below _ T44 (mkF m 47 #[.val (.int p1), .val (.int p2), .val (.int p3), .val (.int p4), .val (.int p5), .val (.ref b0), .val (.int (1 : Int32)), .unset] [(.int (8 : Int32))])
      refine own_bipush X hx hby (8 : Int32) at_47 rfl 49 rfl ?_
      have c49 : (8 : Int32) = (8 : Int32) := by decide
      refine own_icmp_eq X hx hby at_49 54 52 (by decide) rfl (fun _ => ?_) (fun q => absurd c49 q)
      refine own_aload X hx hby (.ref b0) at_54 rfl rfl 56 rfl ?_
      by_cases q8 : n3 = 8
      · skip
        subst q8
        refine own_callV X hx hby hZ (st := []) [] rfl hown (hw _ (List.mem_of_getElem? (i := 49) rfl)) (hw _ (List.mem_of_getElem? (i := 50) rfl)) (hw _ (List.mem_of_getElem? (i := 52) rfl)) (hw _ (List.mem_of_getElem? (i := 51) rfl)) (hw _ (List.mem_of_getElem? (i := 2) rfl)) (hw _ (List.mem_of_getElem? (i := 53) rfl)) E_b0 (by decide) at_56 (rm10_c l Z a0 hw b0 b22b2b35b15 ar39 h39 n0 Zs A_b22b2b35b15 E_b22b2b35b15 F_bytes_b0 F_length_b0) eT pd_3 rfl (by rw [hml]; rfl) (by decide) 0 rfl (by decide) (by decide) (by decide) 59 rfl ?_
        intro T56 L9 v9 X hQ
        obtain ⟨h56, eT⟩ : ∃ z, T56.heap = z := ⟨_, rfl⟩
        rw [eT] at hQ
        have lt_b0 := E_b0.lt
        have lt_b16b2b35b15 := A_b16b2b35b15.lt
        have lt_b22b2b35b15 := A_b22b2b35b15.lt
        have lt_b8b6 := A_b8b6.lt
        obtain ⟨b56b8b7, rfl, N9, Kc, hs_b56b8b7, A_b56b8b7, E_b56b8b7⟩ := hQ
        have g_b56b8b7 : n0 ≤ b56b8b7 := Nat.le_trans Zs hs_b56b8b7
        have sz_b56b8b7 : h0.size ≤ b56b8b7 := Nat.le_trans K.1 hs_b56b8b7
        have ne_b0_b56b8b7 : b0 ≠ b56b8b7 := Nat.ne_of_lt (Nat.lt_of_lt_of_le lt_b0 hs_b56b8b7)
        have ne_b16b2b35b15_b56b8b7 : b16b2b35b15 ≠ b56b8b7 := Nat.ne_of_lt (Nat.lt_of_lt_of_le lt_b16b2b35b15 hs_b56b8b7)
        have ne_b22b2b35b15_b56b8b7 : b22b2b35b15 ≠ b56b8b7 := Nat.ne_of_lt (Nat.lt_of_lt_of_le lt_b22b2b35b15 hs_b56b8b7)
        have ne_b8b6_b56b8b7 : b8b6 ≠ b56b8b7 := Nat.ne_of_lt (Nat.lt_of_lt_of_le lt_b8b6 hs_b56b8b7)
        have E_b0 := E_b0.keep Kc
        have F_bytes_b0 := F_bytes_b0.keep Kc nin0
        have F_length_b0 := F_length_b0.keep Kc nin0
        have A_b8b6 := A_b8b6.keep Kc nin0
        have E_b8b6 := E_b8b6.keep Kc
        have A_b16b2b35b15 := A_b16b2b35b15.keep Kc nin0
        have E_b16b2b35b15 := E_b16b2b35b15.keep Kc
        have A_b22b2b35b15 := A_b22b2b35b15.keep Kc nin0
        have E_b22b2b35b15 := E_b22b2b35b15.keep Kc
        have K := K.trans Kc all0
        have Zs := Nat.le_trans Zs Kc.1
        have N := Fr.app N N9
        show Go p e below _ T56 (mkF m 59 #[.val (.int p1), .val (.int p2), .val (.int p3), .val (.int p4), .val (.int p5), .val (.ref b0), .val (.int (1 : Int32)), .unset] [(.ref b56b8b7)])
        refine own_astore X hx hby at_59 rfl (l' := #[.val (.int p1), .val (.int p2), .val (.int p3), .val (.int p4), .val (.int p5), .val (.ref b0), .val (.int (1 : Int32)), .val (.ref b56b8b7)]) rfl 61 rfl ?_
        refine own_aload X hx hby (.ref b56b8b7) at_61 rfl rfl 63 rfl ?_
        refine own_arraylength X hx hby hZ (8 : Int32) eT A_b56b8b7 rfl at_63 64 rfl ?_
        refine own_bipush X hx hby (8 : Int32) at_64 rfl 66 rfl ?_
        have c66 : (8 : Int32) = (8 : Int32) := by decide
        refine own_icmp_eq X hx hby at_66 71 69 (by decide) rfl (fun _ => ?_) (fun q => absurd c66 q)
        refine own_aload X hx hby (.ref b56b8b7) at_71 rfl rfl 73 rfl ?_
        refine own_iconst X hx hby (0 : Int32) at_73 rfl 74 rfl ?_
        refine own_iload X hx hby (1 : Int32) at_74 rfl 76 rfl ?_
        refine own_iloadN X hx hby p2 at_76 rfl 77 rfl ?_
        refine own_iloadN X hx hby p3 at_77 rfl 78 rfl ?_
        refine own_iload X hx hby p5 at_78 rfl 80 rfl ?_
        refine own_callS X hx hby hZ (st := []) [(.ref b56b8b7), (.int (0 : Int32)), (.int (1 : Int32)), (.int p2), (.int p3), (.int p5)] rfl hown (hw _ (List.mem_of_getElem? (i := 63) rfl)) (hw _ (List.mem_of_getElem? (i := 64) rfl)) (hw _ (List.mem_of_getElem? (i := 65) rfl)) (hw _ (List.mem_of_getElem? (i := 66) rfl)) (by decide) at_80 (rm11 l Z a0 hw b56b8b7 (0 : Int32) (1 : Int32) p2 p3 p5 ar39 h56 n0 Zs (by decide) A_b56b8b7 E_b56b8b7) eT pd_9 rfl (by rw [hml]; rfl) (by decide) 0 rfl (by decide) (by decide) (by decide) 83 rfl ?_
        intro T80 L9 v9 X hQ
        obtain ⟨rfl, N9, eT⟩ := hQ
        have N := Fr.app N N9
        show Go p e below _ T80 (mkF m 83 #[.val (.int p1), .val (.int p2), .val (.int p3), .val (.int p4), .val (.int p5), .val (.ref b0), .val (.int (1 : Int32)), .val (.ref b56b8b7)] [(.int (f11 (0 : Int32) (1 : Int32) p2 p3 p5 ar39))])
        have c83 : ¬ (f11 (0 : Int32) (1 : Int32) p2 p3 p5 ar39) = (0 : Int32) := own_oka _ _ _ _ _ (24 : Int32) _ (by decide) (by decide) (by decide) (by rw [← ear39]; exact w0)
        refine own_if_eq X hx hby at_83 197 86 (by decide) rfl (fun q => absurd q c83) (fun _ => ?_)
        refine own_aload X hx hby (.ref b56b8b7) at_86 rfl rfl 88 rfl ?_
        refine own_iconst X hx hby (1 : Int32) at_88 rfl 89 rfl ?_
        refine own_iload X hx hby (1 : Int32) at_89 rfl 91 rfl ?_
        refine own_iloadN X hx hby p2 at_91 rfl 92 rfl ?_
        refine own_iloadN X hx hby p3 at_92 rfl 93 rfl ?_
        refine own_iload X hx hby p5 at_93 rfl 95 rfl ?_
        refine own_callS X hx hby hZ (st := []) [(.ref b56b8b7), (.int (1 : Int32)), (.int (1 : Int32)), (.int p2), (.int p3), (.int p5)] rfl hown (hw _ (List.mem_of_getElem? (i := 63) rfl)) (hw _ (List.mem_of_getElem? (i := 64) rfl)) (hw _ (List.mem_of_getElem? (i := 65) rfl)) (hw _ (List.mem_of_getElem? (i := 66) rfl)) (by decide) at_95 (rm11 l Z a0 hw b56b8b7 (1 : Int32) (1 : Int32) p2 p3 p5 ar39 h56 n0 Zs (by decide) A_b56b8b7 E_b56b8b7) eT pd_9 rfl (by rw [hml]; rfl) (by decide) 0 rfl (by decide) (by decide) (by decide) 98 rfl ?_
        intro T95 L9 v9 X hQ
        obtain ⟨rfl, N9, eT⟩ := hQ
        have N := Fr.app N N9
        show Go p e below _ T95 (mkF m 98 #[.val (.int p1), .val (.int p2), .val (.int p3), .val (.int p4), .val (.int p5), .val (.ref b0), .val (.int (1 : Int32)), .val (.ref b56b8b7)] [(.int (f11 (1 : Int32) (1 : Int32) p2 p3 p5 ar39))])
        have c98 : ¬ (f11 (1 : Int32) (1 : Int32) p2 p3 p5 ar39) = (0 : Int32) := own_okv _ _ _ _ _ (24 : Int32) _ (by decide) (by decide) (by decide) (by rw [← ear39]; rfl)
        refine own_if_eq X hx hby at_98 197 101 (by decide) rfl (fun q => absurd q c98) (fun _ => ?_)
        refine own_aload X hx hby (.ref b56b8b7) at_101 rfl rfl 103 rfl ?_
        refine own_iconst X hx hby (2 : Int32) at_103 rfl 104 rfl ?_
        refine own_iload X hx hby (1 : Int32) at_104 rfl 106 rfl ?_
        refine own_iloadN X hx hby p2 at_106 rfl 107 rfl ?_
        refine own_iloadN X hx hby p3 at_107 rfl 108 rfl ?_
        refine own_iload X hx hby p5 at_108 rfl 110 rfl ?_
        refine own_callS X hx hby hZ (st := []) [(.ref b56b8b7), (.int (2 : Int32)), (.int (1 : Int32)), (.int p2), (.int p3), (.int p5)] rfl hown (hw _ (List.mem_of_getElem? (i := 63) rfl)) (hw _ (List.mem_of_getElem? (i := 64) rfl)) (hw _ (List.mem_of_getElem? (i := 65) rfl)) (hw _ (List.mem_of_getElem? (i := 66) rfl)) (by decide) at_110 (rm11 l Z a0 hw b56b8b7 (2 : Int32) (1 : Int32) p2 p3 p5 ar39 h56 n0 Zs (by decide) A_b56b8b7 E_b56b8b7) eT pd_9 rfl (by rw [hml]; rfl) (by decide) 0 rfl (by decide) (by decide) (by decide) 113 rfl ?_
        intro T110 L9 v9 X hQ
        obtain ⟨rfl, N9, eT⟩ := hQ
        have N := Fr.app N N9
        show Go p e below _ T110 (mkF m 113 #[.val (.int p1), .val (.int p2), .val (.int p3), .val (.int p4), .val (.int p5), .val (.ref b0), .val (.int (1 : Int32)), .val (.ref b56b8b7)] [(.int (f11 (2 : Int32) (1 : Int32) p2 p3 p5 ar39))])
        have c113 : ¬ (f11 (2 : Int32) (1 : Int32) p2 p3 p5 ar39) = (0 : Int32) := own_okv _ _ _ _ _ (16 : Int32) _ (by decide) (by decide) (by decide) (by rw [← ear39]; rfl)
        refine own_if_eq X hx hby at_113 197 116 (by decide) rfl (fun q => absurd q c113) (fun _ => ?_)
        refine own_aload X hx hby (.ref b56b8b7) at_116 rfl rfl 118 rfl ?_
        refine own_iconst X hx hby (3 : Int32) at_118 rfl 119 rfl ?_
        refine own_iload X hx hby (1 : Int32) at_119 rfl 121 rfl ?_
        refine own_iloadN X hx hby p2 at_121 rfl 122 rfl ?_
        refine own_iloadN X hx hby p3 at_122 rfl 123 rfl ?_
        refine own_iload X hx hby p5 at_123 rfl 125 rfl ?_
        refine own_callS X hx hby hZ (st := []) [(.ref b56b8b7), (.int (3 : Int32)), (.int (1 : Int32)), (.int p2), (.int p3), (.int p5)] rfl hown (hw _ (List.mem_of_getElem? (i := 63) rfl)) (hw _ (List.mem_of_getElem? (i := 64) rfl)) (hw _ (List.mem_of_getElem? (i := 65) rfl)) (hw _ (List.mem_of_getElem? (i := 66) rfl)) (by decide) at_125 (rm11 l Z a0 hw b56b8b7 (3 : Int32) (1 : Int32) p2 p3 p5 ar39 h56 n0 Zs (by decide) A_b56b8b7 E_b56b8b7) eT pd_9 rfl (by rw [hml]; rfl) (by decide) 0 rfl (by decide) (by decide) (by decide) 128 rfl ?_
        intro T125 L9 v9 X hQ
        obtain ⟨rfl, N9, eT⟩ := hQ
        have N := Fr.app N N9
        show Go p e below _ T125 (mkF m 128 #[.val (.int p1), .val (.int p2), .val (.int p3), .val (.int p4), .val (.int p5), .val (.ref b0), .val (.int (1 : Int32)), .val (.ref b56b8b7)] [(.int (f11 (3 : Int32) (1 : Int32) p2 p3 p5 ar39))])
        have c128 : ¬ (f11 (3 : Int32) (1 : Int32) p2 p3 p5 ar39) = (0 : Int32) := own_okv _ _ _ _ _ (8 : Int32) _ (by decide) (by decide) (by decide) (by rw [← ear39]; rfl)
        refine own_if_eq X hx hby at_128 197 131 (by decide) rfl (fun q => absurd q c128) (fun _ => ?_)
        refine own_aload X hx hby (.ref b56b8b7) at_131 rfl rfl 133 rfl ?_
        refine own_iconst X hx hby (4 : Int32) at_133 rfl 134 rfl ?_
        refine own_iload X hx hby (1 : Int32) at_134 rfl 136 rfl ?_
        refine own_iloadN X hx hby p2 at_136 rfl 137 rfl ?_
        refine own_iloadN X hx hby p3 at_137 rfl 138 rfl ?_
        refine own_iload X hx hby p5 at_138 rfl 140 rfl ?_
        refine own_callS X hx hby hZ (st := []) [(.ref b56b8b7), (.int (4 : Int32)), (.int (1 : Int32)), (.int p2), (.int p3), (.int p5)] rfl hown (hw _ (List.mem_of_getElem? (i := 63) rfl)) (hw _ (List.mem_of_getElem? (i := 64) rfl)) (hw _ (List.mem_of_getElem? (i := 65) rfl)) (hw _ (List.mem_of_getElem? (i := 66) rfl)) (by decide) at_140 (rm11 l Z a0 hw b56b8b7 (4 : Int32) (1 : Int32) p2 p3 p5 ar39 h56 n0 Zs (by decide) A_b56b8b7 E_b56b8b7) eT pd_9 rfl (by rw [hml]; rfl) (by decide) 0 rfl (by decide) (by decide) (by decide) 143 rfl ?_
        intro T140 L9 v9 X hQ
        obtain ⟨rfl, N9, eT⟩ := hQ
        have N := Fr.app N N9
        show Go p e below _ T140 (mkF m 143 #[.val (.int p1), .val (.int p2), .val (.int p3), .val (.int p4), .val (.int p5), .val (.ref b0), .val (.int (1 : Int32)), .val (.ref b56b8b7)] [(.int (f11 (4 : Int32) (1 : Int32) p2 p3 p5 ar39))])
        have c143 : ¬ (f11 (4 : Int32) (1 : Int32) p2 p3 p5 ar39) = (0 : Int32) := own_okv _ _ _ _ _ (0 : Int32) _ (by decide) (by decide) (by decide) (by rw [← ear39]; rfl)
        refine own_if_eq X hx hby at_143 197 146 (by decide) rfl (fun q => absurd q c143) (fun _ => ?_)
        refine own_aload X hx hby (.ref b56b8b7) at_146 rfl rfl 148 rfl ?_
        refine own_iconst X hx hby (5 : Int32) at_148 rfl 149 rfl ?_
        refine own_iload X hx hby (1 : Int32) at_149 rfl 151 rfl ?_
        refine own_iloadN X hx hby p2 at_151 rfl 152 rfl ?_
        refine own_iloadN X hx hby p3 at_152 rfl 153 rfl ?_
        refine own_iload X hx hby p5 at_153 rfl 155 rfl ?_
        refine own_callS X hx hby hZ (st := []) [(.ref b56b8b7), (.int (5 : Int32)), (.int (1 : Int32)), (.int p2), (.int p3), (.int p5)] rfl hown (hw _ (List.mem_of_getElem? (i := 63) rfl)) (hw _ (List.mem_of_getElem? (i := 64) rfl)) (hw _ (List.mem_of_getElem? (i := 65) rfl)) (hw _ (List.mem_of_getElem? (i := 66) rfl)) (by decide) at_155 (rm11 l Z a0 hw b56b8b7 (5 : Int32) (1 : Int32) p2 p3 p5 ar39 h56 n0 Zs (by decide) A_b56b8b7 E_b56b8b7) eT pd_9 rfl (by rw [hml]; rfl) (by decide) 0 rfl (by decide) (by decide) (by decide) 158 rfl ?_
        intro T155 L9 v9 X hQ
        obtain ⟨rfl, N9, eT⟩ := hQ
        have N := Fr.app N N9
        show Go p e below _ T155 (mkF m 158 #[.val (.int p1), .val (.int p2), .val (.int p3), .val (.int p4), .val (.int p5), .val (.ref b0), .val (.int (1 : Int32)), .val (.ref b56b8b7)] [(.int (f11 (5 : Int32) (1 : Int32) p2 p3 p5 ar39))])
        have c158 : ¬ (f11 (5 : Int32) (1 : Int32) p2 p3 p5 ar39) = (0 : Int32) := own_okb _ _ _ _ _ (16 : Int32) _ (by decide) (by decide) (by decide) (by rw [← ear39]; exact w5)
        refine own_if_eq X hx hby at_158 197 161 (by decide) rfl (fun q => absurd q c158) (fun _ => ?_)
        refine own_aload X hx hby (.ref b56b8b7) at_161 rfl rfl 163 rfl ?_
        refine own_bipush X hx hby (6 : Int32) at_163 rfl 165 rfl ?_
        refine own_iload X hx hby (1 : Int32) at_165 rfl 167 rfl ?_
        refine own_iloadN X hx hby p2 at_167 rfl 168 rfl ?_
        refine own_iloadN X hx hby p3 at_168 rfl 169 rfl ?_
        refine own_iload X hx hby p5 at_169 rfl 171 rfl ?_
        refine own_callS X hx hby hZ (st := []) [(.ref b56b8b7), (.int (6 : Int32)), (.int (1 : Int32)), (.int p2), (.int p3), (.int p5)] rfl hown (hw _ (List.mem_of_getElem? (i := 63) rfl)) (hw _ (List.mem_of_getElem? (i := 64) rfl)) (hw _ (List.mem_of_getElem? (i := 65) rfl)) (hw _ (List.mem_of_getElem? (i := 66) rfl)) (by decide) at_171 (rm11 l Z a0 hw b56b8b7 (6 : Int32) (1 : Int32) p2 p3 p5 ar39 h56 n0 Zs (by decide) A_b56b8b7 E_b56b8b7) eT pd_9 rfl (by rw [hml]; rfl) (by decide) 0 rfl (by decide) (by decide) (by decide) 174 rfl ?_
        intro T171 L9 v9 X hQ
        obtain ⟨rfl, N9, eT⟩ := hQ
        have N := Fr.app N N9
        show Go p e below _ T171 (mkF m 174 #[.val (.int p1), .val (.int p2), .val (.int p3), .val (.int p4), .val (.int p5), .val (.ref b0), .val (.int (1 : Int32)), .val (.ref b56b8b7)] [(.int (f11 (6 : Int32) (1 : Int32) p2 p3 p5 ar39))])
        have c174 : ¬ (f11 (6 : Int32) (1 : Int32) p2 p3 p5 ar39) = (0 : Int32) := own_okb _ _ _ _ _ (8 : Int32) _ (by decide) (by decide) (by decide) (by rw [← ear39]; exact w6)
        refine own_if_eq X hx hby at_174 197 177 (by decide) rfl (fun q => absurd q c174) (fun _ => ?_)
        refine own_aload X hx hby (.ref b56b8b7) at_177 rfl rfl 179 rfl ?_
        refine own_bipush X hx hby (7 : Int32) at_179 rfl 181 rfl ?_
        refine own_iload X hx hby (1 : Int32) at_181 rfl 183 rfl ?_
        refine own_iloadN X hx hby p2 at_183 rfl 184 rfl ?_
        refine own_iloadN X hx hby p3 at_184 rfl 185 rfl ?_
        refine own_iload X hx hby p5 at_185 rfl 187 rfl ?_
        refine own_callS X hx hby hZ (st := []) [(.ref b56b8b7), (.int (7 : Int32)), (.int (1 : Int32)), (.int p2), (.int p3), (.int p5)] rfl hown (hw _ (List.mem_of_getElem? (i := 63) rfl)) (hw _ (List.mem_of_getElem? (i := 64) rfl)) (hw _ (List.mem_of_getElem? (i := 65) rfl)) (hw _ (List.mem_of_getElem? (i := 66) rfl)) (by decide) at_187 (rm11 l Z a0 hw b56b8b7 (7 : Int32) (1 : Int32) p2 p3 p5 ar39 h56 n0 Zs (by decide) A_b56b8b7 E_b56b8b7) eT pd_9 rfl (by rw [hml]; rfl) (by decide) 0 rfl (by decide) (by decide) (by decide) 190 rfl ?_
        intro T187 L9 v9 X hQ
        obtain ⟨rfl, N9, eT⟩ := hQ
        have N := Fr.app N N9
        show Go p e below _ T187 (mkF m 190 #[.val (.int p1), .val (.int p2), .val (.int p3), .val (.int p4), .val (.int p5), .val (.ref b0), .val (.int (1 : Int32)), .val (.ref b56b8b7)] [(.int (f11 (7 : Int32) (1 : Int32) p2 p3 p5 ar39))])
        have c190 : ¬ (f11 (7 : Int32) (1 : Int32) p2 p3 p5 ar39) = (0 : Int32) := own_okb _ _ _ _ _ (0 : Int32) _ (by decide) (by decide) (by decide) (by rw [← ear39]; exact w7)
        refine own_if_eq X hx hby at_190 197 193 (by decide) rfl (fun q => absurd q c190) (fun _ => ?_)
        refine own_iconst X hx hby (1 : Int32) at_193 rfl 194 rfl ?_
        refine own_goto X hx hby at_194 198 (by decide) ?_
        refine own_retN X hx hby hret hlk (t := .boolean) (z' := (1 : Int32)) (by simp) at_198 (by decide) (by decide) rfl ?_
        rw [eT]
        exact ⟨rfl, N⟩
      · skip
        refine own_callV X hx hby hZ (st := []) [] rfl hown (hw _ (List.mem_of_getElem? (i := 49) rfl)) (hw _ (List.mem_of_getElem? (i := 50) rfl)) (hw _ (List.mem_of_getElem? (i := 52) rfl)) (hw _ (List.mem_of_getElem? (i := 51) rfl)) (hw _ (List.mem_of_getElem? (i := 2) rfl)) (hw _ (List.mem_of_getElem? (i := 53) rfl)) E_b0 (by decide) at_56 (rm10_n l Z a0 hw b0 b22b2b35b15 ar39 n3 h39 n0 Zs (own_n8 q8 h3.2) h3.2 A_b22b2b35b15 E_b22b2b35b15 F_bytes_b0 F_length_b0) eT pd_3 rfl (by rw [hml]; rfl) (by decide) 0 rfl (by decide) (by decide) (by decide) 59 rfl ?_
        intro T56 L9 v9 X hQ
        obtain ⟨h56, eT⟩ : ∃ z, T56.heap = z := ⟨_, rfl⟩
        rw [eT] at hQ
        have lt_b0 := E_b0.lt
        have lt_b16b2b35b15 := A_b16b2b35b15.lt
        have lt_b22b2b35b15 := A_b22b2b35b15.lt
        have lt_b8b6 := A_b8b6.lt
        obtain ⟨b56b8b15, rfl, N9, Kc, hs_b56b8b15, A_b56b8b15, E_b56b8b15⟩ := hQ
        have g_b56b8b15 : n0 ≤ b56b8b15 := Nat.le_trans Zs hs_b56b8b15
        have sz_b56b8b15 : h0.size ≤ b56b8b15 := Nat.le_trans K.1 hs_b56b8b15
        have ne_b0_b56b8b15 : b0 ≠ b56b8b15 := Nat.ne_of_lt (Nat.lt_of_lt_of_le lt_b0 hs_b56b8b15)
        have ne_b16b2b35b15_b56b8b15 : b16b2b35b15 ≠ b56b8b15 := Nat.ne_of_lt (Nat.lt_of_lt_of_le lt_b16b2b35b15 hs_b56b8b15)
        have ne_b22b2b35b15_b56b8b15 : b22b2b35b15 ≠ b56b8b15 := Nat.ne_of_lt (Nat.lt_of_lt_of_le lt_b22b2b35b15 hs_b56b8b15)
        have ne_b8b6_b56b8b15 : b8b6 ≠ b56b8b15 := Nat.ne_of_lt (Nat.lt_of_lt_of_le lt_b8b6 hs_b56b8b15)
        have E_b0 := E_b0.keep Kc
        have F_bytes_b0 := F_bytes_b0.keep Kc nin0
        have F_length_b0 := F_length_b0.keep Kc nin0
        have A_b8b6 := A_b8b6.keep Kc nin0
        have E_b8b6 := E_b8b6.keep Kc
        have A_b16b2b35b15 := A_b16b2b35b15.keep Kc nin0
        have E_b16b2b35b15 := E_b16b2b35b15.keep Kc
        have A_b22b2b35b15 := A_b22b2b35b15.keep Kc nin0
        have E_b22b2b35b15 := E_b22b2b35b15.keep Kc
        obtain ⟨ar56, ear56⟩ : ∃ z : Nat → Int32, (own_cp ar39 (Int32.toNatClampNeg (f7 (Int32.ofNat n3) (8 : Int32)))) = z := ⟨_, rfl⟩
        rw [ear56] at A_b56b8b15
        have K := K.trans Kc all0
        have Zs := Nat.le_trans Zs Kc.1
        have N := Fr.app N N9
        show Go p e below _ T56 (mkF m 59 #[.val (.int p1), .val (.int p2), .val (.int p3), .val (.int p4), .val (.int p5), .val (.ref b0), .val (.int (1 : Int32)), .unset] [(.ref b56b8b15)])
        refine own_astore X hx hby at_59 rfl (l' := #[.val (.int p1), .val (.int p2), .val (.int p3), .val (.int p4), .val (.int p5), .val (.ref b0), .val (.int (1 : Int32)), .val (.ref b56b8b15)]) rfl 61 rfl ?_
        refine own_aload X hx hby (.ref b56b8b15) at_61 rfl rfl 63 rfl ?_
        refine own_arraylength X hx hby hZ (8 : Int32) eT A_b56b8b15 rfl at_63 64 rfl ?_
        refine own_bipush X hx hby (8 : Int32) at_64 rfl 66 rfl ?_
        have c66 : (8 : Int32) = (8 : Int32) := by decide
        refine own_icmp_eq X hx hby at_66 71 69 (by decide) rfl (fun _ => ?_) (fun q => absurd c66 q)
        refine own_aload X hx hby (.ref b56b8b15) at_71 rfl rfl 73 rfl ?_
        refine own_iconst X hx hby (0 : Int32) at_73 rfl 74 rfl ?_
        refine own_iload X hx hby (1 : Int32) at_74 rfl 76 rfl ?_
        refine own_iloadN X hx hby p2 at_76 rfl 77 rfl ?_
        refine own_iloadN X hx hby p3 at_77 rfl 78 rfl ?_
        refine own_iload X hx hby p5 at_78 rfl 80 rfl ?_
        refine own_callS X hx hby hZ (st := []) [(.ref b56b8b15), (.int (0 : Int32)), (.int (1 : Int32)), (.int p2), (.int p3), (.int p5)] rfl hown (hw _ (List.mem_of_getElem? (i := 63) rfl)) (hw _ (List.mem_of_getElem? (i := 64) rfl)) (hw _ (List.mem_of_getElem? (i := 65) rfl)) (hw _ (List.mem_of_getElem? (i := 66) rfl)) (by decide) at_80 (rm11 l Z a0 hw b56b8b15 (0 : Int32) (1 : Int32) p2 p3 p5 ar56 h56 n0 Zs (by decide) A_b56b8b15 E_b56b8b15) eT pd_9 rfl (by rw [hml]; rfl) (by decide) 0 rfl (by decide) (by decide) (by decide) 83 rfl ?_
        intro T80 L9 v9 X hQ
        obtain ⟨rfl, N9, eT⟩ := hQ
        have N := Fr.app N N9
        show Go p e below _ T80 (mkF m 83 #[.val (.int p1), .val (.int p2), .val (.int p3), .val (.int p4), .val (.int p5), .val (.ref b0), .val (.int (1 : Int32)), .val (.ref b56b8b15)] [(.int (f11 (0 : Int32) (1 : Int32) p2 p3 p5 ar56))])
        have c83 : ¬ (f11 (0 : Int32) (1 : Int32) p2 p3 p5 ar56) = (0 : Int32) := own_oka _ _ _ _ _ (24 : Int32) _ (by decide) (by decide) (by decide) (by rw [← ear56]; refine (own_cpi (own_ck h3.2 (by decide) (Nat.lt_of_lt_of_le (by decide) h3.1) (by decide))).trans ?_; rw [← ear39]; exact w0)
        refine own_if_eq X hx hby at_83 197 86 (by decide) rfl (fun q => absurd q c83) (fun _ => ?_)
        refine own_aload X hx hby (.ref b56b8b15) at_86 rfl rfl 88 rfl ?_
        refine own_iconst X hx hby (1 : Int32) at_88 rfl 89 rfl ?_
        refine own_iload X hx hby (1 : Int32) at_89 rfl 91 rfl ?_
        refine own_iloadN X hx hby p2 at_91 rfl 92 rfl ?_
        refine own_iloadN X hx hby p3 at_92 rfl 93 rfl ?_
        refine own_iload X hx hby p5 at_93 rfl 95 rfl ?_
        refine own_callS X hx hby hZ (st := []) [(.ref b56b8b15), (.int (1 : Int32)), (.int (1 : Int32)), (.int p2), (.int p3), (.int p5)] rfl hown (hw _ (List.mem_of_getElem? (i := 63) rfl)) (hw _ (List.mem_of_getElem? (i := 64) rfl)) (hw _ (List.mem_of_getElem? (i := 65) rfl)) (hw _ (List.mem_of_getElem? (i := 66) rfl)) (by decide) at_95 (rm11 l Z a0 hw b56b8b15 (1 : Int32) (1 : Int32) p2 p3 p5 ar56 h56 n0 Zs (by decide) A_b56b8b15 E_b56b8b15) eT pd_9 rfl (by rw [hml]; rfl) (by decide) 0 rfl (by decide) (by decide) (by decide) 98 rfl ?_
        intro T95 L9 v9 X hQ
        obtain ⟨rfl, N9, eT⟩ := hQ
        have N := Fr.app N N9
        show Go p e below _ T95 (mkF m 98 #[.val (.int p1), .val (.int p2), .val (.int p3), .val (.int p4), .val (.int p5), .val (.ref b0), .val (.int (1 : Int32)), .val (.ref b56b8b15)] [(.int (f11 (1 : Int32) (1 : Int32) p2 p3 p5 ar56))])
        have c98 : ¬ (f11 (1 : Int32) (1 : Int32) p2 p3 p5 ar56) = (0 : Int32) := own_okv _ _ _ _ _ (24 : Int32) _ (by decide) (by decide) (by decide) (by rw [← ear56]; refine (own_cpi (own_ck h3.2 (by decide) (Nat.lt_of_lt_of_le (by decide) h3.1) (by decide))).trans ?_; rw [← ear39]; rfl)
        refine own_if_eq X hx hby at_98 197 101 (by decide) rfl (fun q => absurd q c98) (fun _ => ?_)
        refine own_aload X hx hby (.ref b56b8b15) at_101 rfl rfl 103 rfl ?_
        refine own_iconst X hx hby (2 : Int32) at_103 rfl 104 rfl ?_
        refine own_iload X hx hby (1 : Int32) at_104 rfl 106 rfl ?_
        refine own_iloadN X hx hby p2 at_106 rfl 107 rfl ?_
        refine own_iloadN X hx hby p3 at_107 rfl 108 rfl ?_
        refine own_iload X hx hby p5 at_108 rfl 110 rfl ?_
        refine own_callS X hx hby hZ (st := []) [(.ref b56b8b15), (.int (2 : Int32)), (.int (1 : Int32)), (.int p2), (.int p3), (.int p5)] rfl hown (hw _ (List.mem_of_getElem? (i := 63) rfl)) (hw _ (List.mem_of_getElem? (i := 64) rfl)) (hw _ (List.mem_of_getElem? (i := 65) rfl)) (hw _ (List.mem_of_getElem? (i := 66) rfl)) (by decide) at_110 (rm11 l Z a0 hw b56b8b15 (2 : Int32) (1 : Int32) p2 p3 p5 ar56 h56 n0 Zs (by decide) A_b56b8b15 E_b56b8b15) eT pd_9 rfl (by rw [hml]; rfl) (by decide) 0 rfl (by decide) (by decide) (by decide) 113 rfl ?_
        intro T110 L9 v9 X hQ
        obtain ⟨rfl, N9, eT⟩ := hQ
        have N := Fr.app N N9
        show Go p e below _ T110 (mkF m 113 #[.val (.int p1), .val (.int p2), .val (.int p3), .val (.int p4), .val (.int p5), .val (.ref b0), .val (.int (1 : Int32)), .val (.ref b56b8b15)] [(.int (f11 (2 : Int32) (1 : Int32) p2 p3 p5 ar56))])
        have c113 : ¬ (f11 (2 : Int32) (1 : Int32) p2 p3 p5 ar56) = (0 : Int32) := own_okv _ _ _ _ _ (16 : Int32) _ (by decide) (by decide) (by decide) (by rw [← ear56]; refine (own_cpi (own_ck h3.2 (by decide) (Nat.lt_of_lt_of_le (by decide) h3.1) (by decide))).trans ?_; rw [← ear39]; rfl)
        refine own_if_eq X hx hby at_113 197 116 (by decide) rfl (fun q => absurd q c113) (fun _ => ?_)
        refine own_aload X hx hby (.ref b56b8b15) at_116 rfl rfl 118 rfl ?_
        refine own_iconst X hx hby (3 : Int32) at_118 rfl 119 rfl ?_
        refine own_iload X hx hby (1 : Int32) at_119 rfl 121 rfl ?_
        refine own_iloadN X hx hby p2 at_121 rfl 122 rfl ?_
        refine own_iloadN X hx hby p3 at_122 rfl 123 rfl ?_
        refine own_iload X hx hby p5 at_123 rfl 125 rfl ?_
        refine own_callS X hx hby hZ (st := []) [(.ref b56b8b15), (.int (3 : Int32)), (.int (1 : Int32)), (.int p2), (.int p3), (.int p5)] rfl hown (hw _ (List.mem_of_getElem? (i := 63) rfl)) (hw _ (List.mem_of_getElem? (i := 64) rfl)) (hw _ (List.mem_of_getElem? (i := 65) rfl)) (hw _ (List.mem_of_getElem? (i := 66) rfl)) (by decide) at_125 (rm11 l Z a0 hw b56b8b15 (3 : Int32) (1 : Int32) p2 p3 p5 ar56 h56 n0 Zs (by decide) A_b56b8b15 E_b56b8b15) eT pd_9 rfl (by rw [hml]; rfl) (by decide) 0 rfl (by decide) (by decide) (by decide) 128 rfl ?_
        intro T125 L9 v9 X hQ
        obtain ⟨rfl, N9, eT⟩ := hQ
        have N := Fr.app N N9
        show Go p e below _ T125 (mkF m 128 #[.val (.int p1), .val (.int p2), .val (.int p3), .val (.int p4), .val (.int p5), .val (.ref b0), .val (.int (1 : Int32)), .val (.ref b56b8b15)] [(.int (f11 (3 : Int32) (1 : Int32) p2 p3 p5 ar56))])
        have c128 : ¬ (f11 (3 : Int32) (1 : Int32) p2 p3 p5 ar56) = (0 : Int32) := own_okv _ _ _ _ _ (8 : Int32) _ (by decide) (by decide) (by decide) (by rw [← ear56]; refine (own_cpi (own_ck h3.2 (by decide) (Nat.lt_of_lt_of_le (by decide) h3.1) (by decide))).trans ?_; rw [← ear39]; rfl)
        refine own_if_eq X hx hby at_128 197 131 (by decide) rfl (fun q => absurd q c128) (fun _ => ?_)
        refine own_aload X hx hby (.ref b56b8b15) at_131 rfl rfl 133 rfl ?_
        refine own_iconst X hx hby (4 : Int32) at_133 rfl 134 rfl ?_
        refine own_iload X hx hby (1 : Int32) at_134 rfl 136 rfl ?_
        refine own_iloadN X hx hby p2 at_136 rfl 137 rfl ?_
        refine own_iloadN X hx hby p3 at_137 rfl 138 rfl ?_
        refine own_iload X hx hby p5 at_138 rfl 140 rfl ?_
        refine own_callS X hx hby hZ (st := []) [(.ref b56b8b15), (.int (4 : Int32)), (.int (1 : Int32)), (.int p2), (.int p3), (.int p5)] rfl hown (hw _ (List.mem_of_getElem? (i := 63) rfl)) (hw _ (List.mem_of_getElem? (i := 64) rfl)) (hw _ (List.mem_of_getElem? (i := 65) rfl)) (hw _ (List.mem_of_getElem? (i := 66) rfl)) (by decide) at_140 (rm11 l Z a0 hw b56b8b15 (4 : Int32) (1 : Int32) p2 p3 p5 ar56 h56 n0 Zs (by decide) A_b56b8b15 E_b56b8b15) eT pd_9 rfl (by rw [hml]; rfl) (by decide) 0 rfl (by decide) (by decide) (by decide) 143 rfl ?_
        intro T140 L9 v9 X hQ
        obtain ⟨rfl, N9, eT⟩ := hQ
        have N := Fr.app N N9
        show Go p e below _ T140 (mkF m 143 #[.val (.int p1), .val (.int p2), .val (.int p3), .val (.int p4), .val (.int p5), .val (.ref b0), .val (.int (1 : Int32)), .val (.ref b56b8b15)] [(.int (f11 (4 : Int32) (1 : Int32) p2 p3 p5 ar56))])
        have c143 : ¬ (f11 (4 : Int32) (1 : Int32) p2 p3 p5 ar56) = (0 : Int32) := own_okv _ _ _ _ _ (0 : Int32) _ (by decide) (by decide) (by decide) (by rw [← ear56]; refine (own_cpi (own_ck h3.2 (by decide) (Nat.lt_of_lt_of_le (by decide) h3.1) (by decide))).trans ?_; rw [← ear39]; rfl)
        refine own_if_eq X hx hby at_143 197 146 (by decide) rfl (fun q => absurd q c143) (fun _ => ?_)
        refine own_aload X hx hby (.ref b56b8b15) at_146 rfl rfl 148 rfl ?_
        refine own_iconst X hx hby (5 : Int32) at_148 rfl 149 rfl ?_
        refine own_iload X hx hby (1 : Int32) at_149 rfl 151 rfl ?_
        refine own_iloadN X hx hby p2 at_151 rfl 152 rfl ?_
        refine own_iloadN X hx hby p3 at_152 rfl 153 rfl ?_
        refine own_iload X hx hby p5 at_153 rfl 155 rfl ?_
        refine own_callS X hx hby hZ (st := []) [(.ref b56b8b15), (.int (5 : Int32)), (.int (1 : Int32)), (.int p2), (.int p3), (.int p5)] rfl hown (hw _ (List.mem_of_getElem? (i := 63) rfl)) (hw _ (List.mem_of_getElem? (i := 64) rfl)) (hw _ (List.mem_of_getElem? (i := 65) rfl)) (hw _ (List.mem_of_getElem? (i := 66) rfl)) (by decide) at_155 (rm11 l Z a0 hw b56b8b15 (5 : Int32) (1 : Int32) p2 p3 p5 ar56 h56 n0 Zs (by decide) A_b56b8b15 E_b56b8b15) eT pd_9 rfl (by rw [hml]; rfl) (by decide) 0 rfl (by decide) (by decide) (by decide) 158 rfl ?_
        intro T155 L9 v9 X hQ
        obtain ⟨rfl, N9, eT⟩ := hQ
        have N := Fr.app N N9
        show Go p e below _ T155 (mkF m 158 #[.val (.int p1), .val (.int p2), .val (.int p3), .val (.int p4), .val (.int p5), .val (.ref b0), .val (.int (1 : Int32)), .val (.ref b56b8b15)] [(.int (f11 (5 : Int32) (1 : Int32) p2 p3 p5 ar56))])
        have c158 : ¬ (f11 (5 : Int32) (1 : Int32) p2 p3 p5 ar56) = (0 : Int32) := own_okb _ _ _ _ _ (16 : Int32) _ (by decide) (by decide) (by decide) (by rw [← ear56]; refine (own_cpi (own_ck h3.2 (by decide) (Nat.lt_of_lt_of_le (by decide) h3.1) (by decide))).trans ?_; rw [← ear39]; exact w5)
        refine own_if_eq X hx hby at_158 197 161 (by decide) rfl (fun q => absurd q c158) (fun _ => ?_)
        refine own_aload X hx hby (.ref b56b8b15) at_161 rfl rfl 163 rfl ?_
        refine own_bipush X hx hby (6 : Int32) at_163 rfl 165 rfl ?_
        refine own_iload X hx hby (1 : Int32) at_165 rfl 167 rfl ?_
        refine own_iloadN X hx hby p2 at_167 rfl 168 rfl ?_
        refine own_iloadN X hx hby p3 at_168 rfl 169 rfl ?_
        refine own_iload X hx hby p5 at_169 rfl 171 rfl ?_
        refine own_callS X hx hby hZ (st := []) [(.ref b56b8b15), (.int (6 : Int32)), (.int (1 : Int32)), (.int p2), (.int p3), (.int p5)] rfl hown (hw _ (List.mem_of_getElem? (i := 63) rfl)) (hw _ (List.mem_of_getElem? (i := 64) rfl)) (hw _ (List.mem_of_getElem? (i := 65) rfl)) (hw _ (List.mem_of_getElem? (i := 66) rfl)) (by decide) at_171 (rm11 l Z a0 hw b56b8b15 (6 : Int32) (1 : Int32) p2 p3 p5 ar56 h56 n0 Zs (by decide) A_b56b8b15 E_b56b8b15) eT pd_9 rfl (by rw [hml]; rfl) (by decide) 0 rfl (by decide) (by decide) (by decide) 174 rfl ?_
        intro T171 L9 v9 X hQ
        obtain ⟨rfl, N9, eT⟩ := hQ
        have N := Fr.app N N9
        show Go p e below _ T171 (mkF m 174 #[.val (.int p1), .val (.int p2), .val (.int p3), .val (.int p4), .val (.int p5), .val (.ref b0), .val (.int (1 : Int32)), .val (.ref b56b8b15)] [(.int (f11 (6 : Int32) (1 : Int32) p2 p3 p5 ar56))])
        have c174 : ¬ (f11 (6 : Int32) (1 : Int32) p2 p3 p5 ar56) = (0 : Int32) := own_okb _ _ _ _ _ (8 : Int32) _ (by decide) (by decide) (by decide) (by rw [← ear56]; refine (own_cpi (own_ck h3.2 (by decide) (Nat.lt_of_lt_of_le (by decide) h3.1) (by decide))).trans ?_; rw [← ear39]; exact w6)
        refine own_if_eq X hx hby at_174 197 177 (by decide) rfl (fun q => absurd q c174) (fun _ => ?_)
        refine own_aload X hx hby (.ref b56b8b15) at_177 rfl rfl 179 rfl ?_
        refine own_bipush X hx hby (7 : Int32) at_179 rfl 181 rfl ?_
        refine own_iload X hx hby (1 : Int32) at_181 rfl 183 rfl ?_
        refine own_iloadN X hx hby p2 at_183 rfl 184 rfl ?_
        refine own_iloadN X hx hby p3 at_184 rfl 185 rfl ?_
        refine own_iload X hx hby p5 at_185 rfl 187 rfl ?_
        refine own_callS X hx hby hZ (st := []) [(.ref b56b8b15), (.int (7 : Int32)), (.int (1 : Int32)), (.int p2), (.int p3), (.int p5)] rfl hown (hw _ (List.mem_of_getElem? (i := 63) rfl)) (hw _ (List.mem_of_getElem? (i := 64) rfl)) (hw _ (List.mem_of_getElem? (i := 65) rfl)) (hw _ (List.mem_of_getElem? (i := 66) rfl)) (by decide) at_187 (rm11 l Z a0 hw b56b8b15 (7 : Int32) (1 : Int32) p2 p3 p5 ar56 h56 n0 Zs (by decide) A_b56b8b15 E_b56b8b15) eT pd_9 rfl (by rw [hml]; rfl) (by decide) 0 rfl (by decide) (by decide) (by decide) 190 rfl ?_
        intro T187 L9 v9 X hQ
        obtain ⟨rfl, N9, eT⟩ := hQ
        have N := Fr.app N N9
        show Go p e below _ T187 (mkF m 190 #[.val (.int p1), .val (.int p2), .val (.int p3), .val (.int p4), .val (.int p5), .val (.ref b0), .val (.int (1 : Int32)), .val (.ref b56b8b15)] [(.int (f11 (7 : Int32) (1 : Int32) p2 p3 p5 ar56))])
        have c190 : ¬ (f11 (7 : Int32) (1 : Int32) p2 p3 p5 ar56) = (0 : Int32) := own_okb _ _ _ _ _ (0 : Int32) _ (by decide) (by decide) (by decide) (by rw [← ear56]; refine (own_cpi (own_ck h3.2 (by decide) (Nat.lt_of_lt_of_le (by decide) h3.1) (by decide))).trans ?_; rw [← ear39]; exact w7)
        refine own_if_eq X hx hby at_190 197 193 (by decide) rfl (fun q => absurd q c190) (fun _ => ?_)
        refine own_iconst X hx hby (1 : Int32) at_193 rfl 194 rfl ?_
        refine own_goto X hx hby at_194 198 (by decide) ?_
        refine own_retN X hx hby hret hlk (t := .boolean) (z' := (1 : Int32)) (by simp) at_198 (by decide) (by decide) rfl ?_
        rw [eT]
        exact ⟨rfl, N⟩
    · skip
      refine own_aload X hx hby (.ref b0) at_33 rfl rfl 35 rfl ?_
      refine own_iload X hx hby (2 : Int32) at_35 rfl 37 rfl ?_
      refine own_iload X hx hby p5 at_37 rfl 39 rfl ?_
      refine own_callV X hx hby hZ (st := []) [(.int (2 : Int32)), (.int p5)] rfl hown (hw _ (List.mem_of_getElem? (i := 39) rfl)) (hw _ (List.mem_of_getElem? (i := 40) rfl)) (hw _ (List.mem_of_getElem? (i := 42) rfl)) (hw _ (List.mem_of_getElem? (i := 41) rfl)) (hw _ (List.mem_of_getElem? (i := 2) rfl)) (hw _ (List.mem_of_getElem? (i := 43) rfl)) E_b0 (by decide) at_39 (rm8_2 l Z a0 hw b0 p5 b22b2b35b15 ar22 n3 (8 : Int32) h22 n0 Zs h3.1 A_b22b2b35b15 E_b22b2b35b15 g_b22b2b35b15 E_b0 F_bytes_b0 F_length_b0 g_b0) eT pd_6 rfl (by rw [hml]; rfl) (by decide) 0 rfl (by decide) (by decide) (by decide) 42 rfl ?_
      intro T39 L9 v9 X hQ
      obtain ⟨h39, eT⟩ : ∃ z, T39.heap = z := ⟨_, rfl⟩
      rw [eT] at hQ
      obtain ⟨rfl, N9, Kc, A_b22b2b35b15, E_b22b2b35b15⟩ := hQ
      have E_b0 := E_b0.keep Kc
      have F_bytes_b0 := F_bytes_b0.keep Kc (ninS ne_b0_b22b2b35b15 nin0)
      have F_length_b0 := F_length_b0.keep Kc (ninS ne_b0_b22b2b35b15 nin0)
      have A_b8b6 := A_b8b6.keep Kc (ninS ne_b8b6_b22b2b35b15 nin0)
      have E_b8b6 := E_b8b6.keep Kc
      have A_b16b2b35b15 := A_b16b2b35b15.keep Kc (ninS ne_b16b2b35b15_b22b2b35b15 nin0)
      have E_b16b2b35b15 := E_b16b2b35b15.keep Kc
      obtain ⟨ar39, ear39⟩ : ∃ z : Nat → Int32, (updI (updI (updI (updI ar22 2 (nar .byte (((p5.toUInt32 >>> ((24 : Int32) &&& 31).toUInt32).toInt32).toInt8.toInt32))) 3 (nar .byte (((p5.toUInt32 >>> ((16 : Int32) &&& 31).toUInt32).toInt32).toInt8.toInt32))) 4 (nar .byte (((p5.toUInt32 >>> ((8 : Int32) &&& 31).toUInt32).toInt32).toInt8.toInt32))) 5 (nar .byte (((p5.toUInt32 >>> ((0 : Int32) &&& 31).toUInt32).toInt32).toInt8.toInt32))) = z := ⟨_, rfl⟩
      rw [ear39] at A_b22b2b35b15
      have K := K.trans Kc (allS (Or.inr sz_b22b2b35b15) all0)
      have Zs := Nat.le_trans Zs Kc.1
      have N := Fr.app N N9
      show Go p e below _ T39 (mkF m 42 #[.val (.int p1), .val (.int p2), .val (.int p3), .val (.int p4), .val (.int p5), .val (.ref b0), .val (.int (2 : Int32)), .unset] [])
      refine own_aload X hx hby (.ref b0) at_42 rfl rfl 44 rfl ?_
      refine own_callV X hx hby hZ (st := []) [] rfl hown (hw _ (List.mem_of_getElem? (i := 44) rfl)) (hw _ (List.mem_of_getElem? (i := 45) rfl)) (hw _ (List.mem_of_getElem? (i := 47) rfl)) (hw _ (List.mem_of_getElem? (i := 46) rfl)) (hw _ (List.mem_of_getElem? (i := 2) rfl)) (hw _ (List.mem_of_getElem? (i := 48) rfl)) E_b0 (by decide) at_44 (rm9 l Z a0 hw b0 h39 n0 Zs F_length_b0) eT pd_0 rfl (by rw [hml]; rfl) (by decide) 0 rfl (by decide) (by decide) (by decide) 47 rfl ?_
      intro T44 L9 v9 X hQ
      obtain ⟨rfl, N9, eT⟩ := hQ
      have N := Fr.app N N9
      show Go p e below _ T44 (mkF m 47 #[.val (.int p1), .val (.int p2), .val (.int p3), .val (.int p4), .val (.int p5), .val (.ref b0), .val (.int (2 : Int32)), .unset] [(.int (8 : Int32))])
      refine own_bipush X hx hby (8 : Int32) at_47 rfl 49 rfl ?_
      have c49 : (8 : Int32) = (8 : Int32) := by decide
      refine own_icmp_eq X hx hby at_49 54 52 (by decide) rfl (fun _ => ?_) (fun q => absurd c49 q)
      refine own_aload X hx hby (.ref b0) at_54 rfl rfl 56 rfl ?_
      by_cases q8 : n3 = 8
      · skip
        subst q8
        refine own_callV X hx hby hZ (st := []) [] rfl hown (hw _ (List.mem_of_getElem? (i := 49) rfl)) (hw _ (List.mem_of_getElem? (i := 50) rfl)) (hw _ (List.mem_of_getElem? (i := 52) rfl)) (hw _ (List.mem_of_getElem? (i := 51) rfl)) (hw _ (List.mem_of_getElem? (i := 2) rfl)) (hw _ (List.mem_of_getElem? (i := 53) rfl)) E_b0 (by decide) at_56 (rm10_c l Z a0 hw b0 b22b2b35b15 ar39 h39 n0 Zs A_b22b2b35b15 E_b22b2b35b15 F_bytes_b0 F_length_b0) eT pd_3 rfl (by rw [hml]; rfl) (by decide) 0 rfl (by decide) (by decide) (by decide) 59 rfl ?_
        intro T56 L9 v9 X hQ
        obtain ⟨h56, eT⟩ : ∃ z, T56.heap = z := ⟨_, rfl⟩
        rw [eT] at hQ
        have lt_b0 := E_b0.lt
        have lt_b16b2b35b15 := A_b16b2b35b15.lt
        have lt_b22b2b35b15 := A_b22b2b35b15.lt
        have lt_b8b6 := A_b8b6.lt
        obtain ⟨b56b8b7, rfl, N9, Kc, hs_b56b8b7, A_b56b8b7, E_b56b8b7⟩ := hQ
        have g_b56b8b7 : n0 ≤ b56b8b7 := Nat.le_trans Zs hs_b56b8b7
        have sz_b56b8b7 : h0.size ≤ b56b8b7 := Nat.le_trans K.1 hs_b56b8b7
        have ne_b0_b56b8b7 : b0 ≠ b56b8b7 := Nat.ne_of_lt (Nat.lt_of_lt_of_le lt_b0 hs_b56b8b7)
        have ne_b16b2b35b15_b56b8b7 : b16b2b35b15 ≠ b56b8b7 := Nat.ne_of_lt (Nat.lt_of_lt_of_le lt_b16b2b35b15 hs_b56b8b7)
        have ne_b22b2b35b15_b56b8b7 : b22b2b35b15 ≠ b56b8b7 := Nat.ne_of_lt (Nat.lt_of_lt_of_le lt_b22b2b35b15 hs_b56b8b7)
        have ne_b8b6_b56b8b7 : b8b6 ≠ b56b8b7 := Nat.ne_of_lt (Nat.lt_of_lt_of_le lt_b8b6 hs_b56b8b7)
        have E_b0 := E_b0.keep Kc
        have F_bytes_b0 := F_bytes_b0.keep Kc nin0
        have F_length_b0 := F_length_b0.keep Kc nin0
        have A_b8b6 := A_b8b6.keep Kc nin0
        have E_b8b6 := E_b8b6.keep Kc
        have A_b16b2b35b15 := A_b16b2b35b15.keep Kc nin0
        have E_b16b2b35b15 := E_b16b2b35b15.keep Kc
        have A_b22b2b35b15 := A_b22b2b35b15.keep Kc nin0
        have E_b22b2b35b15 := E_b22b2b35b15.keep Kc
        have K := K.trans Kc all0
        have Zs := Nat.le_trans Zs Kc.1
        have N := Fr.app N N9
        show Go p e below _ T56 (mkF m 59 #[.val (.int p1), .val (.int p2), .val (.int p3), .val (.int p4), .val (.int p5), .val (.ref b0), .val (.int (2 : Int32)), .unset] [(.ref b56b8b7)])
        refine own_astore X hx hby at_59 rfl (l' := #[.val (.int p1), .val (.int p2), .val (.int p3), .val (.int p4), .val (.int p5), .val (.ref b0), .val (.int (2 : Int32)), .val (.ref b56b8b7)]) rfl 61 rfl ?_
        refine own_aload X hx hby (.ref b56b8b7) at_61 rfl rfl 63 rfl ?_
        refine own_arraylength X hx hby hZ (8 : Int32) eT A_b56b8b7 rfl at_63 64 rfl ?_
        refine own_bipush X hx hby (8 : Int32) at_64 rfl 66 rfl ?_
        have c66 : (8 : Int32) = (8 : Int32) := by decide
        refine own_icmp_eq X hx hby at_66 71 69 (by decide) rfl (fun _ => ?_) (fun q => absurd c66 q)
        refine own_aload X hx hby (.ref b56b8b7) at_71 rfl rfl 73 rfl ?_
        refine own_iconst X hx hby (0 : Int32) at_73 rfl 74 rfl ?_
        refine own_iload X hx hby (2 : Int32) at_74 rfl 76 rfl ?_
        refine own_iloadN X hx hby p2 at_76 rfl 77 rfl ?_
        refine own_iloadN X hx hby p3 at_77 rfl 78 rfl ?_
        refine own_iload X hx hby p5 at_78 rfl 80 rfl ?_
        refine own_callS X hx hby hZ (st := []) [(.ref b56b8b7), (.int (0 : Int32)), (.int (2 : Int32)), (.int p2), (.int p3), (.int p5)] rfl hown (hw _ (List.mem_of_getElem? (i := 63) rfl)) (hw _ (List.mem_of_getElem? (i := 64) rfl)) (hw _ (List.mem_of_getElem? (i := 65) rfl)) (hw _ (List.mem_of_getElem? (i := 66) rfl)) (by decide) at_80 (rm11 l Z a0 hw b56b8b7 (0 : Int32) (2 : Int32) p2 p3 p5 ar39 h56 n0 Zs (by decide) A_b56b8b7 E_b56b8b7) eT pd_9 rfl (by rw [hml]; rfl) (by decide) 0 rfl (by decide) (by decide) (by decide) 83 rfl ?_
        intro T80 L9 v9 X hQ
        obtain ⟨rfl, N9, eT⟩ := hQ
        have N := Fr.app N N9
        show Go p e below _ T80 (mkF m 83 #[.val (.int p1), .val (.int p2), .val (.int p3), .val (.int p4), .val (.int p5), .val (.ref b0), .val (.int (2 : Int32)), .val (.ref b56b8b7)] [(.int (f11 (0 : Int32) (2 : Int32) p2 p3 p5 ar39))])
        have c83 : ¬ (f11 (0 : Int32) (2 : Int32) p2 p3 p5 ar39) = (0 : Int32) := own_oka _ _ _ _ _ (24 : Int32) _ (by decide) (by decide) (by decide) (by rw [← ear39]; exact w0)
        refine own_if_eq X hx hby at_83 197 86 (by decide) rfl (fun q => absurd q c83) (fun _ => ?_)
        refine own_aload X hx hby (.ref b56b8b7) at_86 rfl rfl 88 rfl ?_
        refine own_iconst X hx hby (1 : Int32) at_88 rfl 89 rfl ?_
        refine own_iload X hx hby (2 : Int32) at_89 rfl 91 rfl ?_
        refine own_iloadN X hx hby p2 at_91 rfl 92 rfl ?_
        refine own_iloadN X hx hby p3 at_92 rfl 93 rfl ?_
        refine own_iload X hx hby p5 at_93 rfl 95 rfl ?_
        refine own_callS X hx hby hZ (st := []) [(.ref b56b8b7), (.int (1 : Int32)), (.int (2 : Int32)), (.int p2), (.int p3), (.int p5)] rfl hown (hw _ (List.mem_of_getElem? (i := 63) rfl)) (hw _ (List.mem_of_getElem? (i := 64) rfl)) (hw _ (List.mem_of_getElem? (i := 65) rfl)) (hw _ (List.mem_of_getElem? (i := 66) rfl)) (by decide) at_95 (rm11 l Z a0 hw b56b8b7 (1 : Int32) (2 : Int32) p2 p3 p5 ar39 h56 n0 Zs (by decide) A_b56b8b7 E_b56b8b7) eT pd_9 rfl (by rw [hml]; rfl) (by decide) 0 rfl (by decide) (by decide) (by decide) 98 rfl ?_
        intro T95 L9 v9 X hQ
        obtain ⟨rfl, N9, eT⟩ := hQ
        have N := Fr.app N N9
        show Go p e below _ T95 (mkF m 98 #[.val (.int p1), .val (.int p2), .val (.int p3), .val (.int p4), .val (.int p5), .val (.ref b0), .val (.int (2 : Int32)), .val (.ref b56b8b7)] [(.int (f11 (1 : Int32) (2 : Int32) p2 p3 p5 ar39))])
        have c98 : ¬ (f11 (1 : Int32) (2 : Int32) p2 p3 p5 ar39) = (0 : Int32) := own_oka _ _ _ _ _ (16 : Int32) _ (by decide) (by decide) (by decide) (by rw [← ear39]; exact w1)
        refine own_if_eq X hx hby at_98 197 101 (by decide) rfl (fun q => absurd q c98) (fun _ => ?_)
        refine own_aload X hx hby (.ref b56b8b7) at_101 rfl rfl 103 rfl ?_
        refine own_iconst X hx hby (2 : Int32) at_103 rfl 104 rfl ?_
        refine own_iload X hx hby (2 : Int32) at_104 rfl 106 rfl ?_
        refine own_iloadN X hx hby p2 at_106 rfl 107 rfl ?_
        refine own_iloadN X hx hby p3 at_107 rfl 108 rfl ?_
        refine own_iload X hx hby p5 at_108 rfl 110 rfl ?_
        refine own_callS X hx hby hZ (st := []) [(.ref b56b8b7), (.int (2 : Int32)), (.int (2 : Int32)), (.int p2), (.int p3), (.int p5)] rfl hown (hw _ (List.mem_of_getElem? (i := 63) rfl)) (hw _ (List.mem_of_getElem? (i := 64) rfl)) (hw _ (List.mem_of_getElem? (i := 65) rfl)) (hw _ (List.mem_of_getElem? (i := 66) rfl)) (by decide) at_110 (rm11 l Z a0 hw b56b8b7 (2 : Int32) (2 : Int32) p2 p3 p5 ar39 h56 n0 Zs (by decide) A_b56b8b7 E_b56b8b7) eT pd_9 rfl (by rw [hml]; rfl) (by decide) 0 rfl (by decide) (by decide) (by decide) 113 rfl ?_
        intro T110 L9 v9 X hQ
        obtain ⟨rfl, N9, eT⟩ := hQ
        have N := Fr.app N N9
        show Go p e below _ T110 (mkF m 113 #[.val (.int p1), .val (.int p2), .val (.int p3), .val (.int p4), .val (.int p5), .val (.ref b0), .val (.int (2 : Int32)), .val (.ref b56b8b7)] [(.int (f11 (2 : Int32) (2 : Int32) p2 p3 p5 ar39))])
        have c113 : ¬ (f11 (2 : Int32) (2 : Int32) p2 p3 p5 ar39) = (0 : Int32) := own_okv _ _ _ _ _ (24 : Int32) _ (by decide) (by decide) (by decide) (by rw [← ear39]; rfl)
        refine own_if_eq X hx hby at_113 197 116 (by decide) rfl (fun q => absurd q c113) (fun _ => ?_)
        refine own_aload X hx hby (.ref b56b8b7) at_116 rfl rfl 118 rfl ?_
        refine own_iconst X hx hby (3 : Int32) at_118 rfl 119 rfl ?_
        refine own_iload X hx hby (2 : Int32) at_119 rfl 121 rfl ?_
        refine own_iloadN X hx hby p2 at_121 rfl 122 rfl ?_
        refine own_iloadN X hx hby p3 at_122 rfl 123 rfl ?_
        refine own_iload X hx hby p5 at_123 rfl 125 rfl ?_
        refine own_callS X hx hby hZ (st := []) [(.ref b56b8b7), (.int (3 : Int32)), (.int (2 : Int32)), (.int p2), (.int p3), (.int p5)] rfl hown (hw _ (List.mem_of_getElem? (i := 63) rfl)) (hw _ (List.mem_of_getElem? (i := 64) rfl)) (hw _ (List.mem_of_getElem? (i := 65) rfl)) (hw _ (List.mem_of_getElem? (i := 66) rfl)) (by decide) at_125 (rm11 l Z a0 hw b56b8b7 (3 : Int32) (2 : Int32) p2 p3 p5 ar39 h56 n0 Zs (by decide) A_b56b8b7 E_b56b8b7) eT pd_9 rfl (by rw [hml]; rfl) (by decide) 0 rfl (by decide) (by decide) (by decide) 128 rfl ?_
        intro T125 L9 v9 X hQ
        obtain ⟨rfl, N9, eT⟩ := hQ
        have N := Fr.app N N9
        show Go p e below _ T125 (mkF m 128 #[.val (.int p1), .val (.int p2), .val (.int p3), .val (.int p4), .val (.int p5), .val (.ref b0), .val (.int (2 : Int32)), .val (.ref b56b8b7)] [(.int (f11 (3 : Int32) (2 : Int32) p2 p3 p5 ar39))])
        have c128 : ¬ (f11 (3 : Int32) (2 : Int32) p2 p3 p5 ar39) = (0 : Int32) := own_okv _ _ _ _ _ (16 : Int32) _ (by decide) (by decide) (by decide) (by rw [← ear39]; rfl)
        refine own_if_eq X hx hby at_128 197 131 (by decide) rfl (fun q => absurd q c128) (fun _ => ?_)
        refine own_aload X hx hby (.ref b56b8b7) at_131 rfl rfl 133 rfl ?_
        refine own_iconst X hx hby (4 : Int32) at_133 rfl 134 rfl ?_
        refine own_iload X hx hby (2 : Int32) at_134 rfl 136 rfl ?_
        refine own_iloadN X hx hby p2 at_136 rfl 137 rfl ?_
        refine own_iloadN X hx hby p3 at_137 rfl 138 rfl ?_
        refine own_iload X hx hby p5 at_138 rfl 140 rfl ?_
        refine own_callS X hx hby hZ (st := []) [(.ref b56b8b7), (.int (4 : Int32)), (.int (2 : Int32)), (.int p2), (.int p3), (.int p5)] rfl hown (hw _ (List.mem_of_getElem? (i := 63) rfl)) (hw _ (List.mem_of_getElem? (i := 64) rfl)) (hw _ (List.mem_of_getElem? (i := 65) rfl)) (hw _ (List.mem_of_getElem? (i := 66) rfl)) (by decide) at_140 (rm11 l Z a0 hw b56b8b7 (4 : Int32) (2 : Int32) p2 p3 p5 ar39 h56 n0 Zs (by decide) A_b56b8b7 E_b56b8b7) eT pd_9 rfl (by rw [hml]; rfl) (by decide) 0 rfl (by decide) (by decide) (by decide) 143 rfl ?_
        intro T140 L9 v9 X hQ
        obtain ⟨rfl, N9, eT⟩ := hQ
        have N := Fr.app N N9
        show Go p e below _ T140 (mkF m 143 #[.val (.int p1), .val (.int p2), .val (.int p3), .val (.int p4), .val (.int p5), .val (.ref b0), .val (.int (2 : Int32)), .val (.ref b56b8b7)] [(.int (f11 (4 : Int32) (2 : Int32) p2 p3 p5 ar39))])
        have c143 : ¬ (f11 (4 : Int32) (2 : Int32) p2 p3 p5 ar39) = (0 : Int32) := own_okv _ _ _ _ _ (8 : Int32) _ (by decide) (by decide) (by decide) (by rw [← ear39]; rfl)
        refine own_if_eq X hx hby at_143 197 146 (by decide) rfl (fun q => absurd q c143) (fun _ => ?_)
        refine own_aload X hx hby (.ref b56b8b7) at_146 rfl rfl 148 rfl ?_
        refine own_iconst X hx hby (5 : Int32) at_148 rfl 149 rfl ?_
        refine own_iload X hx hby (2 : Int32) at_149 rfl 151 rfl ?_
        refine own_iloadN X hx hby p2 at_151 rfl 152 rfl ?_
        refine own_iloadN X hx hby p3 at_152 rfl 153 rfl ?_
        refine own_iload X hx hby p5 at_153 rfl 155 rfl ?_
        refine own_callS X hx hby hZ (st := []) [(.ref b56b8b7), (.int (5 : Int32)), (.int (2 : Int32)), (.int p2), (.int p3), (.int p5)] rfl hown (hw _ (List.mem_of_getElem? (i := 63) rfl)) (hw _ (List.mem_of_getElem? (i := 64) rfl)) (hw _ (List.mem_of_getElem? (i := 65) rfl)) (hw _ (List.mem_of_getElem? (i := 66) rfl)) (by decide) at_155 (rm11 l Z a0 hw b56b8b7 (5 : Int32) (2 : Int32) p2 p3 p5 ar39 h56 n0 Zs (by decide) A_b56b8b7 E_b56b8b7) eT pd_9 rfl (by rw [hml]; rfl) (by decide) 0 rfl (by decide) (by decide) (by decide) 158 rfl ?_
        intro T155 L9 v9 X hQ
        obtain ⟨rfl, N9, eT⟩ := hQ
        have N := Fr.app N N9
        show Go p e below _ T155 (mkF m 158 #[.val (.int p1), .val (.int p2), .val (.int p3), .val (.int p4), .val (.int p5), .val (.ref b0), .val (.int (2 : Int32)), .val (.ref b56b8b7)] [(.int (f11 (5 : Int32) (2 : Int32) p2 p3 p5 ar39))])
        have c158 : ¬ (f11 (5 : Int32) (2 : Int32) p2 p3 p5 ar39) = (0 : Int32) := own_okv _ _ _ _ _ (0 : Int32) _ (by decide) (by decide) (by decide) (by rw [← ear39]; rfl)
        refine own_if_eq X hx hby at_158 197 161 (by decide) rfl (fun q => absurd q c158) (fun _ => ?_)
        refine own_aload X hx hby (.ref b56b8b7) at_161 rfl rfl 163 rfl ?_
        refine own_bipush X hx hby (6 : Int32) at_163 rfl 165 rfl ?_
        refine own_iload X hx hby (2 : Int32) at_165 rfl 167 rfl ?_
        refine own_iloadN X hx hby p2 at_167 rfl 168 rfl ?_
        refine own_iloadN X hx hby p3 at_168 rfl 169 rfl ?_
        refine own_iload X hx hby p5 at_169 rfl 171 rfl ?_
        refine own_callS X hx hby hZ (st := []) [(.ref b56b8b7), (.int (6 : Int32)), (.int (2 : Int32)), (.int p2), (.int p3), (.int p5)] rfl hown (hw _ (List.mem_of_getElem? (i := 63) rfl)) (hw _ (List.mem_of_getElem? (i := 64) rfl)) (hw _ (List.mem_of_getElem? (i := 65) rfl)) (hw _ (List.mem_of_getElem? (i := 66) rfl)) (by decide) at_171 (rm11 l Z a0 hw b56b8b7 (6 : Int32) (2 : Int32) p2 p3 p5 ar39 h56 n0 Zs (by decide) A_b56b8b7 E_b56b8b7) eT pd_9 rfl (by rw [hml]; rfl) (by decide) 0 rfl (by decide) (by decide) (by decide) 174 rfl ?_
        intro T171 L9 v9 X hQ
        obtain ⟨rfl, N9, eT⟩ := hQ
        have N := Fr.app N N9
        show Go p e below _ T171 (mkF m 174 #[.val (.int p1), .val (.int p2), .val (.int p3), .val (.int p4), .val (.int p5), .val (.ref b0), .val (.int (2 : Int32)), .val (.ref b56b8b7)] [(.int (f11 (6 : Int32) (2 : Int32) p2 p3 p5 ar39))])
        have c174 : ¬ (f11 (6 : Int32) (2 : Int32) p2 p3 p5 ar39) = (0 : Int32) := own_okb _ _ _ _ _ (8 : Int32) _ (by decide) (by decide) (by decide) (by rw [← ear39]; exact w6)
        refine own_if_eq X hx hby at_174 197 177 (by decide) rfl (fun q => absurd q c174) (fun _ => ?_)
        refine own_aload X hx hby (.ref b56b8b7) at_177 rfl rfl 179 rfl ?_
        refine own_bipush X hx hby (7 : Int32) at_179 rfl 181 rfl ?_
        refine own_iload X hx hby (2 : Int32) at_181 rfl 183 rfl ?_
        refine own_iloadN X hx hby p2 at_183 rfl 184 rfl ?_
        refine own_iloadN X hx hby p3 at_184 rfl 185 rfl ?_
        refine own_iload X hx hby p5 at_185 rfl 187 rfl ?_
        refine own_callS X hx hby hZ (st := []) [(.ref b56b8b7), (.int (7 : Int32)), (.int (2 : Int32)), (.int p2), (.int p3), (.int p5)] rfl hown (hw _ (List.mem_of_getElem? (i := 63) rfl)) (hw _ (List.mem_of_getElem? (i := 64) rfl)) (hw _ (List.mem_of_getElem? (i := 65) rfl)) (hw _ (List.mem_of_getElem? (i := 66) rfl)) (by decide) at_187 (rm11 l Z a0 hw b56b8b7 (7 : Int32) (2 : Int32) p2 p3 p5 ar39 h56 n0 Zs (by decide) A_b56b8b7 E_b56b8b7) eT pd_9 rfl (by rw [hml]; rfl) (by decide) 0 rfl (by decide) (by decide) (by decide) 190 rfl ?_
        intro T187 L9 v9 X hQ
        obtain ⟨rfl, N9, eT⟩ := hQ
        have N := Fr.app N N9
        show Go p e below _ T187 (mkF m 190 #[.val (.int p1), .val (.int p2), .val (.int p3), .val (.int p4), .val (.int p5), .val (.ref b0), .val (.int (2 : Int32)), .val (.ref b56b8b7)] [(.int (f11 (7 : Int32) (2 : Int32) p2 p3 p5 ar39))])
        have c190 : ¬ (f11 (7 : Int32) (2 : Int32) p2 p3 p5 ar39) = (0 : Int32) := own_okb _ _ _ _ _ (0 : Int32) _ (by decide) (by decide) (by decide) (by rw [← ear39]; exact w7)
        refine own_if_eq X hx hby at_190 197 193 (by decide) rfl (fun q => absurd q c190) (fun _ => ?_)
        refine own_iconst X hx hby (1 : Int32) at_193 rfl 194 rfl ?_
        refine own_goto X hx hby at_194 198 (by decide) ?_
        refine own_retN X hx hby hret hlk (t := .boolean) (z' := (1 : Int32)) (by simp) at_198 (by decide) (by decide) rfl ?_
        rw [eT]
        exact ⟨rfl, N⟩
      · skip
        refine own_callV X hx hby hZ (st := []) [] rfl hown (hw _ (List.mem_of_getElem? (i := 49) rfl)) (hw _ (List.mem_of_getElem? (i := 50) rfl)) (hw _ (List.mem_of_getElem? (i := 52) rfl)) (hw _ (List.mem_of_getElem? (i := 51) rfl)) (hw _ (List.mem_of_getElem? (i := 2) rfl)) (hw _ (List.mem_of_getElem? (i := 53) rfl)) E_b0 (by decide) at_56 (rm10_n l Z a0 hw b0 b22b2b35b15 ar39 n3 h39 n0 Zs (own_n8 q8 h3.2) h3.2 A_b22b2b35b15 E_b22b2b35b15 F_bytes_b0 F_length_b0) eT pd_3 rfl (by rw [hml]; rfl) (by decide) 0 rfl (by decide) (by decide) (by decide) 59 rfl ?_
        intro T56 L9 v9 X hQ
        obtain ⟨h56, eT⟩ : ∃ z, T56.heap = z := ⟨_, rfl⟩
        rw [eT] at hQ
        have lt_b0 := E_b0.lt
        have lt_b16b2b35b15 := A_b16b2b35b15.lt
        have lt_b22b2b35b15 := A_b22b2b35b15.lt
        have lt_b8b6 := A_b8b6.lt
        obtain ⟨b56b8b15, rfl, N9, Kc, hs_b56b8b15, A_b56b8b15, E_b56b8b15⟩ := hQ
        have g_b56b8b15 : n0 ≤ b56b8b15 := Nat.le_trans Zs hs_b56b8b15
        have sz_b56b8b15 : h0.size ≤ b56b8b15 := Nat.le_trans K.1 hs_b56b8b15
        have ne_b0_b56b8b15 : b0 ≠ b56b8b15 := Nat.ne_of_lt (Nat.lt_of_lt_of_le lt_b0 hs_b56b8b15)
        have ne_b16b2b35b15_b56b8b15 : b16b2b35b15 ≠ b56b8b15 := Nat.ne_of_lt (Nat.lt_of_lt_of_le lt_b16b2b35b15 hs_b56b8b15)
        have ne_b22b2b35b15_b56b8b15 : b22b2b35b15 ≠ b56b8b15 := Nat.ne_of_lt (Nat.lt_of_lt_of_le lt_b22b2b35b15 hs_b56b8b15)
        have ne_b8b6_b56b8b15 : b8b6 ≠ b56b8b15 := Nat.ne_of_lt (Nat.lt_of_lt_of_le lt_b8b6 hs_b56b8b15)
        have E_b0 := E_b0.keep Kc
        have F_bytes_b0 := F_bytes_b0.keep Kc nin0
        have F_length_b0 := F_length_b0.keep Kc nin0
        have A_b8b6 := A_b8b6.keep Kc nin0
        have E_b8b6 := E_b8b6.keep Kc
        have A_b16b2b35b15 := A_b16b2b35b15.keep Kc nin0
        have E_b16b2b35b15 := E_b16b2b35b15.keep Kc
        have A_b22b2b35b15 := A_b22b2b35b15.keep Kc nin0
        have E_b22b2b35b15 := E_b22b2b35b15.keep Kc
        obtain ⟨ar56, ear56⟩ : ∃ z : Nat → Int32, (own_cp ar39 (Int32.toNatClampNeg (f7 (Int32.ofNat n3) (8 : Int32)))) = z := ⟨_, rfl⟩
        rw [ear56] at A_b56b8b15
        have K := K.trans Kc all0
        have Zs := Nat.le_trans Zs Kc.1
        have N := Fr.app N N9
        show Go p e below _ T56 (mkF m 59 #[.val (.int p1), .val (.int p2), .val (.int p3), .val (.int p4), .val (.int p5), .val (.ref b0), .val (.int (2 : Int32)), .unset] [(.ref b56b8b15)])
        refine own_astore X hx hby at_59 rfl (l' := #[.val (.int p1), .val (.int p2), .val (.int p3), .val (.int p4), .val (.int p5), .val (.ref b0), .val (.int (2 : Int32)), .val (.ref b56b8b15)]) rfl 61 rfl ?_
        refine own_aload X hx hby (.ref b56b8b15) at_61 rfl rfl 63 rfl ?_
        refine own_arraylength X hx hby hZ (8 : Int32) eT A_b56b8b15 rfl at_63 64 rfl ?_
        refine own_bipush X hx hby (8 : Int32) at_64 rfl 66 rfl ?_
        have c66 : (8 : Int32) = (8 : Int32) := by decide
        refine own_icmp_eq X hx hby at_66 71 69 (by decide) rfl (fun _ => ?_) (fun q => absurd c66 q)
        refine own_aload X hx hby (.ref b56b8b15) at_71 rfl rfl 73 rfl ?_
        refine own_iconst X hx hby (0 : Int32) at_73 rfl 74 rfl ?_
        refine own_iload X hx hby (2 : Int32) at_74 rfl 76 rfl ?_
        refine own_iloadN X hx hby p2 at_76 rfl 77 rfl ?_
        refine own_iloadN X hx hby p3 at_77 rfl 78 rfl ?_
        refine own_iload X hx hby p5 at_78 rfl 80 rfl ?_
        refine own_callS X hx hby hZ (st := []) [(.ref b56b8b15), (.int (0 : Int32)), (.int (2 : Int32)), (.int p2), (.int p3), (.int p5)] rfl hown (hw _ (List.mem_of_getElem? (i := 63) rfl)) (hw _ (List.mem_of_getElem? (i := 64) rfl)) (hw _ (List.mem_of_getElem? (i := 65) rfl)) (hw _ (List.mem_of_getElem? (i := 66) rfl)) (by decide) at_80 (rm11 l Z a0 hw b56b8b15 (0 : Int32) (2 : Int32) p2 p3 p5 ar56 h56 n0 Zs (by decide) A_b56b8b15 E_b56b8b15) eT pd_9 rfl (by rw [hml]; rfl) (by decide) 0 rfl (by decide) (by decide) (by decide) 83 rfl ?_
        intro T80 L9 v9 X hQ
        obtain ⟨rfl, N9, eT⟩ := hQ
        have N := Fr.app N N9
        show Go p e below _ T80 (mkF m 83 #[.val (.int p1), .val (.int p2), .val (.int p3), .val (.int p4), .val (.int p5), .val (.ref b0), .val (.int (2 : Int32)), .val (.ref b56b8b15)] [(.int (f11 (0 : Int32) (2 : Int32) p2 p3 p5 ar56))])
        have c83 : ¬ (f11 (0 : Int32) (2 : Int32) p2 p3 p5 ar56) = (0 : Int32) := own_oka _ _ _ _ _ (24 : Int32) _ (by decide) (by decide) (by decide) (by rw [← ear56]; refine (own_cpi (own_ck h3.2 (by decide) (Nat.lt_of_lt_of_le (by decide) h3.1) (by decide))).trans ?_; rw [← ear39]; exact w0)
        refine own_if_eq X hx hby at_83 197 86 (by decide) rfl (fun q => absurd q c83) (fun _ => ?_)
        refine own_aload X hx hby (.ref b56b8b15) at_86 rfl rfl 88 rfl ?_
        refine own_iconst X hx hby (1 : Int32) at_88 rfl 89 rfl ?_
        refine own_iload X hx hby (2 : Int32) at_89 rfl 91 rfl ?_
        refine own_iloadN X hx hby p2 at_91 rfl 92 rfl ?_
        refine own_iloadN X hx hby p3 at_92 rfl 93 rfl ?_
        refine own_iload X hx hby p5 at_93 rfl 95 rfl ?_
        refine own_callS X hx hby hZ (st := []) [(.ref b56b8b15), (.int (1 : Int32)), (.int (2 : Int32)), (.int p2), (.int p3), (.int p5)] rfl hown (hw _ (List.mem_of_getElem? (i := 63) rfl)) (hw _ (List.mem_of_getElem? (i := 64) rfl)) (hw _ (List.mem_of_getElem? (i := 65) rfl)) (hw _ (List.mem_of_getElem? (i := 66) rfl)) (by decide) at_95 (rm11 l Z a0 hw b56b8b15 (1 : Int32) (2 : Int32) p2 p3 p5 ar56 h56 n0 Zs (by decide) A_b56b8b15 E_b56b8b15) eT pd_9 rfl (by rw [hml]; rfl) (by decide) 0 rfl (by decide) (by decide) (by decide) 98 rfl ?_
        intro T95 L9 v9 X hQ
        obtain ⟨rfl, N9, eT⟩ := hQ
        have N := Fr.app N N9
        show Go p e below _ T95 (mkF m 98 #[.val (.int p1), .val (.int p2), .val (.int p3), .val (.int p4), .val (.int p5), .val (.ref b0), .val (.int (2 : Int32)), .val (.ref b56b8b15)] [(.int (f11 (1 : Int32) (2 : Int32) p2 p3 p5 ar56))])
        have c98 : ¬ (f11 (1 : Int32) (2 : Int32) p2 p3 p5 ar56) = (0 : Int32) := own_oka _ _ _ _ _ (16 : Int32) _ (by decide) (by decide) (by decide) (by rw [← ear56]; refine (own_cpi (own_ck h3.2 (by decide) (Nat.lt_of_lt_of_le (by decide) h3.1) (by decide))).trans ?_; rw [← ear39]; exact w1)
        refine own_if_eq X hx hby at_98 197 101 (by decide) rfl (fun q => absurd q c98) (fun _ => ?_)
        refine own_aload X hx hby (.ref b56b8b15) at_101 rfl rfl 103 rfl ?_
        refine own_iconst X hx hby (2 : Int32) at_103 rfl 104 rfl ?_
        refine own_iload X hx hby (2 : Int32) at_104 rfl 106 rfl ?_
        refine own_iloadN X hx hby p2 at_106 rfl 107 rfl ?_
        refine own_iloadN X hx hby p3 at_107 rfl 108 rfl ?_
        refine own_iload X hx hby p5 at_108 rfl 110 rfl ?_
        refine own_callS X hx hby hZ (st := []) [(.ref b56b8b15), (.int (2 : Int32)), (.int (2 : Int32)), (.int p2), (.int p3), (.int p5)] rfl hown (hw _ (List.mem_of_getElem? (i := 63) rfl)) (hw _ (List.mem_of_getElem? (i := 64) rfl)) (hw _ (List.mem_of_getElem? (i := 65) rfl)) (hw _ (List.mem_of_getElem? (i := 66) rfl)) (by decide) at_110 (rm11 l Z a0 hw b56b8b15 (2 : Int32) (2 : Int32) p2 p3 p5 ar56 h56 n0 Zs (by decide) A_b56b8b15 E_b56b8b15) eT pd_9 rfl (by rw [hml]; rfl) (by decide) 0 rfl (by decide) (by decide) (by decide) 113 rfl ?_
        intro T110 L9 v9 X hQ
        obtain ⟨rfl, N9, eT⟩ := hQ
        have N := Fr.app N N9
        show Go p e below _ T110 (mkF m 113 #[.val (.int p1), .val (.int p2), .val (.int p3), .val (.int p4), .val (.int p5), .val (.ref b0), .val (.int (2 : Int32)), .val (.ref b56b8b15)] [(.int (f11 (2 : Int32) (2 : Int32) p2 p3 p5 ar56))])
        have c113 : ¬ (f11 (2 : Int32) (2 : Int32) p2 p3 p5 ar56) = (0 : Int32) := own_okv _ _ _ _ _ (24 : Int32) _ (by decide) (by decide) (by decide) (by rw [← ear56]; refine (own_cpi (own_ck h3.2 (by decide) (Nat.lt_of_lt_of_le (by decide) h3.1) (by decide))).trans ?_; rw [← ear39]; rfl)
        refine own_if_eq X hx hby at_113 197 116 (by decide) rfl (fun q => absurd q c113) (fun _ => ?_)
        refine own_aload X hx hby (.ref b56b8b15) at_116 rfl rfl 118 rfl ?_
        refine own_iconst X hx hby (3 : Int32) at_118 rfl 119 rfl ?_
        refine own_iload X hx hby (2 : Int32) at_119 rfl 121 rfl ?_
        refine own_iloadN X hx hby p2 at_121 rfl 122 rfl ?_
        refine own_iloadN X hx hby p3 at_122 rfl 123 rfl ?_
        refine own_iload X hx hby p5 at_123 rfl 125 rfl ?_
        refine own_callS X hx hby hZ (st := []) [(.ref b56b8b15), (.int (3 : Int32)), (.int (2 : Int32)), (.int p2), (.int p3), (.int p5)] rfl hown (hw _ (List.mem_of_getElem? (i := 63) rfl)) (hw _ (List.mem_of_getElem? (i := 64) rfl)) (hw _ (List.mem_of_getElem? (i := 65) rfl)) (hw _ (List.mem_of_getElem? (i := 66) rfl)) (by decide) at_125 (rm11 l Z a0 hw b56b8b15 (3 : Int32) (2 : Int32) p2 p3 p5 ar56 h56 n0 Zs (by decide) A_b56b8b15 E_b56b8b15) eT pd_9 rfl (by rw [hml]; rfl) (by decide) 0 rfl (by decide) (by decide) (by decide) 128 rfl ?_
        intro T125 L9 v9 X hQ
        obtain ⟨rfl, N9, eT⟩ := hQ
        have N := Fr.app N N9
        show Go p e below _ T125 (mkF m 128 #[.val (.int p1), .val (.int p2), .val (.int p3), .val (.int p4), .val (.int p5), .val (.ref b0), .val (.int (2 : Int32)), .val (.ref b56b8b15)] [(.int (f11 (3 : Int32) (2 : Int32) p2 p3 p5 ar56))])
        have c128 : ¬ (f11 (3 : Int32) (2 : Int32) p2 p3 p5 ar56) = (0 : Int32) := own_okv _ _ _ _ _ (16 : Int32) _ (by decide) (by decide) (by decide) (by rw [← ear56]; refine (own_cpi (own_ck h3.2 (by decide) (Nat.lt_of_lt_of_le (by decide) h3.1) (by decide))).trans ?_; rw [← ear39]; rfl)
        refine own_if_eq X hx hby at_128 197 131 (by decide) rfl (fun q => absurd q c128) (fun _ => ?_)
        refine own_aload X hx hby (.ref b56b8b15) at_131 rfl rfl 133 rfl ?_
        refine own_iconst X hx hby (4 : Int32) at_133 rfl 134 rfl ?_
        refine own_iload X hx hby (2 : Int32) at_134 rfl 136 rfl ?_
        refine own_iloadN X hx hby p2 at_136 rfl 137 rfl ?_
        refine own_iloadN X hx hby p3 at_137 rfl 138 rfl ?_
        refine own_iload X hx hby p5 at_138 rfl 140 rfl ?_
        refine own_callS X hx hby hZ (st := []) [(.ref b56b8b15), (.int (4 : Int32)), (.int (2 : Int32)), (.int p2), (.int p3), (.int p5)] rfl hown (hw _ (List.mem_of_getElem? (i := 63) rfl)) (hw _ (List.mem_of_getElem? (i := 64) rfl)) (hw _ (List.mem_of_getElem? (i := 65) rfl)) (hw _ (List.mem_of_getElem? (i := 66) rfl)) (by decide) at_140 (rm11 l Z a0 hw b56b8b15 (4 : Int32) (2 : Int32) p2 p3 p5 ar56 h56 n0 Zs (by decide) A_b56b8b15 E_b56b8b15) eT pd_9 rfl (by rw [hml]; rfl) (by decide) 0 rfl (by decide) (by decide) (by decide) 143 rfl ?_
        intro T140 L9 v9 X hQ
        obtain ⟨rfl, N9, eT⟩ := hQ
        have N := Fr.app N N9
        show Go p e below _ T140 (mkF m 143 #[.val (.int p1), .val (.int p2), .val (.int p3), .val (.int p4), .val (.int p5), .val (.ref b0), .val (.int (2 : Int32)), .val (.ref b56b8b15)] [(.int (f11 (4 : Int32) (2 : Int32) p2 p3 p5 ar56))])
        have c143 : ¬ (f11 (4 : Int32) (2 : Int32) p2 p3 p5 ar56) = (0 : Int32) := own_okv _ _ _ _ _ (8 : Int32) _ (by decide) (by decide) (by decide) (by rw [← ear56]; refine (own_cpi (own_ck h3.2 (by decide) (Nat.lt_of_lt_of_le (by decide) h3.1) (by decide))).trans ?_; rw [← ear39]; rfl)
        refine own_if_eq X hx hby at_143 197 146 (by decide) rfl (fun q => absurd q c143) (fun _ => ?_)
        refine own_aload X hx hby (.ref b56b8b15) at_146 rfl rfl 148 rfl ?_
        refine own_iconst X hx hby (5 : Int32) at_148 rfl 149 rfl ?_
        refine own_iload X hx hby (2 : Int32) at_149 rfl 151 rfl ?_
        refine own_iloadN X hx hby p2 at_151 rfl 152 rfl ?_
        refine own_iloadN X hx hby p3 at_152 rfl 153 rfl ?_
        refine own_iload X hx hby p5 at_153 rfl 155 rfl ?_
        refine own_callS X hx hby hZ (st := []) [(.ref b56b8b15), (.int (5 : Int32)), (.int (2 : Int32)), (.int p2), (.int p3), (.int p5)] rfl hown (hw _ (List.mem_of_getElem? (i := 63) rfl)) (hw _ (List.mem_of_getElem? (i := 64) rfl)) (hw _ (List.mem_of_getElem? (i := 65) rfl)) (hw _ (List.mem_of_getElem? (i := 66) rfl)) (by decide) at_155 (rm11 l Z a0 hw b56b8b15 (5 : Int32) (2 : Int32) p2 p3 p5 ar56 h56 n0 Zs (by decide) A_b56b8b15 E_b56b8b15) eT pd_9 rfl (by rw [hml]; rfl) (by decide) 0 rfl (by decide) (by decide) (by decide) 158 rfl ?_
        intro T155 L9 v9 X hQ
        obtain ⟨rfl, N9, eT⟩ := hQ
        have N := Fr.app N N9
        show Go p e below _ T155 (mkF m 158 #[.val (.int p1), .val (.int p2), .val (.int p3), .val (.int p4), .val (.int p5), .val (.ref b0), .val (.int (2 : Int32)), .val (.ref b56b8b15)] [(.int (f11 (5 : Int32) (2 : Int32) p2 p3 p5 ar56))])
        have c158 : ¬ (f11 (5 : Int32) (2 : Int32) p2 p3 p5 ar56) = (0 : Int32) := own_okv _ _ _ _ _ (0 : Int32) _ (by decide) (by decide) (by decide) (by rw [← ear56]; refine (own_cpi (own_ck h3.2 (by decide) (Nat.lt_of_lt_of_le (by decide) h3.1) (by decide))).trans ?_; rw [← ear39]; rfl)
        refine own_if_eq X hx hby at_158 197 161 (by decide) rfl (fun q => absurd q c158) (fun _ => ?_)
        refine own_aload X hx hby (.ref b56b8b15) at_161 rfl rfl 163 rfl ?_
        refine own_bipush X hx hby (6 : Int32) at_163 rfl 165 rfl ?_
        refine own_iload X hx hby (2 : Int32) at_165 rfl 167 rfl ?_
        refine own_iloadN X hx hby p2 at_167 rfl 168 rfl ?_
        refine own_iloadN X hx hby p3 at_168 rfl 169 rfl ?_
        refine own_iload X hx hby p5 at_169 rfl 171 rfl ?_
        refine own_callS X hx hby hZ (st := []) [(.ref b56b8b15), (.int (6 : Int32)), (.int (2 : Int32)), (.int p2), (.int p3), (.int p5)] rfl hown (hw _ (List.mem_of_getElem? (i := 63) rfl)) (hw _ (List.mem_of_getElem? (i := 64) rfl)) (hw _ (List.mem_of_getElem? (i := 65) rfl)) (hw _ (List.mem_of_getElem? (i := 66) rfl)) (by decide) at_171 (rm11 l Z a0 hw b56b8b15 (6 : Int32) (2 : Int32) p2 p3 p5 ar56 h56 n0 Zs (by decide) A_b56b8b15 E_b56b8b15) eT pd_9 rfl (by rw [hml]; rfl) (by decide) 0 rfl (by decide) (by decide) (by decide) 174 rfl ?_
        intro T171 L9 v9 X hQ
        obtain ⟨rfl, N9, eT⟩ := hQ
        have N := Fr.app N N9
        show Go p e below _ T171 (mkF m 174 #[.val (.int p1), .val (.int p2), .val (.int p3), .val (.int p4), .val (.int p5), .val (.ref b0), .val (.int (2 : Int32)), .val (.ref b56b8b15)] [(.int (f11 (6 : Int32) (2 : Int32) p2 p3 p5 ar56))])
        have c174 : ¬ (f11 (6 : Int32) (2 : Int32) p2 p3 p5 ar56) = (0 : Int32) := own_okb _ _ _ _ _ (8 : Int32) _ (by decide) (by decide) (by decide) (by rw [← ear56]; refine (own_cpi (own_ck h3.2 (by decide) (Nat.lt_of_lt_of_le (by decide) h3.1) (by decide))).trans ?_; rw [← ear39]; exact w6)
        refine own_if_eq X hx hby at_174 197 177 (by decide) rfl (fun q => absurd q c174) (fun _ => ?_)
        refine own_aload X hx hby (.ref b56b8b15) at_177 rfl rfl 179 rfl ?_
        refine own_bipush X hx hby (7 : Int32) at_179 rfl 181 rfl ?_
        refine own_iload X hx hby (2 : Int32) at_181 rfl 183 rfl ?_
        refine own_iloadN X hx hby p2 at_183 rfl 184 rfl ?_
        refine own_iloadN X hx hby p3 at_184 rfl 185 rfl ?_
        refine own_iload X hx hby p5 at_185 rfl 187 rfl ?_
        refine own_callS X hx hby hZ (st := []) [(.ref b56b8b15), (.int (7 : Int32)), (.int (2 : Int32)), (.int p2), (.int p3), (.int p5)] rfl hown (hw _ (List.mem_of_getElem? (i := 63) rfl)) (hw _ (List.mem_of_getElem? (i := 64) rfl)) (hw _ (List.mem_of_getElem? (i := 65) rfl)) (hw _ (List.mem_of_getElem? (i := 66) rfl)) (by decide) at_187 (rm11 l Z a0 hw b56b8b15 (7 : Int32) (2 : Int32) p2 p3 p5 ar56 h56 n0 Zs (by decide) A_b56b8b15 E_b56b8b15) eT pd_9 rfl (by rw [hml]; rfl) (by decide) 0 rfl (by decide) (by decide) (by decide) 190 rfl ?_
        intro T187 L9 v9 X hQ
        obtain ⟨rfl, N9, eT⟩ := hQ
        have N := Fr.app N N9
        show Go p e below _ T187 (mkF m 190 #[.val (.int p1), .val (.int p2), .val (.int p3), .val (.int p4), .val (.int p5), .val (.ref b0), .val (.int (2 : Int32)), .val (.ref b56b8b15)] [(.int (f11 (7 : Int32) (2 : Int32) p2 p3 p5 ar56))])
        have c190 : ¬ (f11 (7 : Int32) (2 : Int32) p2 p3 p5 ar56) = (0 : Int32) := own_okb _ _ _ _ _ (0 : Int32) _ (by decide) (by decide) (by decide) (by rw [← ear56]; refine (own_cpi (own_ck h3.2 (by decide) (Nat.lt_of_lt_of_le (by decide) h3.1) (by decide))).trans ?_; rw [← ear39]; exact w7)
        refine own_if_eq X hx hby at_190 197 193 (by decide) rfl (fun q => absurd q c190) (fun _ => ?_)
        refine own_iconst X hx hby (1 : Int32) at_193 rfl 194 rfl ?_
        refine own_goto X hx hby at_194 198 (by decide) ?_
        refine own_retN X hx hby hret hlk (t := .boolean) (z' := (1 : Int32)) (by simp) at_198 (by decide) (by decide) rfl ?_
        rw [eT]
        exact ⟨rfl, N⟩
    · skip
      refine own_aload X hx hby (.ref b0) at_33 rfl rfl 35 rfl ?_
      refine own_iload X hx hby (3 : Int32) at_35 rfl 37 rfl ?_
      refine own_iload X hx hby p5 at_37 rfl 39 rfl ?_
      refine own_callV X hx hby hZ (st := []) [(.int (3 : Int32)), (.int p5)] rfl hown (hw _ (List.mem_of_getElem? (i := 39) rfl)) (hw _ (List.mem_of_getElem? (i := 40) rfl)) (hw _ (List.mem_of_getElem? (i := 42) rfl)) (hw _ (List.mem_of_getElem? (i := 41) rfl)) (hw _ (List.mem_of_getElem? (i := 2) rfl)) (hw _ (List.mem_of_getElem? (i := 43) rfl)) E_b0 (by decide) at_39 (rm8_3 l Z a0 hw b0 p5 b22b2b35b15 ar22 n3 (8 : Int32) h22 n0 Zs h3.1 A_b22b2b35b15 E_b22b2b35b15 g_b22b2b35b15 E_b0 F_bytes_b0 F_length_b0 g_b0) eT pd_6 rfl (by rw [hml]; rfl) (by decide) 0 rfl (by decide) (by decide) (by decide) 42 rfl ?_
      intro T39 L9 v9 X hQ
      obtain ⟨h39, eT⟩ : ∃ z, T39.heap = z := ⟨_, rfl⟩
      rw [eT] at hQ
      obtain ⟨rfl, N9, Kc, A_b22b2b35b15, E_b22b2b35b15⟩ := hQ
      have E_b0 := E_b0.keep Kc
      have F_bytes_b0 := F_bytes_b0.keep Kc (ninS ne_b0_b22b2b35b15 nin0)
      have F_length_b0 := F_length_b0.keep Kc (ninS ne_b0_b22b2b35b15 nin0)
      have A_b8b6 := A_b8b6.keep Kc (ninS ne_b8b6_b22b2b35b15 nin0)
      have E_b8b6 := E_b8b6.keep Kc
      have A_b16b2b35b15 := A_b16b2b35b15.keep Kc (ninS ne_b16b2b35b15_b22b2b35b15 nin0)
      have E_b16b2b35b15 := E_b16b2b35b15.keep Kc
      obtain ⟨ar39, ear39⟩ : ∃ z : Nat → Int32, (updI (updI (updI (updI ar22 3 (nar .byte (((p5.toUInt32 >>> ((24 : Int32) &&& 31).toUInt32).toInt32).toInt8.toInt32))) 4 (nar .byte (((p5.toUInt32 >>> ((16 : Int32) &&& 31).toUInt32).toInt32).toInt8.toInt32))) 5 (nar .byte (((p5.toUInt32 >>> ((8 : Int32) &&& 31).toUInt32).toInt32).toInt8.toInt32))) 6 (nar .byte (((p5.toUInt32 >>> ((0 : Int32) &&& 31).toUInt32).toInt32).toInt8.toInt32))) = z := ⟨_, rfl⟩
      rw [ear39] at A_b22b2b35b15
      have K := K.trans Kc (allS (Or.inr sz_b22b2b35b15) all0)
      have Zs := Nat.le_trans Zs Kc.1
      have N := Fr.app N N9
      show Go p e below _ T39 (mkF m 42 #[.val (.int p1), .val (.int p2), .val (.int p3), .val (.int p4), .val (.int p5), .val (.ref b0), .val (.int (3 : Int32)), .unset] [])
      refine own_aload X hx hby (.ref b0) at_42 rfl rfl 44 rfl ?_
      refine own_callV X hx hby hZ (st := []) [] rfl hown (hw _ (List.mem_of_getElem? (i := 44) rfl)) (hw _ (List.mem_of_getElem? (i := 45) rfl)) (hw _ (List.mem_of_getElem? (i := 47) rfl)) (hw _ (List.mem_of_getElem? (i := 46) rfl)) (hw _ (List.mem_of_getElem? (i := 2) rfl)) (hw _ (List.mem_of_getElem? (i := 48) rfl)) E_b0 (by decide) at_44 (rm9 l Z a0 hw b0 h39 n0 Zs F_length_b0) eT pd_0 rfl (by rw [hml]; rfl) (by decide) 0 rfl (by decide) (by decide) (by decide) 47 rfl ?_
      intro T44 L9 v9 X hQ
      obtain ⟨rfl, N9, eT⟩ := hQ
      have N := Fr.app N N9
      show Go p e below _ T44 (mkF m 47 #[.val (.int p1), .val (.int p2), .val (.int p3), .val (.int p4), .val (.int p5), .val (.ref b0), .val (.int (3 : Int32)), .unset] [(.int (8 : Int32))])
      refine own_bipush X hx hby (8 : Int32) at_47 rfl 49 rfl ?_
      have c49 : (8 : Int32) = (8 : Int32) := by decide
      refine own_icmp_eq X hx hby at_49 54 52 (by decide) rfl (fun _ => ?_) (fun q => absurd c49 q)
      refine own_aload X hx hby (.ref b0) at_54 rfl rfl 56 rfl ?_
      by_cases q8 : n3 = 8
      · skip
        subst q8
        refine own_callV X hx hby hZ (st := []) [] rfl hown (hw _ (List.mem_of_getElem? (i := 49) rfl)) (hw _ (List.mem_of_getElem? (i := 50) rfl)) (hw _ (List.mem_of_getElem? (i := 52) rfl)) (hw _ (List.mem_of_getElem? (i := 51) rfl)) (hw _ (List.mem_of_getElem? (i := 2) rfl)) (hw _ (List.mem_of_getElem? (i := 53) rfl)) E_b0 (by decide) at_56 (rm10_c l Z a0 hw b0 b22b2b35b15 ar39 h39 n0 Zs A_b22b2b35b15 E_b22b2b35b15 F_bytes_b0 F_length_b0) eT pd_3 rfl (by rw [hml]; rfl) (by decide) 0 rfl (by decide) (by decide) (by decide) 59 rfl ?_
        intro T56 L9 v9 X hQ
        obtain ⟨h56, eT⟩ : ∃ z, T56.heap = z := ⟨_, rfl⟩
        rw [eT] at hQ
        have lt_b0 := E_b0.lt
        have lt_b16b2b35b15 := A_b16b2b35b15.lt
        have lt_b22b2b35b15 := A_b22b2b35b15.lt
        have lt_b8b6 := A_b8b6.lt
        obtain ⟨b56b8b7, rfl, N9, Kc, hs_b56b8b7, A_b56b8b7, E_b56b8b7⟩ := hQ
        have g_b56b8b7 : n0 ≤ b56b8b7 := Nat.le_trans Zs hs_b56b8b7
        have sz_b56b8b7 : h0.size ≤ b56b8b7 := Nat.le_trans K.1 hs_b56b8b7
        have ne_b0_b56b8b7 : b0 ≠ b56b8b7 := Nat.ne_of_lt (Nat.lt_of_lt_of_le lt_b0 hs_b56b8b7)
        have ne_b16b2b35b15_b56b8b7 : b16b2b35b15 ≠ b56b8b7 := Nat.ne_of_lt (Nat.lt_of_lt_of_le lt_b16b2b35b15 hs_b56b8b7)
        have ne_b22b2b35b15_b56b8b7 : b22b2b35b15 ≠ b56b8b7 := Nat.ne_of_lt (Nat.lt_of_lt_of_le lt_b22b2b35b15 hs_b56b8b7)
        have ne_b8b6_b56b8b7 : b8b6 ≠ b56b8b7 := Nat.ne_of_lt (Nat.lt_of_lt_of_le lt_b8b6 hs_b56b8b7)
        have E_b0 := E_b0.keep Kc
        have F_bytes_b0 := F_bytes_b0.keep Kc nin0
        have F_length_b0 := F_length_b0.keep Kc nin0
        have A_b8b6 := A_b8b6.keep Kc nin0
        have E_b8b6 := E_b8b6.keep Kc
        have A_b16b2b35b15 := A_b16b2b35b15.keep Kc nin0
        have E_b16b2b35b15 := E_b16b2b35b15.keep Kc
        have A_b22b2b35b15 := A_b22b2b35b15.keep Kc nin0
        have E_b22b2b35b15 := E_b22b2b35b15.keep Kc
        have K := K.trans Kc all0
        have Zs := Nat.le_trans Zs Kc.1
        have N := Fr.app N N9
        show Go p e below _ T56 (mkF m 59 #[.val (.int p1), .val (.int p2), .val (.int p3), .val (.int p4), .val (.int p5), .val (.ref b0), .val (.int (3 : Int32)), .unset] [(.ref b56b8b7)])
        refine own_astore X hx hby at_59 rfl (l' := #[.val (.int p1), .val (.int p2), .val (.int p3), .val (.int p4), .val (.int p5), .val (.ref b0), .val (.int (3 : Int32)), .val (.ref b56b8b7)]) rfl 61 rfl ?_
        refine own_aload X hx hby (.ref b56b8b7) at_61 rfl rfl 63 rfl ?_
        refine own_arraylength X hx hby hZ (8 : Int32) eT A_b56b8b7 rfl at_63 64 rfl ?_
        refine own_bipush X hx hby (8 : Int32) at_64 rfl 66 rfl ?_
        have c66 : (8 : Int32) = (8 : Int32) := by decide
        refine own_icmp_eq X hx hby at_66 71 69 (by decide) rfl (fun _ => ?_) (fun q => absurd c66 q)
        refine own_aload X hx hby (.ref b56b8b7) at_71 rfl rfl 73 rfl ?_
        refine own_iconst X hx hby (0 : Int32) at_73 rfl 74 rfl ?_
        refine own_iload X hx hby (3 : Int32) at_74 rfl 76 rfl ?_
        refine own_iloadN X hx hby p2 at_76 rfl 77 rfl ?_
        refine own_iloadN X hx hby p3 at_77 rfl 78 rfl ?_
        refine own_iload X hx hby p5 at_78 rfl 80 rfl ?_
        refine own_callS X hx hby hZ (st := []) [(.ref b56b8b7), (.int (0 : Int32)), (.int (3 : Int32)), (.int p2), (.int p3), (.int p5)] rfl hown (hw _ (List.mem_of_getElem? (i := 63) rfl)) (hw _ (List.mem_of_getElem? (i := 64) rfl)) (hw _ (List.mem_of_getElem? (i := 65) rfl)) (hw _ (List.mem_of_getElem? (i := 66) rfl)) (by decide) at_80 (rm11 l Z a0 hw b56b8b7 (0 : Int32) (3 : Int32) p2 p3 p5 ar39 h56 n0 Zs (by decide) A_b56b8b7 E_b56b8b7) eT pd_9 rfl (by rw [hml]; rfl) (by decide) 0 rfl (by decide) (by decide) (by decide) 83 rfl ?_
        intro T80 L9 v9 X hQ
        obtain ⟨rfl, N9, eT⟩ := hQ
        have N := Fr.app N N9
        show Go p e below _ T80 (mkF m 83 #[.val (.int p1), .val (.int p2), .val (.int p3), .val (.int p4), .val (.int p5), .val (.ref b0), .val (.int (3 : Int32)), .val (.ref b56b8b7)] [(.int (f11 (0 : Int32) (3 : Int32) p2 p3 p5 ar39))])
        have c83 : ¬ (f11 (0 : Int32) (3 : Int32) p2 p3 p5 ar39) = (0 : Int32) := own_oka _ _ _ _ _ (24 : Int32) _ (by decide) (by decide) (by decide) (by rw [← ear39]; exact w0)
        refine own_if_eq X hx hby at_83 197 86 (by decide) rfl (fun q => absurd q c83) (fun _ => ?_)
        refine own_aload X hx hby (.ref b56b8b7) at_86 rfl rfl 88 rfl ?_
        refine own_iconst X hx hby (1 : Int32) at_88 rfl 89 rfl ?_
        refine own_iload X hx hby (3 : Int32) at_89 rfl 91 rfl ?_
        refine own_iloadN X hx hby p2 at_91 rfl 92 rfl ?_
        refine own_iloadN X hx hby p3 at_92 rfl 93 rfl ?_
        refine own_iload X hx hby p5 at_93 rfl 95 rfl ?_
        refine own_callS X hx hby hZ (st := []) [(.ref b56b8b7), (.int (1 : Int32)), (.int (3 : Int32)), (.int p2), (.int p3), (.int p5)] rfl hown (hw _ (List.mem_of_getElem? (i := 63) rfl)) (hw _ (List.mem_of_getElem? (i := 64) rfl)) (hw _ (List.mem_of_getElem? (i := 65) rfl)) (hw _ (List.mem_of_getElem? (i := 66) rfl)) (by decide) at_95 (rm11 l Z a0 hw b56b8b7 (1 : Int32) (3 : Int32) p2 p3 p5 ar39 h56 n0 Zs (by decide) A_b56b8b7 E_b56b8b7) eT pd_9 rfl (by rw [hml]; rfl) (by decide) 0 rfl (by decide) (by decide) (by decide) 98 rfl ?_
        intro T95 L9 v9 X hQ
        obtain ⟨rfl, N9, eT⟩ := hQ
        have N := Fr.app N N9
        show Go p e below _ T95 (mkF m 98 #[.val (.int p1), .val (.int p2), .val (.int p3), .val (.int p4), .val (.int p5), .val (.ref b0), .val (.int (3 : Int32)), .val (.ref b56b8b7)] [(.int (f11 (1 : Int32) (3 : Int32) p2 p3 p5 ar39))])
        have c98 : ¬ (f11 (1 : Int32) (3 : Int32) p2 p3 p5 ar39) = (0 : Int32) := own_oka _ _ _ _ _ (16 : Int32) _ (by decide) (by decide) (by decide) (by rw [← ear39]; exact w1)
        refine own_if_eq X hx hby at_98 197 101 (by decide) rfl (fun q => absurd q c98) (fun _ => ?_)
        refine own_aload X hx hby (.ref b56b8b7) at_101 rfl rfl 103 rfl ?_
        refine own_iconst X hx hby (2 : Int32) at_103 rfl 104 rfl ?_
        refine own_iload X hx hby (3 : Int32) at_104 rfl 106 rfl ?_
        refine own_iloadN X hx hby p2 at_106 rfl 107 rfl ?_
        refine own_iloadN X hx hby p3 at_107 rfl 108 rfl ?_
        refine own_iload X hx hby p5 at_108 rfl 110 rfl ?_
        refine own_callS X hx hby hZ (st := []) [(.ref b56b8b7), (.int (2 : Int32)), (.int (3 : Int32)), (.int p2), (.int p3), (.int p5)] rfl hown (hw _ (List.mem_of_getElem? (i := 63) rfl)) (hw _ (List.mem_of_getElem? (i := 64) rfl)) (hw _ (List.mem_of_getElem? (i := 65) rfl)) (hw _ (List.mem_of_getElem? (i := 66) rfl)) (by decide) at_110 (rm11 l Z a0 hw b56b8b7 (2 : Int32) (3 : Int32) p2 p3 p5 ar39 h56 n0 Zs (by decide) A_b56b8b7 E_b56b8b7) eT pd_9 rfl (by rw [hml]; rfl) (by decide) 0 rfl (by decide) (by decide) (by decide) 113 rfl ?_
        intro T110 L9 v9 X hQ
        obtain ⟨rfl, N9, eT⟩ := hQ
        have N := Fr.app N N9
        show Go p e below _ T110 (mkF m 113 #[.val (.int p1), .val (.int p2), .val (.int p3), .val (.int p4), .val (.int p5), .val (.ref b0), .val (.int (3 : Int32)), .val (.ref b56b8b7)] [(.int (f11 (2 : Int32) (3 : Int32) p2 p3 p5 ar39))])
        have c113 : ¬ (f11 (2 : Int32) (3 : Int32) p2 p3 p5 ar39) = (0 : Int32) := own_oka _ _ _ _ _ (8 : Int32) _ (by decide) (by decide) (by decide) (by rw [← ear39]; exact w2)
        refine own_if_eq X hx hby at_113 197 116 (by decide) rfl (fun q => absurd q c113) (fun _ => ?_)
        refine own_aload X hx hby (.ref b56b8b7) at_116 rfl rfl 118 rfl ?_
        refine own_iconst X hx hby (3 : Int32) at_118 rfl 119 rfl ?_
        refine own_iload X hx hby (3 : Int32) at_119 rfl 121 rfl ?_
        refine own_iloadN X hx hby p2 at_121 rfl 122 rfl ?_
        refine own_iloadN X hx hby p3 at_122 rfl 123 rfl ?_
        refine own_iload X hx hby p5 at_123 rfl 125 rfl ?_
        refine own_callS X hx hby hZ (st := []) [(.ref b56b8b7), (.int (3 : Int32)), (.int (3 : Int32)), (.int p2), (.int p3), (.int p5)] rfl hown (hw _ (List.mem_of_getElem? (i := 63) rfl)) (hw _ (List.mem_of_getElem? (i := 64) rfl)) (hw _ (List.mem_of_getElem? (i := 65) rfl)) (hw _ (List.mem_of_getElem? (i := 66) rfl)) (by decide) at_125 (rm11 l Z a0 hw b56b8b7 (3 : Int32) (3 : Int32) p2 p3 p5 ar39 h56 n0 Zs (by decide) A_b56b8b7 E_b56b8b7) eT pd_9 rfl (by rw [hml]; rfl) (by decide) 0 rfl (by decide) (by decide) (by decide) 128 rfl ?_
        intro T125 L9 v9 X hQ
        obtain ⟨rfl, N9, eT⟩ := hQ
        have N := Fr.app N N9
        show Go p e below _ T125 (mkF m 128 #[.val (.int p1), .val (.int p2), .val (.int p3), .val (.int p4), .val (.int p5), .val (.ref b0), .val (.int (3 : Int32)), .val (.ref b56b8b7)] [(.int (f11 (3 : Int32) (3 : Int32) p2 p3 p5 ar39))])
        have c128 : ¬ (f11 (3 : Int32) (3 : Int32) p2 p3 p5 ar39) = (0 : Int32) := own_okv _ _ _ _ _ (24 : Int32) _ (by decide) (by decide) (by decide) (by rw [← ear39]; rfl)
        refine own_if_eq X hx hby at_128 197 131 (by decide) rfl (fun q => absurd q c128) (fun _ => ?_)
        refine own_aload X hx hby (.ref b56b8b7) at_131 rfl rfl 133 rfl ?_
        refine own_iconst X hx hby (4 : Int32) at_133 rfl 134 rfl ?_
        refine own_iload X hx hby (3 : Int32) at_134 rfl 136 rfl ?_
        refine own_iloadN X hx hby p2 at_136 rfl 137 rfl ?_
        refine own_iloadN X hx hby p3 at_137 rfl 138 rfl ?_
        refine own_iload X hx hby p5 at_138 rfl 140 rfl ?_
        refine own_callS X hx hby hZ (st := []) [(.ref b56b8b7), (.int (4 : Int32)), (.int (3 : Int32)), (.int p2), (.int p3), (.int p5)] rfl hown (hw _ (List.mem_of_getElem? (i := 63) rfl)) (hw _ (List.mem_of_getElem? (i := 64) rfl)) (hw _ (List.mem_of_getElem? (i := 65) rfl)) (hw _ (List.mem_of_getElem? (i := 66) rfl)) (by decide) at_140 (rm11 l Z a0 hw b56b8b7 (4 : Int32) (3 : Int32) p2 p3 p5 ar39 h56 n0 Zs (by decide) A_b56b8b7 E_b56b8b7) eT pd_9 rfl (by rw [hml]; rfl) (by decide) 0 rfl (by decide) (by decide) (by decide) 143 rfl ?_
        intro T140 L9 v9 X hQ
        obtain ⟨rfl, N9, eT⟩ := hQ
        have N := Fr.app N N9
        show Go p e below _ T140 (mkF m 143 #[.val (.int p1), .val (.int p2), .val (.int p3), .val (.int p4), .val (.int p5), .val (.ref b0), .val (.int (3 : Int32)), .val (.ref b56b8b7)] [(.int (f11 (4 : Int32) (3 : Int32) p2 p3 p5 ar39))])
        have c143 : ¬ (f11 (4 : Int32) (3 : Int32) p2 p3 p5 ar39) = (0 : Int32) := own_okv _ _ _ _ _ (16 : Int32) _ (by decide) (by decide) (by decide) (by rw [← ear39]; rfl)
        refine own_if_eq X hx hby at_143 197 146 (by decide) rfl (fun q => absurd q c143) (fun _ => ?_)
        refine own_aload X hx hby (.ref b56b8b7) at_146 rfl rfl 148 rfl ?_
        refine own_iconst X hx hby (5 : Int32) at_148 rfl 149 rfl ?_
        refine own_iload X hx hby (3 : Int32) at_149 rfl 151 rfl ?_
        refine own_iloadN X hx hby p2 at_151 rfl 152 rfl ?_
        refine own_iloadN X hx hby p3 at_152 rfl 153 rfl ?_
        refine own_iload X hx hby p5 at_153 rfl 155 rfl ?_
        refine own_callS X hx hby hZ (st := []) [(.ref b56b8b7), (.int (5 : Int32)), (.int (3 : Int32)), (.int p2), (.int p3), (.int p5)] rfl hown (hw _ (List.mem_of_getElem? (i := 63) rfl)) (hw _ (List.mem_of_getElem? (i := 64) rfl)) (hw _ (List.mem_of_getElem? (i := 65) rfl)) (hw _ (List.mem_of_getElem? (i := 66) rfl)) (by decide) at_155 (rm11 l Z a0 hw b56b8b7 (5 : Int32) (3 : Int32) p2 p3 p5 ar39 h56 n0 Zs (by decide) A_b56b8b7 E_b56b8b7) eT pd_9 rfl (by rw [hml]; rfl) (by decide) 0 rfl (by decide) (by decide) (by decide) 158 rfl ?_
        intro T155 L9 v9 X hQ
        obtain ⟨rfl, N9, eT⟩ := hQ
        have N := Fr.app N N9
        show Go p e below _ T155 (mkF m 158 #[.val (.int p1), .val (.int p2), .val (.int p3), .val (.int p4), .val (.int p5), .val (.ref b0), .val (.int (3 : Int32)), .val (.ref b56b8b7)] [(.int (f11 (5 : Int32) (3 : Int32) p2 p3 p5 ar39))])
        have c158 : ¬ (f11 (5 : Int32) (3 : Int32) p2 p3 p5 ar39) = (0 : Int32) := own_okv _ _ _ _ _ (8 : Int32) _ (by decide) (by decide) (by decide) (by rw [← ear39]; rfl)
        refine own_if_eq X hx hby at_158 197 161 (by decide) rfl (fun q => absurd q c158) (fun _ => ?_)
        refine own_aload X hx hby (.ref b56b8b7) at_161 rfl rfl 163 rfl ?_
        refine own_bipush X hx hby (6 : Int32) at_163 rfl 165 rfl ?_
        refine own_iload X hx hby (3 : Int32) at_165 rfl 167 rfl ?_
        refine own_iloadN X hx hby p2 at_167 rfl 168 rfl ?_
        refine own_iloadN X hx hby p3 at_168 rfl 169 rfl ?_
        refine own_iload X hx hby p5 at_169 rfl 171 rfl ?_
        refine own_callS X hx hby hZ (st := []) [(.ref b56b8b7), (.int (6 : Int32)), (.int (3 : Int32)), (.int p2), (.int p3), (.int p5)] rfl hown (hw _ (List.mem_of_getElem? (i := 63) rfl)) (hw _ (List.mem_of_getElem? (i := 64) rfl)) (hw _ (List.mem_of_getElem? (i := 65) rfl)) (hw _ (List.mem_of_getElem? (i := 66) rfl)) (by decide) at_171 (rm11 l Z a0 hw b56b8b7 (6 : Int32) (3 : Int32) p2 p3 p5 ar39 h56 n0 Zs (by decide) A_b56b8b7 E_b56b8b7) eT pd_9 rfl (by rw [hml]; rfl) (by decide) 0 rfl (by decide) (by decide) (by decide) 174 rfl ?_
        intro T171 L9 v9 X hQ
        obtain ⟨rfl, N9, eT⟩ := hQ
        have N := Fr.app N N9
        show Go p e below _ T171 (mkF m 174 #[.val (.int p1), .val (.int p2), .val (.int p3), .val (.int p4), .val (.int p5), .val (.ref b0), .val (.int (3 : Int32)), .val (.ref b56b8b7)] [(.int (f11 (6 : Int32) (3 : Int32) p2 p3 p5 ar39))])
        have c174 : ¬ (f11 (6 : Int32) (3 : Int32) p2 p3 p5 ar39) = (0 : Int32) := own_okv _ _ _ _ _ (0 : Int32) _ (by decide) (by decide) (by decide) (by rw [← ear39]; rfl)
        refine own_if_eq X hx hby at_174 197 177 (by decide) rfl (fun q => absurd q c174) (fun _ => ?_)
        refine own_aload X hx hby (.ref b56b8b7) at_177 rfl rfl 179 rfl ?_
        refine own_bipush X hx hby (7 : Int32) at_179 rfl 181 rfl ?_
        refine own_iload X hx hby (3 : Int32) at_181 rfl 183 rfl ?_
        refine own_iloadN X hx hby p2 at_183 rfl 184 rfl ?_
        refine own_iloadN X hx hby p3 at_184 rfl 185 rfl ?_
        refine own_iload X hx hby p5 at_185 rfl 187 rfl ?_
        refine own_callS X hx hby hZ (st := []) [(.ref b56b8b7), (.int (7 : Int32)), (.int (3 : Int32)), (.int p2), (.int p3), (.int p5)] rfl hown (hw _ (List.mem_of_getElem? (i := 63) rfl)) (hw _ (List.mem_of_getElem? (i := 64) rfl)) (hw _ (List.mem_of_getElem? (i := 65) rfl)) (hw _ (List.mem_of_getElem? (i := 66) rfl)) (by decide) at_187 (rm11 l Z a0 hw b56b8b7 (7 : Int32) (3 : Int32) p2 p3 p5 ar39 h56 n0 Zs (by decide) A_b56b8b7 E_b56b8b7) eT pd_9 rfl (by rw [hml]; rfl) (by decide) 0 rfl (by decide) (by decide) (by decide) 190 rfl ?_
        intro T187 L9 v9 X hQ
        obtain ⟨rfl, N9, eT⟩ := hQ
        have N := Fr.app N N9
        show Go p e below _ T187 (mkF m 190 #[.val (.int p1), .val (.int p2), .val (.int p3), .val (.int p4), .val (.int p5), .val (.ref b0), .val (.int (3 : Int32)), .val (.ref b56b8b7)] [(.int (f11 (7 : Int32) (3 : Int32) p2 p3 p5 ar39))])
        have c190 : ¬ (f11 (7 : Int32) (3 : Int32) p2 p3 p5 ar39) = (0 : Int32) := own_okb _ _ _ _ _ (0 : Int32) _ (by decide) (by decide) (by decide) (by rw [← ear39]; exact w7)
        refine own_if_eq X hx hby at_190 197 193 (by decide) rfl (fun q => absurd q c190) (fun _ => ?_)
        refine own_iconst X hx hby (1 : Int32) at_193 rfl 194 rfl ?_
        refine own_goto X hx hby at_194 198 (by decide) ?_
        refine own_retN X hx hby hret hlk (t := .boolean) (z' := (1 : Int32)) (by simp) at_198 (by decide) (by decide) rfl ?_
        rw [eT]
        exact ⟨rfl, N⟩
      · skip
        refine own_callV X hx hby hZ (st := []) [] rfl hown (hw _ (List.mem_of_getElem? (i := 49) rfl)) (hw _ (List.mem_of_getElem? (i := 50) rfl)) (hw _ (List.mem_of_getElem? (i := 52) rfl)) (hw _ (List.mem_of_getElem? (i := 51) rfl)) (hw _ (List.mem_of_getElem? (i := 2) rfl)) (hw _ (List.mem_of_getElem? (i := 53) rfl)) E_b0 (by decide) at_56 (rm10_n l Z a0 hw b0 b22b2b35b15 ar39 n3 h39 n0 Zs (own_n8 q8 h3.2) h3.2 A_b22b2b35b15 E_b22b2b35b15 F_bytes_b0 F_length_b0) eT pd_3 rfl (by rw [hml]; rfl) (by decide) 0 rfl (by decide) (by decide) (by decide) 59 rfl ?_
        intro T56 L9 v9 X hQ
        obtain ⟨h56, eT⟩ : ∃ z, T56.heap = z := ⟨_, rfl⟩
        rw [eT] at hQ
        have lt_b0 := E_b0.lt
        have lt_b16b2b35b15 := A_b16b2b35b15.lt
        have lt_b22b2b35b15 := A_b22b2b35b15.lt
        have lt_b8b6 := A_b8b6.lt
        obtain ⟨b56b8b15, rfl, N9, Kc, hs_b56b8b15, A_b56b8b15, E_b56b8b15⟩ := hQ
        have g_b56b8b15 : n0 ≤ b56b8b15 := Nat.le_trans Zs hs_b56b8b15
        have sz_b56b8b15 : h0.size ≤ b56b8b15 := Nat.le_trans K.1 hs_b56b8b15
        have ne_b0_b56b8b15 : b0 ≠ b56b8b15 := Nat.ne_of_lt (Nat.lt_of_lt_of_le lt_b0 hs_b56b8b15)
        have ne_b16b2b35b15_b56b8b15 : b16b2b35b15 ≠ b56b8b15 := Nat.ne_of_lt (Nat.lt_of_lt_of_le lt_b16b2b35b15 hs_b56b8b15)
        have ne_b22b2b35b15_b56b8b15 : b22b2b35b15 ≠ b56b8b15 := Nat.ne_of_lt (Nat.lt_of_lt_of_le lt_b22b2b35b15 hs_b56b8b15)
        have ne_b8b6_b56b8b15 : b8b6 ≠ b56b8b15 := Nat.ne_of_lt (Nat.lt_of_lt_of_le lt_b8b6 hs_b56b8b15)
        have E_b0 := E_b0.keep Kc
        have F_bytes_b0 := F_bytes_b0.keep Kc nin0
        have F_length_b0 := F_length_b0.keep Kc nin0
        have A_b8b6 := A_b8b6.keep Kc nin0
        have E_b8b6 := E_b8b6.keep Kc
        have A_b16b2b35b15 := A_b16b2b35b15.keep Kc nin0
        have E_b16b2b35b15 := E_b16b2b35b15.keep Kc
        have A_b22b2b35b15 := A_b22b2b35b15.keep Kc nin0
        have E_b22b2b35b15 := E_b22b2b35b15.keep Kc
        obtain ⟨ar56, ear56⟩ : ∃ z : Nat → Int32, (own_cp ar39 (Int32.toNatClampNeg (f7 (Int32.ofNat n3) (8 : Int32)))) = z := ⟨_, rfl⟩
        rw [ear56] at A_b56b8b15
        have K := K.trans Kc all0
        have Zs := Nat.le_trans Zs Kc.1
        have N := Fr.app N N9
        show Go p e below _ T56 (mkF m 59 #[.val (.int p1), .val (.int p2), .val (.int p3), .val (.int p4), .val (.int p5), .val (.ref b0), .val (.int (3 : Int32)), .unset] [(.ref b56b8b15)])
        refine own_astore X hx hby at_59 rfl (l' := #[.val (.int p1), .val (.int p2), .val (.int p3), .val (.int p4), .val (.int p5), .val (.ref b0), .val (.int (3 : Int32)), .val (.ref b56b8b15)]) rfl 61 rfl ?_
        refine own_aload X hx hby (.ref b56b8b15) at_61 rfl rfl 63 rfl ?_
        refine own_arraylength X hx hby hZ (8 : Int32) eT A_b56b8b15 rfl at_63 64 rfl ?_
        refine own_bipush X hx hby (8 : Int32) at_64 rfl 66 rfl ?_
        have c66 : (8 : Int32) = (8 : Int32) := by decide
        refine own_icmp_eq X hx hby at_66 71 69 (by decide) rfl (fun _ => ?_) (fun q => absurd c66 q)
        refine own_aload X hx hby (.ref b56b8b15) at_71 rfl rfl 73 rfl ?_
        refine own_iconst X hx hby (0 : Int32) at_73 rfl 74 rfl ?_
        refine own_iload X hx hby (3 : Int32) at_74 rfl 76 rfl ?_
        refine own_iloadN X hx hby p2 at_76 rfl 77 rfl ?_
        refine own_iloadN X hx hby p3 at_77 rfl 78 rfl ?_
        refine own_iload X hx hby p5 at_78 rfl 80 rfl ?_
        refine own_callS X hx hby hZ (st := []) [(.ref b56b8b15), (.int (0 : Int32)), (.int (3 : Int32)), (.int p2), (.int p3), (.int p5)] rfl hown (hw _ (List.mem_of_getElem? (i := 63) rfl)) (hw _ (List.mem_of_getElem? (i := 64) rfl)) (hw _ (List.mem_of_getElem? (i := 65) rfl)) (hw _ (List.mem_of_getElem? (i := 66) rfl)) (by decide) at_80 (rm11 l Z a0 hw b56b8b15 (0 : Int32) (3 : Int32) p2 p3 p5 ar56 h56 n0 Zs (by decide) A_b56b8b15 E_b56b8b15) eT pd_9 rfl (by rw [hml]; rfl) (by decide) 0 rfl (by decide) (by decide) (by decide) 83 rfl ?_
        intro T80 L9 v9 X hQ
        obtain ⟨rfl, N9, eT⟩ := hQ
        have N := Fr.app N N9
        show Go p e below _ T80 (mkF m 83 #[.val (.int p1), .val (.int p2), .val (.int p3), .val (.int p4), .val (.int p5), .val (.ref b0), .val (.int (3 : Int32)), .val (.ref b56b8b15)] [(.int (f11 (0 : Int32) (3 : Int32) p2 p3 p5 ar56))])
        have c83 : ¬ (f11 (0 : Int32) (3 : Int32) p2 p3 p5 ar56) = (0 : Int32) := own_oka _ _ _ _ _ (24 : Int32) _ (by decide) (by decide) (by decide) (by rw [← ear56]; refine (own_cpi (own_ck h3.2 (by decide) (Nat.lt_of_lt_of_le (by decide) h3.1) (by decide))).trans ?_; rw [← ear39]; exact w0)
        refine own_if_eq X hx hby at_83 197 86 (by decide) rfl (fun q => absurd q c83) (fun _ => ?_)
        refine own_aload X hx hby (.ref b56b8b15) at_86 rfl rfl 88 rfl ?_
        refine own_iconst X hx hby (1 : Int32) at_88 rfl 89 rfl ?_
        refine own_iload X hx hby (3 : Int32) at_89 rfl 91 rfl ?_
        refine own_iloadN X hx hby p2 at_91 rfl 92 rfl ?_
        refine own_iloadN X hx hby p3 at_92 rfl 93 rfl ?_
        refine own_iload X hx hby p5 at_93 rfl 95 rfl ?_
        refine own_callS X hx hby hZ (st := []) [(.ref b56b8b15), (.int (1 : Int32)), (.int (3 : Int32)), (.int p2), (.int p3), (.int p5)] rfl hown (hw _ (List.mem_of_getElem? (i := 63) rfl)) (hw _ (List.mem_of_getElem? (i := 64) rfl)) (hw _ (List.mem_of_getElem? (i := 65) rfl)) (hw _ (List.mem_of_getElem? (i := 66) rfl)) (by decide) at_95 (rm11 l Z a0 hw b56b8b15 (1 : Int32) (3 : Int32) p2 p3 p5 ar56 h56 n0 Zs (by decide) A_b56b8b15 E_b56b8b15) eT pd_9 rfl (by rw [hml]; rfl) (by decide) 0 rfl (by decide) (by decide) (by decide) 98 rfl ?_
        intro T95 L9 v9 X hQ
        obtain ⟨rfl, N9, eT⟩ := hQ
        have N := Fr.app N N9
        show Go p e below _ T95 (mkF m 98 #[.val (.int p1), .val (.int p2), .val (.int p3), .val (.int p4), .val (.int p5), .val (.ref b0), .val (.int (3 : Int32)), .val (.ref b56b8b15)] [(.int (f11 (1 : Int32) (3 : Int32) p2 p3 p5 ar56))])
        have c98 : ¬ (f11 (1 : Int32) (3 : Int32) p2 p3 p5 ar56) = (0 : Int32) := own_oka _ _ _ _ _ (16 : Int32) _ (by decide) (by decide) (by decide) (by rw [← ear56]; refine (own_cpi (own_ck h3.2 (by decide) (Nat.lt_of_lt_of_le (by decide) h3.1) (by decide))).trans ?_; rw [← ear39]; exact w1)
        refine own_if_eq X hx hby at_98 197 101 (by decide) rfl (fun q => absurd q c98) (fun _ => ?_)
        refine own_aload X hx hby (.ref b56b8b15) at_101 rfl rfl 103 rfl ?_
        refine own_iconst X hx hby (2 : Int32) at_103 rfl 104 rfl ?_
        refine own_iload X hx hby (3 : Int32) at_104 rfl 106 rfl ?_
        refine own_iloadN X hx hby p2 at_106 rfl 107 rfl ?_
        refine own_iloadN X hx hby p3 at_107 rfl 108 rfl ?_
        refine own_iload X hx hby p5 at_108 rfl 110 rfl ?_
        refine own_callS X hx hby hZ (st := []) [(.ref b56b8b15), (.int (2 : Int32)), (.int (3 : Int32)), (.int p2), (.int p3), (.int p5)] rfl hown (hw _ (List.mem_of_getElem? (i := 63) rfl)) (hw _ (List.mem_of_getElem? (i := 64) rfl)) (hw _ (List.mem_of_getElem? (i := 65) rfl)) (hw _ (List.mem_of_getElem? (i := 66) rfl)) (by decide) at_110 (rm11 l Z a0 hw b56b8b15 (2 : Int32) (3 : Int32) p2 p3 p5 ar56 h56 n0 Zs (by decide) A_b56b8b15 E_b56b8b15) eT pd_9 rfl (by rw [hml]; rfl) (by decide) 0 rfl (by decide) (by decide) (by decide) 113 rfl ?_
        intro T110 L9 v9 X hQ
        obtain ⟨rfl, N9, eT⟩ := hQ
        have N := Fr.app N N9
        show Go p e below _ T110 (mkF m 113 #[.val (.int p1), .val (.int p2), .val (.int p3), .val (.int p4), .val (.int p5), .val (.ref b0), .val (.int (3 : Int32)), .val (.ref b56b8b15)] [(.int (f11 (2 : Int32) (3 : Int32) p2 p3 p5 ar56))])
        have c113 : ¬ (f11 (2 : Int32) (3 : Int32) p2 p3 p5 ar56) = (0 : Int32) := own_oka _ _ _ _ _ (8 : Int32) _ (by decide) (by decide) (by decide) (by rw [← ear56]; refine (own_cpi (own_ck h3.2 (by decide) (Nat.lt_of_lt_of_le (by decide) h3.1) (by decide))).trans ?_; rw [← ear39]; exact w2)
        refine own_if_eq X hx hby at_113 197 116 (by decide) rfl (fun q => absurd q c113) (fun _ => ?_)
        refine own_aload X hx hby (.ref b56b8b15) at_116 rfl rfl 118 rfl ?_
        refine own_iconst X hx hby (3 : Int32) at_118 rfl 119 rfl ?_
        refine own_iload X hx hby (3 : Int32) at_119 rfl 121 rfl ?_
        refine own_iloadN X hx hby p2 at_121 rfl 122 rfl ?_
        refine own_iloadN X hx hby p3 at_122 rfl 123 rfl ?_
        refine own_iload X hx hby p5 at_123 rfl 125 rfl ?_
        refine own_callS X hx hby hZ (st := []) [(.ref b56b8b15), (.int (3 : Int32)), (.int (3 : Int32)), (.int p2), (.int p3), (.int p5)] rfl hown (hw _ (List.mem_of_getElem? (i := 63) rfl)) (hw _ (List.mem_of_getElem? (i := 64) rfl)) (hw _ (List.mem_of_getElem? (i := 65) rfl)) (hw _ (List.mem_of_getElem? (i := 66) rfl)) (by decide) at_125 (rm11 l Z a0 hw b56b8b15 (3 : Int32) (3 : Int32) p2 p3 p5 ar56 h56 n0 Zs (by decide) A_b56b8b15 E_b56b8b15) eT pd_9 rfl (by rw [hml]; rfl) (by decide) 0 rfl (by decide) (by decide) (by decide) 128 rfl ?_
        intro T125 L9 v9 X hQ
        obtain ⟨rfl, N9, eT⟩ := hQ
        have N := Fr.app N N9
        show Go p e below _ T125 (mkF m 128 #[.val (.int p1), .val (.int p2), .val (.int p3), .val (.int p4), .val (.int p5), .val (.ref b0), .val (.int (3 : Int32)), .val (.ref b56b8b15)] [(.int (f11 (3 : Int32) (3 : Int32) p2 p3 p5 ar56))])
        have c128 : ¬ (f11 (3 : Int32) (3 : Int32) p2 p3 p5 ar56) = (0 : Int32) := own_okv _ _ _ _ _ (24 : Int32) _ (by decide) (by decide) (by decide) (by rw [← ear56]; refine (own_cpi (own_ck h3.2 (by decide) (Nat.lt_of_lt_of_le (by decide) h3.1) (by decide))).trans ?_; rw [← ear39]; rfl)
        refine own_if_eq X hx hby at_128 197 131 (by decide) rfl (fun q => absurd q c128) (fun _ => ?_)
        refine own_aload X hx hby (.ref b56b8b15) at_131 rfl rfl 133 rfl ?_
        refine own_iconst X hx hby (4 : Int32) at_133 rfl 134 rfl ?_
        refine own_iload X hx hby (3 : Int32) at_134 rfl 136 rfl ?_
        refine own_iloadN X hx hby p2 at_136 rfl 137 rfl ?_
        refine own_iloadN X hx hby p3 at_137 rfl 138 rfl ?_
        refine own_iload X hx hby p5 at_138 rfl 140 rfl ?_
        refine own_callS X hx hby hZ (st := []) [(.ref b56b8b15), (.int (4 : Int32)), (.int (3 : Int32)), (.int p2), (.int p3), (.int p5)] rfl hown (hw _ (List.mem_of_getElem? (i := 63) rfl)) (hw _ (List.mem_of_getElem? (i := 64) rfl)) (hw _ (List.mem_of_getElem? (i := 65) rfl)) (hw _ (List.mem_of_getElem? (i := 66) rfl)) (by decide) at_140 (rm11 l Z a0 hw b56b8b15 (4 : Int32) (3 : Int32) p2 p3 p5 ar56 h56 n0 Zs (by decide) A_b56b8b15 E_b56b8b15) eT pd_9 rfl (by rw [hml]; rfl) (by decide) 0 rfl (by decide) (by decide) (by decide) 143 rfl ?_
        intro T140 L9 v9 X hQ
        obtain ⟨rfl, N9, eT⟩ := hQ
        have N := Fr.app N N9
        show Go p e below _ T140 (mkF m 143 #[.val (.int p1), .val (.int p2), .val (.int p3), .val (.int p4), .val (.int p5), .val (.ref b0), .val (.int (3 : Int32)), .val (.ref b56b8b15)] [(.int (f11 (4 : Int32) (3 : Int32) p2 p3 p5 ar56))])
        have c143 : ¬ (f11 (4 : Int32) (3 : Int32) p2 p3 p5 ar56) = (0 : Int32) := own_okv _ _ _ _ _ (16 : Int32) _ (by decide) (by decide) (by decide) (by rw [← ear56]; refine (own_cpi (own_ck h3.2 (by decide) (Nat.lt_of_lt_of_le (by decide) h3.1) (by decide))).trans ?_; rw [← ear39]; rfl)
        refine own_if_eq X hx hby at_143 197 146 (by decide) rfl (fun q => absurd q c143) (fun _ => ?_)
        refine own_aload X hx hby (.ref b56b8b15) at_146 rfl rfl 148 rfl ?_
        refine own_iconst X hx hby (5 : Int32) at_148 rfl 149 rfl ?_
        refine own_iload X hx hby (3 : Int32) at_149 rfl 151 rfl ?_
        refine own_iloadN X hx hby p2 at_151 rfl 152 rfl ?_
        refine own_iloadN X hx hby p3 at_152 rfl 153 rfl ?_
        refine own_iload X hx hby p5 at_153 rfl 155 rfl ?_
        refine own_callS X hx hby hZ (st := []) [(.ref b56b8b15), (.int (5 : Int32)), (.int (3 : Int32)), (.int p2), (.int p3), (.int p5)] rfl hown (hw _ (List.mem_of_getElem? (i := 63) rfl)) (hw _ (List.mem_of_getElem? (i := 64) rfl)) (hw _ (List.mem_of_getElem? (i := 65) rfl)) (hw _ (List.mem_of_getElem? (i := 66) rfl)) (by decide) at_155 (rm11 l Z a0 hw b56b8b15 (5 : Int32) (3 : Int32) p2 p3 p5 ar56 h56 n0 Zs (by decide) A_b56b8b15 E_b56b8b15) eT pd_9 rfl (by rw [hml]; rfl) (by decide) 0 rfl (by decide) (by decide) (by decide) 158 rfl ?_
        intro T155 L9 v9 X hQ
        obtain ⟨rfl, N9, eT⟩ := hQ
        have N := Fr.app N N9
        show Go p e below _ T155 (mkF m 158 #[.val (.int p1), .val (.int p2), .val (.int p3), .val (.int p4), .val (.int p5), .val (.ref b0), .val (.int (3 : Int32)), .val (.ref b56b8b15)] [(.int (f11 (5 : Int32) (3 : Int32) p2 p3 p5 ar56))])
        have c158 : ¬ (f11 (5 : Int32) (3 : Int32) p2 p3 p5 ar56) = (0 : Int32) := own_okv _ _ _ _ _ (8 : Int32) _ (by decide) (by decide) (by decide) (by rw [← ear56]; refine (own_cpi (own_ck h3.2 (by decide) (Nat.lt_of_lt_of_le (by decide) h3.1) (by decide))).trans ?_; rw [← ear39]; rfl)
        refine own_if_eq X hx hby at_158 197 161 (by decide) rfl (fun q => absurd q c158) (fun _ => ?_)
        refine own_aload X hx hby (.ref b56b8b15) at_161 rfl rfl 163 rfl ?_
        refine own_bipush X hx hby (6 : Int32) at_163 rfl 165 rfl ?_
        refine own_iload X hx hby (3 : Int32) at_165 rfl 167 rfl ?_
        refine own_iloadN X hx hby p2 at_167 rfl 168 rfl ?_
        refine own_iloadN X hx hby p3 at_168 rfl 169 rfl ?_
        refine own_iload X hx hby p5 at_169 rfl 171 rfl ?_
        refine own_callS X hx hby hZ (st := []) [(.ref b56b8b15), (.int (6 : Int32)), (.int (3 : Int32)), (.int p2), (.int p3), (.int p5)] rfl hown (hw _ (List.mem_of_getElem? (i := 63) rfl)) (hw _ (List.mem_of_getElem? (i := 64) rfl)) (hw _ (List.mem_of_getElem? (i := 65) rfl)) (hw _ (List.mem_of_getElem? (i := 66) rfl)) (by decide) at_171 (rm11 l Z a0 hw b56b8b15 (6 : Int32) (3 : Int32) p2 p3 p5 ar56 h56 n0 Zs (by decide) A_b56b8b15 E_b56b8b15) eT pd_9 rfl (by rw [hml]; rfl) (by decide) 0 rfl (by decide) (by decide) (by decide) 174 rfl ?_
        intro T171 L9 v9 X hQ
        obtain ⟨rfl, N9, eT⟩ := hQ
        have N := Fr.app N N9
        show Go p e below _ T171 (mkF m 174 #[.val (.int p1), .val (.int p2), .val (.int p3), .val (.int p4), .val (.int p5), .val (.ref b0), .val (.int (3 : Int32)), .val (.ref b56b8b15)] [(.int (f11 (6 : Int32) (3 : Int32) p2 p3 p5 ar56))])
        have c174 : ¬ (f11 (6 : Int32) (3 : Int32) p2 p3 p5 ar56) = (0 : Int32) := own_okv _ _ _ _ _ (0 : Int32) _ (by decide) (by decide) (by decide) (by rw [← ear56]; refine (own_cpi (own_ck h3.2 (by decide) (Nat.lt_of_lt_of_le (by decide) h3.1) (by decide))).trans ?_; rw [← ear39]; rfl)
        refine own_if_eq X hx hby at_174 197 177 (by decide) rfl (fun q => absurd q c174) (fun _ => ?_)
        refine own_aload X hx hby (.ref b56b8b15) at_177 rfl rfl 179 rfl ?_
        refine own_bipush X hx hby (7 : Int32) at_179 rfl 181 rfl ?_
        refine own_iload X hx hby (3 : Int32) at_181 rfl 183 rfl ?_
        refine own_iloadN X hx hby p2 at_183 rfl 184 rfl ?_
        refine own_iloadN X hx hby p3 at_184 rfl 185 rfl ?_
        refine own_iload X hx hby p5 at_185 rfl 187 rfl ?_
        refine own_callS X hx hby hZ (st := []) [(.ref b56b8b15), (.int (7 : Int32)), (.int (3 : Int32)), (.int p2), (.int p3), (.int p5)] rfl hown (hw _ (List.mem_of_getElem? (i := 63) rfl)) (hw _ (List.mem_of_getElem? (i := 64) rfl)) (hw _ (List.mem_of_getElem? (i := 65) rfl)) (hw _ (List.mem_of_getElem? (i := 66) rfl)) (by decide) at_187 (rm11 l Z a0 hw b56b8b15 (7 : Int32) (3 : Int32) p2 p3 p5 ar56 h56 n0 Zs (by decide) A_b56b8b15 E_b56b8b15) eT pd_9 rfl (by rw [hml]; rfl) (by decide) 0 rfl (by decide) (by decide) (by decide) 190 rfl ?_
        intro T187 L9 v9 X hQ
        obtain ⟨rfl, N9, eT⟩ := hQ
        have N := Fr.app N N9
        show Go p e below _ T187 (mkF m 190 #[.val (.int p1), .val (.int p2), .val (.int p3), .val (.int p4), .val (.int p5), .val (.ref b0), .val (.int (3 : Int32)), .val (.ref b56b8b15)] [(.int (f11 (7 : Int32) (3 : Int32) p2 p3 p5 ar56))])
        have c190 : ¬ (f11 (7 : Int32) (3 : Int32) p2 p3 p5 ar56) = (0 : Int32) := own_okb _ _ _ _ _ (0 : Int32) _ (by decide) (by decide) (by decide) (by rw [← ear56]; refine (own_cpi (own_ck h3.2 (by decide) (Nat.lt_of_lt_of_le (by decide) h3.1) (by decide))).trans ?_; rw [← ear39]; exact w7)
        refine own_if_eq X hx hby at_190 197 193 (by decide) rfl (fun q => absurd q c190) (fun _ => ?_)
        refine own_iconst X hx hby (1 : Int32) at_193 rfl 194 rfl ?_
        refine own_goto X hx hby at_194 198 (by decide) ?_
        refine own_retN X hx hby hret hlk (t := .boolean) (z' := (1 : Int32)) (by simp) at_198 (by decide) (by decide) rfl ?_
        rw [eT]
        exact ⟨rfl, N⟩
    · skip
      refine own_aload X hx hby (.ref b0) at_33 rfl rfl 35 rfl ?_
      refine own_iload X hx hby (4 : Int32) at_35 rfl 37 rfl ?_
      refine own_iload X hx hby p5 at_37 rfl 39 rfl ?_
      refine own_callV X hx hby hZ (st := []) [(.int (4 : Int32)), (.int p5)] rfl hown (hw _ (List.mem_of_getElem? (i := 39) rfl)) (hw _ (List.mem_of_getElem? (i := 40) rfl)) (hw _ (List.mem_of_getElem? (i := 42) rfl)) (hw _ (List.mem_of_getElem? (i := 41) rfl)) (hw _ (List.mem_of_getElem? (i := 2) rfl)) (hw _ (List.mem_of_getElem? (i := 43) rfl)) E_b0 (by decide) at_39 (rm8_4 l Z a0 hw b0 p5 b22b2b35b15 ar22 n3 (8 : Int32) h22 n0 Zs h3.1 A_b22b2b35b15 E_b22b2b35b15 g_b22b2b35b15 E_b0 F_bytes_b0 F_length_b0 g_b0) eT pd_6 rfl (by rw [hml]; rfl) (by decide) 0 rfl (by decide) (by decide) (by decide) 42 rfl ?_
      intro T39 L9 v9 X hQ
      obtain ⟨h39, eT⟩ : ∃ z, T39.heap = z := ⟨_, rfl⟩
      rw [eT] at hQ
      obtain ⟨rfl, N9, Kc, A_b22b2b35b15, E_b22b2b35b15⟩ := hQ
      have E_b0 := E_b0.keep Kc
      have F_bytes_b0 := F_bytes_b0.keep Kc (ninS ne_b0_b22b2b35b15 nin0)
      have F_length_b0 := F_length_b0.keep Kc (ninS ne_b0_b22b2b35b15 nin0)
      have A_b8b6 := A_b8b6.keep Kc (ninS ne_b8b6_b22b2b35b15 nin0)
      have E_b8b6 := E_b8b6.keep Kc
      have A_b16b2b35b15 := A_b16b2b35b15.keep Kc (ninS ne_b16b2b35b15_b22b2b35b15 nin0)
      have E_b16b2b35b15 := E_b16b2b35b15.keep Kc
      obtain ⟨ar39, ear39⟩ : ∃ z : Nat → Int32, (updI (updI (updI (updI ar22 4 (nar .byte (((p5.toUInt32 >>> ((24 : Int32) &&& 31).toUInt32).toInt32).toInt8.toInt32))) 5 (nar .byte (((p5.toUInt32 >>> ((16 : Int32) &&& 31).toUInt32).toInt32).toInt8.toInt32))) 6 (nar .byte (((p5.toUInt32 >>> ((8 : Int32) &&& 31).toUInt32).toInt32).toInt8.toInt32))) 7 (nar .byte (((p5.toUInt32 >>> ((0 : Int32) &&& 31).toUInt32).toInt32).toInt8.toInt32))) = z := ⟨_, rfl⟩
      rw [ear39] at A_b22b2b35b15
      have K := K.trans Kc (allS (Or.inr sz_b22b2b35b15) all0)
      have Zs := Nat.le_trans Zs Kc.1
      have N := Fr.app N N9
      show Go p e below _ T39 (mkF m 42 #[.val (.int p1), .val (.int p2), .val (.int p3), .val (.int p4), .val (.int p5), .val (.ref b0), .val (.int (4 : Int32)), .unset] [])
      refine own_aload X hx hby (.ref b0) at_42 rfl rfl 44 rfl ?_
      refine own_callV X hx hby hZ (st := []) [] rfl hown (hw _ (List.mem_of_getElem? (i := 44) rfl)) (hw _ (List.mem_of_getElem? (i := 45) rfl)) (hw _ (List.mem_of_getElem? (i := 47) rfl)) (hw _ (List.mem_of_getElem? (i := 46) rfl)) (hw _ (List.mem_of_getElem? (i := 2) rfl)) (hw _ (List.mem_of_getElem? (i := 48) rfl)) E_b0 (by decide) at_44 (rm9 l Z a0 hw b0 h39 n0 Zs F_length_b0) eT pd_0 rfl (by rw [hml]; rfl) (by decide) 0 rfl (by decide) (by decide) (by decide) 47 rfl ?_
      intro T44 L9 v9 X hQ
      obtain ⟨rfl, N9, eT⟩ := hQ
      have N := Fr.app N N9
      show Go p e below _ T44 (mkF m 47 #[.val (.int p1), .val (.int p2), .val (.int p3), .val (.int p4), .val (.int p5), .val (.ref b0), .val (.int (4 : Int32)), .unset] [(.int (8 : Int32))])
      refine own_bipush X hx hby (8 : Int32) at_47 rfl 49 rfl ?_
      have c49 : (8 : Int32) = (8 : Int32) := by decide
      refine own_icmp_eq X hx hby at_49 54 52 (by decide) rfl (fun _ => ?_) (fun q => absurd c49 q)
      refine own_aload X hx hby (.ref b0) at_54 rfl rfl 56 rfl ?_
      by_cases q8 : n3 = 8
      · skip
        subst q8
        refine own_callV X hx hby hZ (st := []) [] rfl hown (hw _ (List.mem_of_getElem? (i := 49) rfl)) (hw _ (List.mem_of_getElem? (i := 50) rfl)) (hw _ (List.mem_of_getElem? (i := 52) rfl)) (hw _ (List.mem_of_getElem? (i := 51) rfl)) (hw _ (List.mem_of_getElem? (i := 2) rfl)) (hw _ (List.mem_of_getElem? (i := 53) rfl)) E_b0 (by decide) at_56 (rm10_c l Z a0 hw b0 b22b2b35b15 ar39 h39 n0 Zs A_b22b2b35b15 E_b22b2b35b15 F_bytes_b0 F_length_b0) eT pd_3 rfl (by rw [hml]; rfl) (by decide) 0 rfl (by decide) (by decide) (by decide) 59 rfl ?_
        intro T56 L9 v9 X hQ
        obtain ⟨h56, eT⟩ : ∃ z, T56.heap = z := ⟨_, rfl⟩
        rw [eT] at hQ
        have lt_b0 := E_b0.lt
        have lt_b16b2b35b15 := A_b16b2b35b15.lt
        have lt_b22b2b35b15 := A_b22b2b35b15.lt
        have lt_b8b6 := A_b8b6.lt
        obtain ⟨b56b8b7, rfl, N9, Kc, hs_b56b8b7, A_b56b8b7, E_b56b8b7⟩ := hQ
        have g_b56b8b7 : n0 ≤ b56b8b7 := Nat.le_trans Zs hs_b56b8b7
        have sz_b56b8b7 : h0.size ≤ b56b8b7 := Nat.le_trans K.1 hs_b56b8b7
        have ne_b0_b56b8b7 : b0 ≠ b56b8b7 := Nat.ne_of_lt (Nat.lt_of_lt_of_le lt_b0 hs_b56b8b7)
        have ne_b16b2b35b15_b56b8b7 : b16b2b35b15 ≠ b56b8b7 := Nat.ne_of_lt (Nat.lt_of_lt_of_le lt_b16b2b35b15 hs_b56b8b7)
        have ne_b22b2b35b15_b56b8b7 : b22b2b35b15 ≠ b56b8b7 := Nat.ne_of_lt (Nat.lt_of_lt_of_le lt_b22b2b35b15 hs_b56b8b7)
        have ne_b8b6_b56b8b7 : b8b6 ≠ b56b8b7 := Nat.ne_of_lt (Nat.lt_of_lt_of_le lt_b8b6 hs_b56b8b7)
        have E_b0 := E_b0.keep Kc
        have F_bytes_b0 := F_bytes_b0.keep Kc nin0
        have F_length_b0 := F_length_b0.keep Kc nin0
        have A_b8b6 := A_b8b6.keep Kc nin0
        have E_b8b6 := E_b8b6.keep Kc
        have A_b16b2b35b15 := A_b16b2b35b15.keep Kc nin0
        have E_b16b2b35b15 := E_b16b2b35b15.keep Kc
        have A_b22b2b35b15 := A_b22b2b35b15.keep Kc nin0
        have E_b22b2b35b15 := E_b22b2b35b15.keep Kc
        have K := K.trans Kc all0
        have Zs := Nat.le_trans Zs Kc.1
        have N := Fr.app N N9
        show Go p e below _ T56 (mkF m 59 #[.val (.int p1), .val (.int p2), .val (.int p3), .val (.int p4), .val (.int p5), .val (.ref b0), .val (.int (4 : Int32)), .unset] [(.ref b56b8b7)])
        refine own_astore X hx hby at_59 rfl (l' := #[.val (.int p1), .val (.int p2), .val (.int p3), .val (.int p4), .val (.int p5), .val (.ref b0), .val (.int (4 : Int32)), .val (.ref b56b8b7)]) rfl 61 rfl ?_
        refine own_aload X hx hby (.ref b56b8b7) at_61 rfl rfl 63 rfl ?_
        refine own_arraylength X hx hby hZ (8 : Int32) eT A_b56b8b7 rfl at_63 64 rfl ?_
        refine own_bipush X hx hby (8 : Int32) at_64 rfl 66 rfl ?_
        have c66 : (8 : Int32) = (8 : Int32) := by decide
        refine own_icmp_eq X hx hby at_66 71 69 (by decide) rfl (fun _ => ?_) (fun q => absurd c66 q)
        refine own_aload X hx hby (.ref b56b8b7) at_71 rfl rfl 73 rfl ?_
        refine own_iconst X hx hby (0 : Int32) at_73 rfl 74 rfl ?_
        refine own_iload X hx hby (4 : Int32) at_74 rfl 76 rfl ?_
        refine own_iloadN X hx hby p2 at_76 rfl 77 rfl ?_
        refine own_iloadN X hx hby p3 at_77 rfl 78 rfl ?_
        refine own_iload X hx hby p5 at_78 rfl 80 rfl ?_
        refine own_callS X hx hby hZ (st := []) [(.ref b56b8b7), (.int (0 : Int32)), (.int (4 : Int32)), (.int p2), (.int p3), (.int p5)] rfl hown (hw _ (List.mem_of_getElem? (i := 63) rfl)) (hw _ (List.mem_of_getElem? (i := 64) rfl)) (hw _ (List.mem_of_getElem? (i := 65) rfl)) (hw _ (List.mem_of_getElem? (i := 66) rfl)) (by decide) at_80 (rm11 l Z a0 hw b56b8b7 (0 : Int32) (4 : Int32) p2 p3 p5 ar39 h56 n0 Zs (by decide) A_b56b8b7 E_b56b8b7) eT pd_9 rfl (by rw [hml]; rfl) (by decide) 0 rfl (by decide) (by decide) (by decide) 83 rfl ?_
        intro T80 L9 v9 X hQ
        obtain ⟨rfl, N9, eT⟩ := hQ
        have N := Fr.app N N9
        show Go p e below _ T80 (mkF m 83 #[.val (.int p1), .val (.int p2), .val (.int p3), .val (.int p4), .val (.int p5), .val (.ref b0), .val (.int (4 : Int32)), .val (.ref b56b8b7)] [(.int (f11 (0 : Int32) (4 : Int32) p2 p3 p5 ar39))])
        have c83 : ¬ (f11 (0 : Int32) (4 : Int32) p2 p3 p5 ar39) = (0 : Int32) := own_oka _ _ _ _ _ (24 : Int32) _ (by decide) (by decide) (by decide) (by rw [← ear39]; exact w0)
        refine own_if_eq X hx hby at_83 197 86 (by decide) rfl (fun q => absurd q c83) (fun _ => ?_)
        refine own_aload X hx hby (.ref b56b8b7) at_86 rfl rfl 88 rfl ?_
        refine own_iconst X hx hby (1 : Int32) at_88 rfl 89 rfl ?_
        refine own_iload X hx hby (4 : Int32) at_89 rfl 91 rfl ?_
        refine own_iloadN X hx hby p2 at_91 rfl 92 rfl ?_
        refine own_iloadN X hx hby p3 at_92 rfl 93 rfl ?_
        refine own_iload X hx hby p5 at_93 rfl 95 rfl ?_
        refine own_callS X hx hby hZ (st := []) [(.ref b56b8b7), (.int (1 : Int32)), (.int (4 : Int32)), (.int p2), (.int p3), (.int p5)] rfl hown (hw _ (List.mem_of_getElem? (i := 63) rfl)) (hw _ (List.mem_of_getElem? (i := 64) rfl)) (hw _ (List.mem_of_getElem? (i := 65) rfl)) (hw _ (List.mem_of_getElem? (i := 66) rfl)) (by decide) at_95 (rm11 l Z a0 hw b56b8b7 (1 : Int32) (4 : Int32) p2 p3 p5 ar39 h56 n0 Zs (by decide) A_b56b8b7 E_b56b8b7) eT pd_9 rfl (by rw [hml]; rfl) (by decide) 0 rfl (by decide) (by decide) (by decide) 98 rfl ?_
        intro T95 L9 v9 X hQ
        obtain ⟨rfl, N9, eT⟩ := hQ
        have N := Fr.app N N9
        show Go p e below _ T95 (mkF m 98 #[.val (.int p1), .val (.int p2), .val (.int p3), .val (.int p4), .val (.int p5), .val (.ref b0), .val (.int (4 : Int32)), .val (.ref b56b8b7)] [(.int (f11 (1 : Int32) (4 : Int32) p2 p3 p5 ar39))])
        have c98 : ¬ (f11 (1 : Int32) (4 : Int32) p2 p3 p5 ar39) = (0 : Int32) := own_oka _ _ _ _ _ (16 : Int32) _ (by decide) (by decide) (by decide) (by rw [← ear39]; exact w1)
        refine own_if_eq X hx hby at_98 197 101 (by decide) rfl (fun q => absurd q c98) (fun _ => ?_)
        refine own_aload X hx hby (.ref b56b8b7) at_101 rfl rfl 103 rfl ?_
        refine own_iconst X hx hby (2 : Int32) at_103 rfl 104 rfl ?_
        refine own_iload X hx hby (4 : Int32) at_104 rfl 106 rfl ?_
        refine own_iloadN X hx hby p2 at_106 rfl 107 rfl ?_
        refine own_iloadN X hx hby p3 at_107 rfl 108 rfl ?_
        refine own_iload X hx hby p5 at_108 rfl 110 rfl ?_
        refine own_callS X hx hby hZ (st := []) [(.ref b56b8b7), (.int (2 : Int32)), (.int (4 : Int32)), (.int p2), (.int p3), (.int p5)] rfl hown (hw _ (List.mem_of_getElem? (i := 63) rfl)) (hw _ (List.mem_of_getElem? (i := 64) rfl)) (hw _ (List.mem_of_getElem? (i := 65) rfl)) (hw _ (List.mem_of_getElem? (i := 66) rfl)) (by decide) at_110 (rm11 l Z a0 hw b56b8b7 (2 : Int32) (4 : Int32) p2 p3 p5 ar39 h56 n0 Zs (by decide) A_b56b8b7 E_b56b8b7) eT pd_9 rfl (by rw [hml]; rfl) (by decide) 0 rfl (by decide) (by decide) (by decide) 113 rfl ?_
        intro T110 L9 v9 X hQ
        obtain ⟨rfl, N9, eT⟩ := hQ
        have N := Fr.app N N9
        show Go p e below _ T110 (mkF m 113 #[.val (.int p1), .val (.int p2), .val (.int p3), .val (.int p4), .val (.int p5), .val (.ref b0), .val (.int (4 : Int32)), .val (.ref b56b8b7)] [(.int (f11 (2 : Int32) (4 : Int32) p2 p3 p5 ar39))])
        have c113 : ¬ (f11 (2 : Int32) (4 : Int32) p2 p3 p5 ar39) = (0 : Int32) := own_oka _ _ _ _ _ (8 : Int32) _ (by decide) (by decide) (by decide) (by rw [← ear39]; exact w2)
        refine own_if_eq X hx hby at_113 197 116 (by decide) rfl (fun q => absurd q c113) (fun _ => ?_)
        refine own_aload X hx hby (.ref b56b8b7) at_116 rfl rfl 118 rfl ?_
        refine own_iconst X hx hby (3 : Int32) at_118 rfl 119 rfl ?_
        refine own_iload X hx hby (4 : Int32) at_119 rfl 121 rfl ?_
        refine own_iloadN X hx hby p2 at_121 rfl 122 rfl ?_
        refine own_iloadN X hx hby p3 at_122 rfl 123 rfl ?_
        refine own_iload X hx hby p5 at_123 rfl 125 rfl ?_
        refine own_callS X hx hby hZ (st := []) [(.ref b56b8b7), (.int (3 : Int32)), (.int (4 : Int32)), (.int p2), (.int p3), (.int p5)] rfl hown (hw _ (List.mem_of_getElem? (i := 63) rfl)) (hw _ (List.mem_of_getElem? (i := 64) rfl)) (hw _ (List.mem_of_getElem? (i := 65) rfl)) (hw _ (List.mem_of_getElem? (i := 66) rfl)) (by decide) at_125 (rm11 l Z a0 hw b56b8b7 (3 : Int32) (4 : Int32) p2 p3 p5 ar39 h56 n0 Zs (by decide) A_b56b8b7 E_b56b8b7) eT pd_9 rfl (by rw [hml]; rfl) (by decide) 0 rfl (by decide) (by decide) (by decide) 128 rfl ?_
        intro T125 L9 v9 X hQ
        obtain ⟨rfl, N9, eT⟩ := hQ
        have N := Fr.app N N9
        show Go p e below _ T125 (mkF m 128 #[.val (.int p1), .val (.int p2), .val (.int p3), .val (.int p4), .val (.int p5), .val (.ref b0), .val (.int (4 : Int32)), .val (.ref b56b8b7)] [(.int (f11 (3 : Int32) (4 : Int32) p2 p3 p5 ar39))])
        have c128 : ¬ (f11 (3 : Int32) (4 : Int32) p2 p3 p5 ar39) = (0 : Int32) := own_oka _ _ _ _ _ (0 : Int32) _ (by decide) (by decide) (by decide) (by rw [← ear39]; exact w3)
        refine own_if_eq X hx hby at_128 197 131 (by decide) rfl (fun q => absurd q c128) (fun _ => ?_)
        refine own_aload X hx hby (.ref b56b8b7) at_131 rfl rfl 133 rfl ?_
        refine own_iconst X hx hby (4 : Int32) at_133 rfl 134 rfl ?_
        refine own_iload X hx hby (4 : Int32) at_134 rfl 136 rfl ?_
        refine own_iloadN X hx hby p2 at_136 rfl 137 rfl ?_
        refine own_iloadN X hx hby p3 at_137 rfl 138 rfl ?_
        refine own_iload X hx hby p5 at_138 rfl 140 rfl ?_
        refine own_callS X hx hby hZ (st := []) [(.ref b56b8b7), (.int (4 : Int32)), (.int (4 : Int32)), (.int p2), (.int p3), (.int p5)] rfl hown (hw _ (List.mem_of_getElem? (i := 63) rfl)) (hw _ (List.mem_of_getElem? (i := 64) rfl)) (hw _ (List.mem_of_getElem? (i := 65) rfl)) (hw _ (List.mem_of_getElem? (i := 66) rfl)) (by decide) at_140 (rm11 l Z a0 hw b56b8b7 (4 : Int32) (4 : Int32) p2 p3 p5 ar39 h56 n0 Zs (by decide) A_b56b8b7 E_b56b8b7) eT pd_9 rfl (by rw [hml]; rfl) (by decide) 0 rfl (by decide) (by decide) (by decide) 143 rfl ?_
        intro T140 L9 v9 X hQ
        obtain ⟨rfl, N9, eT⟩ := hQ
        have N := Fr.app N N9
        show Go p e below _ T140 (mkF m 143 #[.val (.int p1), .val (.int p2), .val (.int p3), .val (.int p4), .val (.int p5), .val (.ref b0), .val (.int (4 : Int32)), .val (.ref b56b8b7)] [(.int (f11 (4 : Int32) (4 : Int32) p2 p3 p5 ar39))])
        have c143 : ¬ (f11 (4 : Int32) (4 : Int32) p2 p3 p5 ar39) = (0 : Int32) := own_okv _ _ _ _ _ (24 : Int32) _ (by decide) (by decide) (by decide) (by rw [← ear39]; rfl)
        refine own_if_eq X hx hby at_143 197 146 (by decide) rfl (fun q => absurd q c143) (fun _ => ?_)
        refine own_aload X hx hby (.ref b56b8b7) at_146 rfl rfl 148 rfl ?_
        refine own_iconst X hx hby (5 : Int32) at_148 rfl 149 rfl ?_
        refine own_iload X hx hby (4 : Int32) at_149 rfl 151 rfl ?_
        refine own_iloadN X hx hby p2 at_151 rfl 152 rfl ?_
        refine own_iloadN X hx hby p3 at_152 rfl 153 rfl ?_
        refine own_iload X hx hby p5 at_153 rfl 155 rfl ?_
        refine own_callS X hx hby hZ (st := []) [(.ref b56b8b7), (.int (5 : Int32)), (.int (4 : Int32)), (.int p2), (.int p3), (.int p5)] rfl hown (hw _ (List.mem_of_getElem? (i := 63) rfl)) (hw _ (List.mem_of_getElem? (i := 64) rfl)) (hw _ (List.mem_of_getElem? (i := 65) rfl)) (hw _ (List.mem_of_getElem? (i := 66) rfl)) (by decide) at_155 (rm11 l Z a0 hw b56b8b7 (5 : Int32) (4 : Int32) p2 p3 p5 ar39 h56 n0 Zs (by decide) A_b56b8b7 E_b56b8b7) eT pd_9 rfl (by rw [hml]; rfl) (by decide) 0 rfl (by decide) (by decide) (by decide) 158 rfl ?_
        intro T155 L9 v9 X hQ
        obtain ⟨rfl, N9, eT⟩ := hQ
        have N := Fr.app N N9
        show Go p e below _ T155 (mkF m 158 #[.val (.int p1), .val (.int p2), .val (.int p3), .val (.int p4), .val (.int p5), .val (.ref b0), .val (.int (4 : Int32)), .val (.ref b56b8b7)] [(.int (f11 (5 : Int32) (4 : Int32) p2 p3 p5 ar39))])
        have c158 : ¬ (f11 (5 : Int32) (4 : Int32) p2 p3 p5 ar39) = (0 : Int32) := own_okv _ _ _ _ _ (16 : Int32) _ (by decide) (by decide) (by decide) (by rw [← ear39]; rfl)
        refine own_if_eq X hx hby at_158 197 161 (by decide) rfl (fun q => absurd q c158) (fun _ => ?_)
        refine own_aload X hx hby (.ref b56b8b7) at_161 rfl rfl 163 rfl ?_
        refine own_bipush X hx hby (6 : Int32) at_163 rfl 165 rfl ?_
        refine own_iload X hx hby (4 : Int32) at_165 rfl 167 rfl ?_
        refine own_iloadN X hx hby p2 at_167 rfl 168 rfl ?_
        refine own_iloadN X hx hby p3 at_168 rfl 169 rfl ?_
        refine own_iload X hx hby p5 at_169 rfl 171 rfl ?_
        refine own_callS X hx hby hZ (st := []) [(.ref b56b8b7), (.int (6 : Int32)), (.int (4 : Int32)), (.int p2), (.int p3), (.int p5)] rfl hown (hw _ (List.mem_of_getElem? (i := 63) rfl)) (hw _ (List.mem_of_getElem? (i := 64) rfl)) (hw _ (List.mem_of_getElem? (i := 65) rfl)) (hw _ (List.mem_of_getElem? (i := 66) rfl)) (by decide) at_171 (rm11 l Z a0 hw b56b8b7 (6 : Int32) (4 : Int32) p2 p3 p5 ar39 h56 n0 Zs (by decide) A_b56b8b7 E_b56b8b7) eT pd_9 rfl (by rw [hml]; rfl) (by decide) 0 rfl (by decide) (by decide) (by decide) 174 rfl ?_
        intro T171 L9 v9 X hQ
        obtain ⟨rfl, N9, eT⟩ := hQ
        have N := Fr.app N N9
        show Go p e below _ T171 (mkF m 174 #[.val (.int p1), .val (.int p2), .val (.int p3), .val (.int p4), .val (.int p5), .val (.ref b0), .val (.int (4 : Int32)), .val (.ref b56b8b7)] [(.int (f11 (6 : Int32) (4 : Int32) p2 p3 p5 ar39))])
        have c174 : ¬ (f11 (6 : Int32) (4 : Int32) p2 p3 p5 ar39) = (0 : Int32) := own_okv _ _ _ _ _ (8 : Int32) _ (by decide) (by decide) (by decide) (by rw [← ear39]; rfl)
        refine own_if_eq X hx hby at_174 197 177 (by decide) rfl (fun q => absurd q c174) (fun _ => ?_)
        refine own_aload X hx hby (.ref b56b8b7) at_177 rfl rfl 179 rfl ?_
        refine own_bipush X hx hby (7 : Int32) at_179 rfl 181 rfl ?_
        refine own_iload X hx hby (4 : Int32) at_181 rfl 183 rfl ?_
        refine own_iloadN X hx hby p2 at_183 rfl 184 rfl ?_
        refine own_iloadN X hx hby p3 at_184 rfl 185 rfl ?_
        refine own_iload X hx hby p5 at_185 rfl 187 rfl ?_
        refine own_callS X hx hby hZ (st := []) [(.ref b56b8b7), (.int (7 : Int32)), (.int (4 : Int32)), (.int p2), (.int p3), (.int p5)] rfl hown (hw _ (List.mem_of_getElem? (i := 63) rfl)) (hw _ (List.mem_of_getElem? (i := 64) rfl)) (hw _ (List.mem_of_getElem? (i := 65) rfl)) (hw _ (List.mem_of_getElem? (i := 66) rfl)) (by decide) at_187 (rm11 l Z a0 hw b56b8b7 (7 : Int32) (4 : Int32) p2 p3 p5 ar39 h56 n0 Zs (by decide) A_b56b8b7 E_b56b8b7) eT pd_9 rfl (by rw [hml]; rfl) (by decide) 0 rfl (by decide) (by decide) (by decide) 190 rfl ?_
        intro T187 L9 v9 X hQ
        obtain ⟨rfl, N9, eT⟩ := hQ
        have N := Fr.app N N9
        show Go p e below _ T187 (mkF m 190 #[.val (.int p1), .val (.int p2), .val (.int p3), .val (.int p4), .val (.int p5), .val (.ref b0), .val (.int (4 : Int32)), .val (.ref b56b8b7)] [(.int (f11 (7 : Int32) (4 : Int32) p2 p3 p5 ar39))])
        have c190 : ¬ (f11 (7 : Int32) (4 : Int32) p2 p3 p5 ar39) = (0 : Int32) := own_okv _ _ _ _ _ (0 : Int32) _ (by decide) (by decide) (by decide) (by rw [← ear39]; rfl)
        refine own_if_eq X hx hby at_190 197 193 (by decide) rfl (fun q => absurd q c190) (fun _ => ?_)
        refine own_iconst X hx hby (1 : Int32) at_193 rfl 194 rfl ?_
        refine own_goto X hx hby at_194 198 (by decide) ?_
        refine own_retN X hx hby hret hlk (t := .boolean) (z' := (1 : Int32)) (by simp) at_198 (by decide) (by decide) rfl ?_
        rw [eT]
        exact ⟨rfl, N⟩
      · skip
        refine own_callV X hx hby hZ (st := []) [] rfl hown (hw _ (List.mem_of_getElem? (i := 49) rfl)) (hw _ (List.mem_of_getElem? (i := 50) rfl)) (hw _ (List.mem_of_getElem? (i := 52) rfl)) (hw _ (List.mem_of_getElem? (i := 51) rfl)) (hw _ (List.mem_of_getElem? (i := 2) rfl)) (hw _ (List.mem_of_getElem? (i := 53) rfl)) E_b0 (by decide) at_56 (rm10_n l Z a0 hw b0 b22b2b35b15 ar39 n3 h39 n0 Zs (own_n8 q8 h3.2) h3.2 A_b22b2b35b15 E_b22b2b35b15 F_bytes_b0 F_length_b0) eT pd_3 rfl (by rw [hml]; rfl) (by decide) 0 rfl (by decide) (by decide) (by decide) 59 rfl ?_
        intro T56 L9 v9 X hQ
        obtain ⟨h56, eT⟩ : ∃ z, T56.heap = z := ⟨_, rfl⟩
        rw [eT] at hQ
        have lt_b0 := E_b0.lt
        have lt_b16b2b35b15 := A_b16b2b35b15.lt
        have lt_b22b2b35b15 := A_b22b2b35b15.lt
        have lt_b8b6 := A_b8b6.lt
        obtain ⟨b56b8b15, rfl, N9, Kc, hs_b56b8b15, A_b56b8b15, E_b56b8b15⟩ := hQ
        have g_b56b8b15 : n0 ≤ b56b8b15 := Nat.le_trans Zs hs_b56b8b15
        have sz_b56b8b15 : h0.size ≤ b56b8b15 := Nat.le_trans K.1 hs_b56b8b15
        have ne_b0_b56b8b15 : b0 ≠ b56b8b15 := Nat.ne_of_lt (Nat.lt_of_lt_of_le lt_b0 hs_b56b8b15)
        have ne_b16b2b35b15_b56b8b15 : b16b2b35b15 ≠ b56b8b15 := Nat.ne_of_lt (Nat.lt_of_lt_of_le lt_b16b2b35b15 hs_b56b8b15)
        have ne_b22b2b35b15_b56b8b15 : b22b2b35b15 ≠ b56b8b15 := Nat.ne_of_lt (Nat.lt_of_lt_of_le lt_b22b2b35b15 hs_b56b8b15)
        have ne_b8b6_b56b8b15 : b8b6 ≠ b56b8b15 := Nat.ne_of_lt (Nat.lt_of_lt_of_le lt_b8b6 hs_b56b8b15)
        have E_b0 := E_b0.keep Kc
        have F_bytes_b0 := F_bytes_b0.keep Kc nin0
        have F_length_b0 := F_length_b0.keep Kc nin0
        have A_b8b6 := A_b8b6.keep Kc nin0
        have E_b8b6 := E_b8b6.keep Kc
        have A_b16b2b35b15 := A_b16b2b35b15.keep Kc nin0
        have E_b16b2b35b15 := E_b16b2b35b15.keep Kc
        have A_b22b2b35b15 := A_b22b2b35b15.keep Kc nin0
        have E_b22b2b35b15 := E_b22b2b35b15.keep Kc
        obtain ⟨ar56, ear56⟩ : ∃ z : Nat → Int32, (own_cp ar39 (Int32.toNatClampNeg (f7 (Int32.ofNat n3) (8 : Int32)))) = z := ⟨_, rfl⟩
        rw [ear56] at A_b56b8b15
        have K := K.trans Kc all0
        have Zs := Nat.le_trans Zs Kc.1
        have N := Fr.app N N9
        show Go p e below _ T56 (mkF m 59 #[.val (.int p1), .val (.int p2), .val (.int p3), .val (.int p4), .val (.int p5), .val (.ref b0), .val (.int (4 : Int32)), .unset] [(.ref b56b8b15)])
        refine own_astore X hx hby at_59 rfl (l' := #[.val (.int p1), .val (.int p2), .val (.int p3), .val (.int p4), .val (.int p5), .val (.ref b0), .val (.int (4 : Int32)), .val (.ref b56b8b15)]) rfl 61 rfl ?_
        refine own_aload X hx hby (.ref b56b8b15) at_61 rfl rfl 63 rfl ?_
        refine own_arraylength X hx hby hZ (8 : Int32) eT A_b56b8b15 rfl at_63 64 rfl ?_
        refine own_bipush X hx hby (8 : Int32) at_64 rfl 66 rfl ?_
        have c66 : (8 : Int32) = (8 : Int32) := by decide
        refine own_icmp_eq X hx hby at_66 71 69 (by decide) rfl (fun _ => ?_) (fun q => absurd c66 q)
        refine own_aload X hx hby (.ref b56b8b15) at_71 rfl rfl 73 rfl ?_
        refine own_iconst X hx hby (0 : Int32) at_73 rfl 74 rfl ?_
        refine own_iload X hx hby (4 : Int32) at_74 rfl 76 rfl ?_
        refine own_iloadN X hx hby p2 at_76 rfl 77 rfl ?_
        refine own_iloadN X hx hby p3 at_77 rfl 78 rfl ?_
        refine own_iload X hx hby p5 at_78 rfl 80 rfl ?_
        refine own_callS X hx hby hZ (st := []) [(.ref b56b8b15), (.int (0 : Int32)), (.int (4 : Int32)), (.int p2), (.int p3), (.int p5)] rfl hown (hw _ (List.mem_of_getElem? (i := 63) rfl)) (hw _ (List.mem_of_getElem? (i := 64) rfl)) (hw _ (List.mem_of_getElem? (i := 65) rfl)) (hw _ (List.mem_of_getElem? (i := 66) rfl)) (by decide) at_80 (rm11 l Z a0 hw b56b8b15 (0 : Int32) (4 : Int32) p2 p3 p5 ar56 h56 n0 Zs (by decide) A_b56b8b15 E_b56b8b15) eT pd_9 rfl (by rw [hml]; rfl) (by decide) 0 rfl (by decide) (by decide) (by decide) 83 rfl ?_
        intro T80 L9 v9 X hQ
        obtain ⟨rfl, N9, eT⟩ := hQ
        have N := Fr.app N N9
        show Go p e below _ T80 (mkF m 83 #[.val (.int p1), .val (.int p2), .val (.int p3), .val (.int p4), .val (.int p5), .val (.ref b0), .val (.int (4 : Int32)), .val (.ref b56b8b15)] [(.int (f11 (0 : Int32) (4 : Int32) p2 p3 p5 ar56))])
        have c83 : ¬ (f11 (0 : Int32) (4 : Int32) p2 p3 p5 ar56) = (0 : Int32) := own_oka _ _ _ _ _ (24 : Int32) _ (by decide) (by decide) (by decide) (by rw [← ear56]; refine (own_cpi (own_ck h3.2 (by decide) (Nat.lt_of_lt_of_le (by decide) h3.1) (by decide))).trans ?_; rw [← ear39]; exact w0)
        refine own_if_eq X hx hby at_83 197 86 (by decide) rfl (fun q => absurd q c83) (fun _ => ?_)
        refine own_aload X hx hby (.ref b56b8b15) at_86 rfl rfl 88 rfl ?_
        refine own_iconst X hx hby (1 : Int32) at_88 rfl 89 rfl ?_
        refine own_iload X hx hby (4 : Int32) at_89 rfl 91 rfl ?_
        refine own_iloadN X hx hby p2 at_91 rfl 92 rfl ?_
        refine own_iloadN X hx hby p3 at_92 rfl 93 rfl ?_
        refine own_iload X hx hby p5 at_93 rfl 95 rfl ?_
        refine own_callS X hx hby hZ (st := []) [(.ref b56b8b15), (.int (1 : Int32)), (.int (4 : Int32)), (.int p2), (.int p3), (.int p5)] rfl hown (hw _ (List.mem_of_getElem? (i := 63) rfl)) (hw _ (List.mem_of_getElem? (i := 64) rfl)) (hw _ (List.mem_of_getElem? (i := 65) rfl)) (hw _ (List.mem_of_getElem? (i := 66) rfl)) (by decide) at_95 (rm11 l Z a0 hw b56b8b15 (1 : Int32) (4 : Int32) p2 p3 p5 ar56 h56 n0 Zs (by decide) A_b56b8b15 E_b56b8b15) eT pd_9 rfl (by rw [hml]; rfl) (by decide) 0 rfl (by decide) (by decide) (by decide) 98 rfl ?_
        intro T95 L9 v9 X hQ
        obtain ⟨rfl, N9, eT⟩ := hQ
        have N := Fr.app N N9
        show Go p e below _ T95 (mkF m 98 #[.val (.int p1), .val (.int p2), .val (.int p3), .val (.int p4), .val (.int p5), .val (.ref b0), .val (.int (4 : Int32)), .val (.ref b56b8b15)] [(.int (f11 (1 : Int32) (4 : Int32) p2 p3 p5 ar56))])
        have c98 : ¬ (f11 (1 : Int32) (4 : Int32) p2 p3 p5 ar56) = (0 : Int32) := own_oka _ _ _ _ _ (16 : Int32) _ (by decide) (by decide) (by decide) (by rw [← ear56]; refine (own_cpi (own_ck h3.2 (by decide) (Nat.lt_of_lt_of_le (by decide) h3.1) (by decide))).trans ?_; rw [← ear39]; exact w1)
        refine own_if_eq X hx hby at_98 197 101 (by decide) rfl (fun q => absurd q c98) (fun _ => ?_)
        refine own_aload X hx hby (.ref b56b8b15) at_101 rfl rfl 103 rfl ?_
        refine own_iconst X hx hby (2 : Int32) at_103 rfl 104 rfl ?_
        refine own_iload X hx hby (4 : Int32) at_104 rfl 106 rfl ?_
        refine own_iloadN X hx hby p2 at_106 rfl 107 rfl ?_
        refine own_iloadN X hx hby p3 at_107 rfl 108 rfl ?_
        refine own_iload X hx hby p5 at_108 rfl 110 rfl ?_
        refine own_callS X hx hby hZ (st := []) [(.ref b56b8b15), (.int (2 : Int32)), (.int (4 : Int32)), (.int p2), (.int p3), (.int p5)] rfl hown (hw _ (List.mem_of_getElem? (i := 63) rfl)) (hw _ (List.mem_of_getElem? (i := 64) rfl)) (hw _ (List.mem_of_getElem? (i := 65) rfl)) (hw _ (List.mem_of_getElem? (i := 66) rfl)) (by decide) at_110 (rm11 l Z a0 hw b56b8b15 (2 : Int32) (4 : Int32) p2 p3 p5 ar56 h56 n0 Zs (by decide) A_b56b8b15 E_b56b8b15) eT pd_9 rfl (by rw [hml]; rfl) (by decide) 0 rfl (by decide) (by decide) (by decide) 113 rfl ?_
        intro T110 L9 v9 X hQ
        obtain ⟨rfl, N9, eT⟩ := hQ
        have N := Fr.app N N9
        show Go p e below _ T110 (mkF m 113 #[.val (.int p1), .val (.int p2), .val (.int p3), .val (.int p4), .val (.int p5), .val (.ref b0), .val (.int (4 : Int32)), .val (.ref b56b8b15)] [(.int (f11 (2 : Int32) (4 : Int32) p2 p3 p5 ar56))])
        have c113 : ¬ (f11 (2 : Int32) (4 : Int32) p2 p3 p5 ar56) = (0 : Int32) := own_oka _ _ _ _ _ (8 : Int32) _ (by decide) (by decide) (by decide) (by rw [← ear56]; refine (own_cpi (own_ck h3.2 (by decide) (Nat.lt_of_lt_of_le (by decide) h3.1) (by decide))).trans ?_; rw [← ear39]; exact w2)
        refine own_if_eq X hx hby at_113 197 116 (by decide) rfl (fun q => absurd q c113) (fun _ => ?_)
        refine own_aload X hx hby (.ref b56b8b15) at_116 rfl rfl 118 rfl ?_
        refine own_iconst X hx hby (3 : Int32) at_118 rfl 119 rfl ?_
        refine own_iload X hx hby (4 : Int32) at_119 rfl 121 rfl ?_
        refine own_iloadN X hx hby p2 at_121 rfl 122 rfl ?_
        refine own_iloadN X hx hby p3 at_122 rfl 123 rfl ?_
        refine own_iload X hx hby p5 at_123 rfl 125 rfl ?_
        refine own_callS X hx hby hZ (st := []) [(.ref b56b8b15), (.int (3 : Int32)), (.int (4 : Int32)), (.int p2), (.int p3), (.int p5)] rfl hown (hw _ (List.mem_of_getElem? (i := 63) rfl)) (hw _ (List.mem_of_getElem? (i := 64) rfl)) (hw _ (List.mem_of_getElem? (i := 65) rfl)) (hw _ (List.mem_of_getElem? (i := 66) rfl)) (by decide) at_125 (rm11 l Z a0 hw b56b8b15 (3 : Int32) (4 : Int32) p2 p3 p5 ar56 h56 n0 Zs (by decide) A_b56b8b15 E_b56b8b15) eT pd_9 rfl (by rw [hml]; rfl) (by decide) 0 rfl (by decide) (by decide) (by decide) 128 rfl ?_
        intro T125 L9 v9 X hQ
        obtain ⟨rfl, N9, eT⟩ := hQ
        have N := Fr.app N N9
        show Go p e below _ T125 (mkF m 128 #[.val (.int p1), .val (.int p2), .val (.int p3), .val (.int p4), .val (.int p5), .val (.ref b0), .val (.int (4 : Int32)), .val (.ref b56b8b15)] [(.int (f11 (3 : Int32) (4 : Int32) p2 p3 p5 ar56))])
        have c128 : ¬ (f11 (3 : Int32) (4 : Int32) p2 p3 p5 ar56) = (0 : Int32) := own_oka _ _ _ _ _ (0 : Int32) _ (by decide) (by decide) (by decide) (by rw [← ear56]; refine (own_cpi (own_ck h3.2 (by decide) (Nat.lt_of_lt_of_le (by decide) h3.1) (by decide))).trans ?_; rw [← ear39]; exact w3)
        refine own_if_eq X hx hby at_128 197 131 (by decide) rfl (fun q => absurd q c128) (fun _ => ?_)
        refine own_aload X hx hby (.ref b56b8b15) at_131 rfl rfl 133 rfl ?_
        refine own_iconst X hx hby (4 : Int32) at_133 rfl 134 rfl ?_
        refine own_iload X hx hby (4 : Int32) at_134 rfl 136 rfl ?_
        refine own_iloadN X hx hby p2 at_136 rfl 137 rfl ?_
        refine own_iloadN X hx hby p3 at_137 rfl 138 rfl ?_
        refine own_iload X hx hby p5 at_138 rfl 140 rfl ?_
        refine own_callS X hx hby hZ (st := []) [(.ref b56b8b15), (.int (4 : Int32)), (.int (4 : Int32)), (.int p2), (.int p3), (.int p5)] rfl hown (hw _ (List.mem_of_getElem? (i := 63) rfl)) (hw _ (List.mem_of_getElem? (i := 64) rfl)) (hw _ (List.mem_of_getElem? (i := 65) rfl)) (hw _ (List.mem_of_getElem? (i := 66) rfl)) (by decide) at_140 (rm11 l Z a0 hw b56b8b15 (4 : Int32) (4 : Int32) p2 p3 p5 ar56 h56 n0 Zs (by decide) A_b56b8b15 E_b56b8b15) eT pd_9 rfl (by rw [hml]; rfl) (by decide) 0 rfl (by decide) (by decide) (by decide) 143 rfl ?_
        intro T140 L9 v9 X hQ
        obtain ⟨rfl, N9, eT⟩ := hQ
        have N := Fr.app N N9
        show Go p e below _ T140 (mkF m 143 #[.val (.int p1), .val (.int p2), .val (.int p3), .val (.int p4), .val (.int p5), .val (.ref b0), .val (.int (4 : Int32)), .val (.ref b56b8b15)] [(.int (f11 (4 : Int32) (4 : Int32) p2 p3 p5 ar56))])
        have c143 : ¬ (f11 (4 : Int32) (4 : Int32) p2 p3 p5 ar56) = (0 : Int32) := own_okv _ _ _ _ _ (24 : Int32) _ (by decide) (by decide) (by decide) (by rw [← ear56]; refine (own_cpi (own_ck h3.2 (by decide) (Nat.lt_of_lt_of_le (by decide) h3.1) (by decide))).trans ?_; rw [← ear39]; rfl)
        refine own_if_eq X hx hby at_143 197 146 (by decide) rfl (fun q => absurd q c143) (fun _ => ?_)
        refine own_aload X hx hby (.ref b56b8b15) at_146 rfl rfl 148 rfl ?_
        refine own_iconst X hx hby (5 : Int32) at_148 rfl 149 rfl ?_
        refine own_iload X hx hby (4 : Int32) at_149 rfl 151 rfl ?_
        refine own_iloadN X hx hby p2 at_151 rfl 152 rfl ?_
        refine own_iloadN X hx hby p3 at_152 rfl 153 rfl ?_
        refine own_iload X hx hby p5 at_153 rfl 155 rfl ?_
        refine own_callS X hx hby hZ (st := []) [(.ref b56b8b15), (.int (5 : Int32)), (.int (4 : Int32)), (.int p2), (.int p3), (.int p5)] rfl hown (hw _ (List.mem_of_getElem? (i := 63) rfl)) (hw _ (List.mem_of_getElem? (i := 64) rfl)) (hw _ (List.mem_of_getElem? (i := 65) rfl)) (hw _ (List.mem_of_getElem? (i := 66) rfl)) (by decide) at_155 (rm11 l Z a0 hw b56b8b15 (5 : Int32) (4 : Int32) p2 p3 p5 ar56 h56 n0 Zs (by decide) A_b56b8b15 E_b56b8b15) eT pd_9 rfl (by rw [hml]; rfl) (by decide) 0 rfl (by decide) (by decide) (by decide) 158 rfl ?_
        intro T155 L9 v9 X hQ
        obtain ⟨rfl, N9, eT⟩ := hQ
        have N := Fr.app N N9
        show Go p e below _ T155 (mkF m 158 #[.val (.int p1), .val (.int p2), .val (.int p3), .val (.int p4), .val (.int p5), .val (.ref b0), .val (.int (4 : Int32)), .val (.ref b56b8b15)] [(.int (f11 (5 : Int32) (4 : Int32) p2 p3 p5 ar56))])
        have c158 : ¬ (f11 (5 : Int32) (4 : Int32) p2 p3 p5 ar56) = (0 : Int32) := own_okv _ _ _ _ _ (16 : Int32) _ (by decide) (by decide) (by decide) (by rw [← ear56]; refine (own_cpi (own_ck h3.2 (by decide) (Nat.lt_of_lt_of_le (by decide) h3.1) (by decide))).trans ?_; rw [← ear39]; rfl)
        refine own_if_eq X hx hby at_158 197 161 (by decide) rfl (fun q => absurd q c158) (fun _ => ?_)
        refine own_aload X hx hby (.ref b56b8b15) at_161 rfl rfl 163 rfl ?_
        refine own_bipush X hx hby (6 : Int32) at_163 rfl 165 rfl ?_
        refine own_iload X hx hby (4 : Int32) at_165 rfl 167 rfl ?_
        refine own_iloadN X hx hby p2 at_167 rfl 168 rfl ?_
        refine own_iloadN X hx hby p3 at_168 rfl 169 rfl ?_
        refine own_iload X hx hby p5 at_169 rfl 171 rfl ?_
        refine own_callS X hx hby hZ (st := []) [(.ref b56b8b15), (.int (6 : Int32)), (.int (4 : Int32)), (.int p2), (.int p3), (.int p5)] rfl hown (hw _ (List.mem_of_getElem? (i := 63) rfl)) (hw _ (List.mem_of_getElem? (i := 64) rfl)) (hw _ (List.mem_of_getElem? (i := 65) rfl)) (hw _ (List.mem_of_getElem? (i := 66) rfl)) (by decide) at_171 (rm11 l Z a0 hw b56b8b15 (6 : Int32) (4 : Int32) p2 p3 p5 ar56 h56 n0 Zs (by decide) A_b56b8b15 E_b56b8b15) eT pd_9 rfl (by rw [hml]; rfl) (by decide) 0 rfl (by decide) (by decide) (by decide) 174 rfl ?_
        intro T171 L9 v9 X hQ
        obtain ⟨rfl, N9, eT⟩ := hQ
        have N := Fr.app N N9
        show Go p e below _ T171 (mkF m 174 #[.val (.int p1), .val (.int p2), .val (.int p3), .val (.int p4), .val (.int p5), .val (.ref b0), .val (.int (4 : Int32)), .val (.ref b56b8b15)] [(.int (f11 (6 : Int32) (4 : Int32) p2 p3 p5 ar56))])
        have c174 : ¬ (f11 (6 : Int32) (4 : Int32) p2 p3 p5 ar56) = (0 : Int32) := own_okv _ _ _ _ _ (8 : Int32) _ (by decide) (by decide) (by decide) (by rw [← ear56]; refine (own_cpi (own_ck h3.2 (by decide) (Nat.lt_of_lt_of_le (by decide) h3.1) (by decide))).trans ?_; rw [← ear39]; rfl)
        refine own_if_eq X hx hby at_174 197 177 (by decide) rfl (fun q => absurd q c174) (fun _ => ?_)
        refine own_aload X hx hby (.ref b56b8b15) at_177 rfl rfl 179 rfl ?_
        refine own_bipush X hx hby (7 : Int32) at_179 rfl 181 rfl ?_
        refine own_iload X hx hby (4 : Int32) at_181 rfl 183 rfl ?_
        refine own_iloadN X hx hby p2 at_183 rfl 184 rfl ?_
        refine own_iloadN X hx hby p3 at_184 rfl 185 rfl ?_
        refine own_iload X hx hby p5 at_185 rfl 187 rfl ?_
        refine own_callS X hx hby hZ (st := []) [(.ref b56b8b15), (.int (7 : Int32)), (.int (4 : Int32)), (.int p2), (.int p3), (.int p5)] rfl hown (hw _ (List.mem_of_getElem? (i := 63) rfl)) (hw _ (List.mem_of_getElem? (i := 64) rfl)) (hw _ (List.mem_of_getElem? (i := 65) rfl)) (hw _ (List.mem_of_getElem? (i := 66) rfl)) (by decide) at_187 (rm11 l Z a0 hw b56b8b15 (7 : Int32) (4 : Int32) p2 p3 p5 ar56 h56 n0 Zs (by decide) A_b56b8b15 E_b56b8b15) eT pd_9 rfl (by rw [hml]; rfl) (by decide) 0 rfl (by decide) (by decide) (by decide) 190 rfl ?_
        intro T187 L9 v9 X hQ
        obtain ⟨rfl, N9, eT⟩ := hQ
        have N := Fr.app N N9
        show Go p e below _ T187 (mkF m 190 #[.val (.int p1), .val (.int p2), .val (.int p3), .val (.int p4), .val (.int p5), .val (.ref b0), .val (.int (4 : Int32)), .val (.ref b56b8b15)] [(.int (f11 (7 : Int32) (4 : Int32) p2 p3 p5 ar56))])
        have c190 : ¬ (f11 (7 : Int32) (4 : Int32) p2 p3 p5 ar56) = (0 : Int32) := own_okv _ _ _ _ _ (0 : Int32) _ (by decide) (by decide) (by decide) (by rw [← ear56]; refine (own_cpi (own_ck h3.2 (by decide) (Nat.lt_of_lt_of_le (by decide) h3.1) (by decide))).trans ?_; rw [← ear39]; rfl)
        refine own_if_eq X hx hby at_190 197 193 (by decide) rfl (fun q => absurd q c190) (fun _ => ?_)
        refine own_iconst X hx hby (1 : Int32) at_193 rfl 194 rfl ?_
        refine own_goto X hx hby at_194 198 (by decide) ?_
        refine own_retN X hx hby hret hlk (t := .boolean) (z' := (1 : Int32)) (by simp) at_198 (by decide) (by decide) rfl ?_
        rw [eT]
        exact ⟨rfl, N⟩
set_option maxRecDepth 65536 in
set_option maxHeartbeats 40000000 in
theorem comes_1 {Post : Tables → Env → Array Value → State → Outcome → State → Prop} (hpost : ∀ tb e args s v u, (limb_1_1.after args s (.returned v) u = true ∧ limb_1_2.after args s (.returned v) u = true ∧ True) → FrameEnd s (.returned v) u (Jvm.fieldLocs frame_1_writes args s ++ Jvm.arrayLocs frame_1_arrays args s ++ Jvm.staticLocs frame_1_statics s) 24 128 → Post tb e args s (.returned v) u) :
    ArmFor flags0 classFile x code maxLocals ret World_1 tables_1 room_1 Calls_1 rest_1 Pre_1 Post := by
  intro l hfl _ _ p e ha hc hk s m args below hf hA hF happ hP
  obtain ⟨hcalls, hrest, hpre⟩ := hP
  obtain ⟨-, -, -, hnamed, -, -, -, hat⟩ := (Spec.applies_iff hf).mp happ
  obtain ⟨hg, hn⟩ := and_e (Cond.before_iff.mp (show (Jvm.Cond.and given_1 narrow_1).before args s = true from hpre))
  obtain ⟨gg1, gg2⟩ := and_e hg
  obtain ⟨gg3, gg4⟩ := and_e gg2
  obtain ⟨gg5, gg6⟩ := and_e gg4
  obtain ⟨gg7, gg8⟩ := and_e gg6
  obtain ⟨gg9, gg10⟩ := and_e gg8
  obtain ⟨w0, w1, w2, w3, w4, rfl⟩ : ∃ w0 w1 w2 w3 w4 : Value, args = #[w0, w1, w2, w3, w4] := by
    have hs : args.size = 5 := by simpa [Cond.value, given_1] using gg1
    obtain ⟨L⟩ := args
    match L, hs with
    | [w0, w1, w2, w3, w4], _ => exact ⟨w0, w1, w2, w3, w4, rfl⟩
  have hw := fun d (hd : d ∈ tables_1) => atoms_spec (ws := Jvm.Cond.code x code maxLocals ret :: tables_1) hat d (List.mem_cons_of_mem _ hd)
  have hfit : Fit s := fun {y c} hc i hi => by
    obtain ⟨ha, rfl⟩ := Array.getElem?_eq_some_iff.mp hc
    have q := List.all_eq_true.mp ((Array.all_eq_true_iff_forall_mem.mp hF) _ (Array.getElem_mem ha)) i (List.mem_range.mpr hi)
    simpa [Array.getElem?_eq_getElem hi] using q
  obtain ⟨i0, ei0⟩ := is_v gg3
  obtain rfl : w0 = (.int i0) := Option.some.inj ei0
  obtain ⟨i1, ei1⟩ := is_v gg5
  obtain rfl : w1 = (.int i1) := Option.some.inj ei1
  obtain ⟨i2, ei2⟩ := is_v gg7
  obtain rfl : w2 = (.int i2) := Option.some.inj ei2
  obtain ⟨i3, ei3⟩ := is_v gg9
  obtain rfl : w3 = (.int i3) := Option.some.inj ei3
  obtain ⟨i4, ei4⟩ := is_v gg10
  obtain rfl : w4 = (.int i4) := Option.some.inj ei4
  obtain ⟨n, o, h1, h2, h3, _, L, rfl, ⟨rfl, N⟩, hq⟩ := rm0 l s _ hw i0 i1 i2 i3 i4  s.heap s.heap.size (Nat.le_refl _)  tables_1 p e ha hc hk s m _ below hf ((Spec.applies_iff_loose hf).mp happ).1 ⟨rfl, State.Warmed39.refl s, rfl⟩ trivial
  refine ⟨n, _, h1, h2, h3, hpost _ _ _ _ _ _ ⟨Cond.after_iff.mpr rfl, Cond.after_iff.mpr (eq_i res_at (Term.int_eval (1)) rfl), trivial⟩ ⟨hq.1, hq.2.1, (hq.2.2.sift fun y hy => Or.inr (N y hy)).mono (by decide) (by decide)⟩⟩
theorem main_1_1 : Claimed_1_1 := comes_1 fun _ _ _ _ _ _ h hF => ⟨h.1, hF⟩
theorem main_1_2 : Claimed_1_2 := comes_1 fun _ _ _ _ _ _ h hF => ⟨h.2.1, hF⟩
end Jvm.Pilot.@@N@@
namespace Jvm.Pilot.@@N@@
open Jvm Jvm.ClassFile Sem Op Lib Jvm.Free Jvm.Stand Jvm.Pilot.@@N@@.Jvm.D
/-! MADE BY PROGRAM (witnessworld.py) out of the Statement's table words and the real class files: 12 classes; the members and pool entries that the words name. The judged class is class 1, her method 1. -/
namespace start1
open Jvm.ClassFile
def u (s : String) : CpInfo := .utf8 (stringToUtf16 s)
/-- a pool by its gaps: so many unusable entries, then the entry; so many at the end -/
def gap : Nat → List CpInfo → List CpInfo
  | 0, r => r
  | n + 1, r => .unusable :: gap n r
def poolList (es : List (Nat × CpInfo)) (last : Nat) : List CpInfo := es.foldr (fun e r => gap e.1 (e.2 :: r)) (gap last [])
def pool (es : List (Nat × CpInfo)) (last : Nat) : Array CpInfo := ⟨poolList es last⟩
def fileOf (pool : Array CpInfo) (this : Nat) (attrs : Array Attribute := #[]) (ms : Array MethodInfo := #[]) (fl : Nat := 33) (sup : Nat := 0) (ifs : Array Nat := #[]) (fds : Array FieldInfo := #[]) : ClassFile where
  minorVersion := 0
  majorVersion := 65
  constantPool := pool
  accessFlags := fl
  thisClass := this
  superClass := sup
  interfaces := ifs
  fields := fds
  methods := ms
  attributes := attrs
def plain (name : String) (sup : Option ClassId) : Class where
  name := name
  kind := .ordinary
  loader := none
  accessFlags := 33
  super := sup
  interfaces := #[]
  cf := none
  fields := #[]
  methods := #[]
  instanceTypes := #[]
  staticTypes := #[]
  resolved := #[]
  callSites := []
  init := .initialized
  statics := none
  mirror := none

def pool0 : Array CpInfo := pool [(5, u "<init>"), (0, u "()V"), (1, .class_ 10), (1, u "java/lang/Object"), (85, u "clone"), (0, u "()Ljava/lang/Object;")] 26

def k0c0 : Code := { maxStack := 0, maxLocals := 1, code := object_method_1_code, exceptionTable := #[], attributes := #[] }
def k0m0 : Method := { name := "<init>", desc := "()V", sig := { parameters := [], returnType := none }, accessFlags := 1, code := some k0c0 }
def k0m1 : Method := { name := "clone", desc := "()Ljava/lang/Object;", sig := { parameters := [], returnType := some (.object "java/lang/Object") }, accessFlags := 260, code := none }
/-- java/lang/Object -/
def k0 : Class := { plain "java/lang/Object" none with
  accessFlags := 33
  interfaces := #[]
  cf := some (fileOf pool0 8 #[] #[{ accessFlags := 1, nameIndex := 5, descriptorIndex := 6, attributes := #[] }, { accessFlags := 260, nameIndex := 96, descriptorIndex := 97, attributes := #[] }] 33 0 #[] #[])
  fields := #[]
  methods := #[k0m0, k0m1]
  instanceTypes := #[]
  staticTypes := #[]
  resolved := Array.replicate 124 none
  statics := none }

def pool1 : Array CpInfo := pool [(2, .class_ 4), (1, u "java/lang/Object"), (0, u "<init>"), (0, u "()V"), (0, .class_ 8), (0, u "com/example/daylily/daylily/engine/ByteWriter"), (0, .methodref 7 10), (0, .nameAndType 5 11), (0, u "(I)V"), (0, .methodref 7 13), (0, .nameAndType 14 11), (0, u "writeInt"), (0, .integer 2147483647), (0, .methodref 7 17), (0, .nameAndType 18 19), (0, u "setInt"), (0, u "(II)V"), (0, .methodref 7 21), (0, .nameAndType 22 23), (0, u "length"), (0, u "()I"), (0, .methodref 7 25), (0, .nameAndType 26 27), (0, u "toByteArray"), (0, u "()[B"), (0, .methodref 29 30), (0, .class_ 31), (0, .nameAndType 32 33), (0, u "com/example/daylily/daylily/engine/ByteWriterSetIntPinLaw"), (0, u "ok"), (0, u "([BIIIII)Z"), (2, u "law"), (0, u "(IIIII)Z")] 5

def k1m0 : Method := { name := "<init>", desc := "()V", sig := { parameters := [], returnType := none }, accessFlags := 1, code := none }
def k1c1 : Code := { maxStack := 6, maxLocals := 8, code := code, exceptionTable := #[], attributes := #[] }
def k1m1 : Method := { name := "law", desc := "(IIIII)Z", sig := { parameters := [.int, .int, .int, .int, .int], returnType := some .boolean }, accessFlags := 9, code := some k1c1 }
def k1c2 : Code := { maxStack := 5, maxLocals := 7, code := method_3_code, exceptionTable := #[], attributes := #[] }
def k1m2 : Method := { name := "ok", desc := "([BIIIII)Z", sig := { parameters := [(.array .byte), .int, .int, .int, .int, .int], returnType := some .boolean }, accessFlags := 10, code := some k1c2 }
/-- com/example/daylily/daylily/engine/ByteWriterSetIntPinLaw -/
def k1 : Class := { plain "com/example/daylily/daylily/engine/ByteWriterSetIntPinLaw" (some 0) with
  accessFlags := 49
  interfaces := #[]
  cf := some (fileOf pool1 29 #[] #[{ accessFlags := 1, nameIndex := 5, descriptorIndex := 6, attributes := #[] }, { accessFlags := 9, nameIndex := 36, descriptorIndex := 37, attributes := #[] }, { accessFlags := 10, nameIndex := 32, descriptorIndex := 33, attributes := #[] }] 49 2 #[] #[])
  fields := #[]
  methods := #[k1m0, k1m1, k1m2]
  instanceTypes := #[]
  staticTypes := #[]
  resolved := Array.replicate 43 none
  statics := none }

def pool2 : Array CpInfo := pool [(1, .methodref 2 3), (0, .class_ 4), (0, .nameAndType 5 6), (0, u "java/lang/Object"), (0, u "<init>"), (0, u "()V"), (0, .fieldref 8 9), (0, .class_ 10), (0, .nameAndType 11 12), (0, u "com/example/daylily/daylily/engine/ByteWriter"), (0, u "bytes"), (0, u "[B"), (0, .fieldref 8 14), (0, .nameAndType 15 16), (0, u "length"), (0, u "I"), (0, .methodref 18 19), (0, .class_ 20), (0, .nameAndType 21 22), (0, u "java/util/Arrays"), (0, u "copyOf"), (0, u "([BI)[B"), (0, .methodref 8 24), (0, .nameAndType 25 26), (0, u "room"), (0, u "(I)V"), (11, u "()I"), (20, .methodref 60 61), (0, .class_ 62), (0, .nameAndType 63 64), (0, u "java/lang/Math"), (0, u "max"), (0, u "(II)I"), (0, u "LONGEST_TEXT"), (4, u "toByteArray"), (0, u "()[B"), (3, u "writeInt"), (7, u "setInt"), (0, u "(II)V")] 18

def k2c0 : Code := { maxStack := 2, maxLocals := 2, code := prog_10_method_1_code, exceptionTable := #[], attributes := #[] }
def k2m0 : Method := { name := "<init>", desc := "(I)V", sig := { parameters := [.int], returnType := none }, accessFlags := 1, code := some k2c0 }
def k2c1 : Code := { maxStack := 1, maxLocals := 1, code := prog_10_method_3_code, exceptionTable := #[], attributes := #[] }
def k2m1 : Method := { name := "length", desc := "()I", sig := { parameters := [], returnType := some .int }, accessFlags := 1, code := some k2c1 }
def k2c2 : Code := { maxStack := 2, maxLocals := 1, code := prog_10_method_4_code, exceptionTable := #[], attributes := #[] }
def k2m2 : Method := { name := "toByteArray", desc := "()[B", sig := { parameters := [], returnType := some (.array .byte) }, accessFlags := 1, code := some k2c2 }
def k2c3 : Code := { maxStack := 5, maxLocals := 3, code := prog_10_method_7_code, exceptionTable := #[], attributes := #[] }
def k2m3 : Method := { name := "writeInt", desc := "(I)V", sig := { parameters := [.int], returnType := none }, accessFlags := 1, code := some k2c3 }
def k2c4 : Code := { maxStack := 4, maxLocals := 5, code := prog_10_method_13_code, exceptionTable := #[], attributes := #[] }
def k2m4 : Method := { name := "setInt", desc := "(II)V", sig := { parameters := [.int, .int], returnType := none }, accessFlags := 1, code := some k2c4 }
def k2c5 : Code := { maxStack := 5, maxLocals := 2, code := prog_10_method_15_code, exceptionTable := #[], attributes := #[] }
def k2m5 : Method := { name := "room", desc := "(I)V", sig := { parameters := [.int], returnType := none }, accessFlags := 2, code := some k2c5 }
/-- com/example/daylily/daylily/engine/ByteWriter -/
def k2 : Class := { plain "com/example/daylily/daylily/engine/ByteWriter" (some 0) with
  accessFlags := 49
  interfaces := #[]
  cf := some (fileOf pool2 8 #[] #[{ accessFlags := 1, nameIndex := 5, descriptorIndex := 26, attributes := #[] }, { accessFlags := 1, nameIndex := 15, descriptorIndex := 38, attributes := #[] }, { accessFlags := 1, nameIndex := 70, descriptorIndex := 71, attributes := #[] }, { accessFlags := 1, nameIndex := 75, descriptorIndex := 26, attributes := #[] }, { accessFlags := 1, nameIndex := 83, descriptorIndex := 84, attributes := #[] }, { accessFlags := 2, nameIndex := 25, descriptorIndex := 26, attributes := #[] }] 49 2 #[] #[{ accessFlags := 26, nameIndex := 65, descriptorIndex := 16, attributes := #[] }, { accessFlags := 2, nameIndex := 11, descriptorIndex := 12, attributes := #[] }, { accessFlags := 2, nameIndex := 15, descriptorIndex := 16, attributes := #[] }])
  fields := #[{ name := "LONGEST_TEXT", type := .int, accessFlags := 26, slot := 0, constantValue := 0 }, { name := "bytes", type := (.array .byte), accessFlags := 2, slot := 0, constantValue := 0 }, { name := "length", type := .int, accessFlags := 2, slot := 1, constantValue := 0 }]
  methods := #[k2m0, k2m1, k2m2, k2m3, k2m4, k2m5]
  instanceTypes := #[(.array .byte), .int]
  staticTypes := #[.int]
  resolved := Array.replicate 103 none
  statics := none }

def pool3 : Array CpInfo := pool [(1, .class_ 2), (0, u "java/lang/Math"), (1, .class_ 6), (1, u "java/lang/Object"), (0, u "<init>"), (0, u "()V"), (89, .class_ 100), (1, u "java/lang/Math$RandomNumberGeneratorHolder"), (71, u "negativeZeroFloatBits"), (0, u "J"), (2, u "negativeZeroDoubleBits"), (21, u "max"), (2, u "min"), (43, u "$assertionsDisabled"), (0, u "Z"), (88, u "(II)I"), (2, u "twoToTheDoubleScaleDown"), (0, u "D"), (4, u "twoToTheDoubleScaleUp"), (9, u "E"), (3, u "PI"), (2, u "TAU"), (2, u "DEGREES_TO_RADIANS"), (0, u "RADIANS_TO_DEGREES")] 94

def k3m0 : Method := { name := "<init>", desc := "()V", sig := { parameters := [], returnType := none }, accessFlags := 2, code := none }
def k3c1 : Code := { maxStack := 2, maxLocals := 2, code := jdk_29_method_65_code, exceptionTable := #[], attributes := #[] }
def k3m1 : Method := { name := "max", desc := "(II)I", sig := { parameters := [.int, .int], returnType := some .int }, accessFlags := 9, code := some k3c1 }
def k3c2 : Code := { maxStack := 2, maxLocals := 2, code := jdk_29_method_69_code, exceptionTable := #[], attributes := #[] }
def k3m2 : Method := { name := "min", desc := "(II)I", sig := { parameters := [.int, .int], returnType := some .int }, accessFlags := 9, code := some k3c2 }
/-- java/lang/Math -/
def k3 : Class := { plain "java/lang/Math" (some 0) with
  accessFlags := 49
  interfaces := #[]
  cf := some (fileOf pool3 1 #[.nestMembers #[98]] #[{ accessFlags := 2, nameIndex := 7, descriptorIndex := 8, attributes := #[] }, { accessFlags := 9, nameIndex := 198, descriptorIndex := 335, attributes := #[] }, { accessFlags := 9, nameIndex := 201, descriptorIndex := 335, attributes := #[] }] 49 4 #[] #[{ accessFlags := 25, nameIndex := 354, descriptorIndex := 339, attributes := #[] }, { accessFlags := 25, nameIndex := 358, descriptorIndex := 339, attributes := #[] }, { accessFlags := 25, nameIndex := 361, descriptorIndex := 339, attributes := #[] }, { accessFlags := 26, nameIndex := 364, descriptorIndex := 339, attributes := #[] }, { accessFlags := 26, nameIndex := 365, descriptorIndex := 339, attributes := #[] }, { accessFlags := 26, nameIndex := 172, descriptorIndex := 173, attributes := #[] }, { accessFlags := 26, nameIndex := 176, descriptorIndex := 173, attributes := #[] }, { accessFlags := 8, nameIndex := 344, descriptorIndex := 339, attributes := #[] }, { accessFlags := 8, nameIndex := 338, descriptorIndex := 339, attributes := #[] }, { accessFlags := 4120, nameIndex := 245, descriptorIndex := 246, attributes := #[] }])
  fields := #[{ name := "E", type := .double, accessFlags := 25, slot := 0, constantValue := 0 }, { name := "PI", type := .double, accessFlags := 25, slot := 1, constantValue := 0 }, { name := "TAU", type := .double, accessFlags := 25, slot := 2, constantValue := 0 }, { name := "DEGREES_TO_RADIANS", type := .double, accessFlags := 26, slot := 3, constantValue := 0 }, { name := "RADIANS_TO_DEGREES", type := .double, accessFlags := 26, slot := 4, constantValue := 0 }, { name := "negativeZeroFloatBits", type := .long, accessFlags := 26, slot := 5, constantValue := 0 }, { name := "negativeZeroDoubleBits", type := .long, accessFlags := 26, slot := 6, constantValue := 0 }, { name := "twoToTheDoubleScaleUp", type := .double, accessFlags := 8, slot := 7, constantValue := 0 }, { name := "twoToTheDoubleScaleDown", type := .double, accessFlags := 8, slot := 8, constantValue := 0 }, { name := "$assertionsDisabled", type := .boolean, accessFlags := 4120, slot := 9, constantValue := 0 }]
  methods := #[k3m0, k3m1, k3m2]
  instanceTypes := #[]
  staticTypes := #[.double, .double, .double, .double, .double, .long, .long, .double, .double, .boolean]
  resolved := Array.replicate 460 none
  statics := none }

def pool4 : Array CpInfo := pool [(2, .class_ 4), (1, u "java/lang/Object"), (0, u "<init>"), (0, u "()V"), (7, .class_ 16), (1, u "java/util/Arrays"), (57, .class_ 76), (1, u "java/util/Arrays$NaturalOrder"), (32, u "()Ljava/lang/Object;"), (3, .class_ 115), (1, u "java/util/Arrays$LegacyMergeSort"), (1, u "Z"), (10, .nameAndType 129 109), (0, u "clone"), (20, .methodref 151 152), (0, .class_ 153), (0, .nameAndType 154 155), (0, u "java/lang/System"), (0, u "arraycopy"), (0, u "(Ljava/lang/Object;ILjava/lang/Object;II)V"), (146, u "copyOf"), (1, .methodref 305 306), (0, .class_ 307), (0, .nameAndType 308 309), (0, u "java/lang/Math"), (0, u "min"), (0, u "(II)I"), (0, .methodref 311 128), (0, .class_ 312), (0, u "[B"), (62, .class_ 376), (0, u "java/util/Arrays$ArrayList"), (68, u "$assertionsDisabled"), (269, u "MIN_ARRAY_SORT_GRAN"), (0, u "I"), (2, u "INSERTIONSORT_THRESHOLD"), (149, u "([BI)[B"), (105, .class_ 976), (0, u "java/util/Arrays$ArrayItr")] 52

def k4m0 : Method := { name := "<init>", desc := "()V", sig := { parameters := [], returnType := none }, accessFlags := 2, code := none }
def k4c1 : Code := { maxStack := 6, maxLocals := 3, code := jdk_65_method_121_code, exceptionTable := #[], attributes := #[] }
def k4m1 : Method := { name := "copyOf", desc := "([BI)[B", sig := { parameters := [(.array .byte), .int], returnType := some (.array .byte) }, accessFlags := 9, code := some k4c1 }
/-- java/util/Arrays -/
def k4 : Class := { plain "java/util/Arrays" (some 0) with
  accessFlags := 49
  interfaces := #[]
  cf := some (fileOf pool4 14 #[.nestMembers #[975, 375, 113, 74]] #[{ accessFlags := 2, nameIndex := 5, descriptorIndex := 6, attributes := #[] }, { accessFlags := 9, nameIndex := 302, descriptorIndex := 869, attributes := #[] }] 49 2 #[] #[{ accessFlags := 26, nameIndex := 715, descriptorIndex := 716, attributes := #[] }, { accessFlags := 26, nameIndex := 719, descriptorIndex := 716, attributes := #[] }, { accessFlags := 4120, nameIndex := 445, descriptorIndex := 117, attributes := #[] }])
  fields := #[{ name := "MIN_ARRAY_SORT_GRAN", type := .int, accessFlags := 26, slot := 0, constantValue := 0 }, { name := "INSERTIONSORT_THRESHOLD", type := .int, accessFlags := 26, slot := 1, constantValue := 0 }, { name := "$assertionsDisabled", type := .boolean, accessFlags := 4120, slot := 2, constantValue := 0 }]
  methods := #[k4m0, k4m1]
  instanceTypes := #[]
  staticTypes := #[.int, .int, .boolean]
  resolved := Array.replicate 1029 none
  statics := none }

def pool5 : Array CpInfo := pool [(2, .class_ 4), (1, u "java/lang/Object"), (0, u "<init>"), (0, u "()V"), (1, .class_ 10), (1, u "java/lang/System"), (0, u "allowSecurityManager"), (0, u "I"), (16, u "cons"), (0, u "Ljava/io/Console;"), (77, .class_ 110), (1, u "java/lang/System$CallersHolder"), (43, u "initialErrStream"), (0, u "Ljava/io/PrintStream;"), (19, u "security"), (0, u "Ljava/lang/SecurityManager;"), (31, .class_ 209), (0, u "java/lang/System$1"), (7, u "props"), (0, u "Ljava/util/Properties;"), (2, u "lineSeparator"), (0, u "Ljava/lang/String;"), (96, .class_ 321), (1, u "java/lang/System$LoggerFinder"), (5, .class_ 328), (0, u "java/lang/System$Logger"), (67, u "err"), (2, u "out"), (91, u "notSupportedJnuEncoding"), (15, u "in"), (17, u "initialIn"), (0, u "Ljava/io/InputStream;"), (35, u "bootLayer"), (0, u "Ljava/lang/ModuleLayer;"), (99, .class_ 664), (0, u "java/lang/System$2"), (9, u "NEVER"), (2, u "MAYBE"), (49, u "arraycopy"), (0, u "(Ljava/lang/Object;ILjava/lang/Object;II)V"), (72, .class_ 802), (0, u "java/lang/System$Logger$Level")] 31

def k5m0 : Method := { name := "<init>", desc := "()V", sig := { parameters := [], returnType := none }, accessFlags := 2, code := none }
def k5m1 : Method := { name := "arraycopy", desc := "(Ljava/lang/Object;ILjava/lang/Object;II)V", sig := { parameters := [(.object "java/lang/Object"), .int, (.object "java/lang/Object"), .int, .int], returnType := none }, accessFlags := 265, code := none }
/-- java/lang/System -/
def k5 : Class := { plain "java/lang/System" (some 0) with
  accessFlags := 49
  interfaces := #[]
  cf := some (fileOf pool5 8 #[.nestMembers #[319, 327, 801, 108, 663, 208]] #[{ accessFlags := 2, nameIndex := 5, descriptorIndex := 6, attributes := #[] }, { accessFlags := 265, nameIndex := 727, descriptorIndex := 728, attributes := #[] }] 49 2 #[] #[{ accessFlags := 25, nameIndex := 507, descriptorIndex := 526, attributes := #[] }, { accessFlags := 25, nameIndex := 399, descriptorIndex := 155, attributes := #[] }, { accessFlags := 25, nameIndex := 396, descriptorIndex := 155, attributes := #[] }, { accessFlags := 10, nameIndex := 525, descriptorIndex := 526, attributes := #[] }, { accessFlags := 26, nameIndex := 674, descriptorIndex := 12, attributes := #[] }, { accessFlags := 26, nameIndex := 677, descriptorIndex := 12, attributes := #[] }, { accessFlags := 10, nameIndex := 11, descriptorIndex := 12, attributes := #[] }, { accessFlags := 74, nameIndex := 175, descriptorIndex := 176, attributes := #[] }, { accessFlags := 10, nameIndex := 491, descriptorIndex := 222, attributes := #[] }, { accessFlags := 74, nameIndex := 29, descriptorIndex := 30, attributes := #[] }, { accessFlags := 74, nameIndex := 154, descriptorIndex := 155, attributes := #[] }, { accessFlags := 10, nameIndex := 217, descriptorIndex := 218, attributes := #[] }, { accessFlags := 10, nameIndex := 221, descriptorIndex := 222, attributes := #[] }, { accessFlags := 8, nameIndex := 562, descriptorIndex := 563, attributes := #[] }])
  fields := #[{ name := "in", type := (.object "java/io/InputStream"), accessFlags := 25, slot := 0, constantValue := 0 }, { name := "out", type := (.object "java/io/PrintStream"), accessFlags := 25, slot := 1, constantValue := 0 }, { name := "err", type := (.object "java/io/PrintStream"), accessFlags := 25, slot := 2, constantValue := 0 }, { name := "initialIn", type := (.object "java/io/InputStream"), accessFlags := 10, slot := 3, constantValue := 0 }, { name := "NEVER", type := .int, accessFlags := 26, slot := 4, constantValue := 0 }, { name := "MAYBE", type := .int, accessFlags := 26, slot := 5, constantValue := 0 }, { name := "allowSecurityManager", type := .int, accessFlags := 10, slot := 6, constantValue := 0 }, { name := "security", type := (.object "java/lang/SecurityManager"), accessFlags := 74, slot := 7, constantValue := 0 }, { name := "notSupportedJnuEncoding", type := (.object "java/lang/String"), accessFlags := 10, slot := 8, constantValue := 0 }, { name := "cons", type := (.object "java/io/Console"), accessFlags := 74, slot := 9, constantValue := 0 }, { name := "initialErrStream", type := (.object "java/io/PrintStream"), accessFlags := 74, slot := 10, constantValue := 0 }, { name := "props", type := (.object "java/util/Properties"), accessFlags := 10, slot := 11, constantValue := 0 }, { name := "lineSeparator", type := (.object "java/lang/String"), accessFlags := 10, slot := 12, constantValue := 0 }, { name := "bootLayer", type := (.object "java/lang/ModuleLayer"), accessFlags := 8, slot := 13, constantValue := 0 }]
  methods := #[k5m0, k5m1]
  instanceTypes := #[]
  staticTypes := #[(.object "java/io/InputStream"), (.object "java/io/PrintStream"), (.object "java/io/PrintStream"), (.object "java/io/InputStream"), .int, .int, .int, (.object "java/lang/SecurityManager"), (.object "java/lang/String"), (.object "java/io/Console"), (.object "java/io/PrintStream"), (.object "java/util/Properties"), (.object "java/lang/String"), (.object "java/lang/ModuleLayer")]
  resolved := Array.replicate 834 none
  statics := none }

def pool6 : Array CpInfo := pool [(1, .class_ 2), (0, u "java/lang/Cloneable"), (0, .class_ 4), (0, u "java/lang/Object")] 2

/-- java/lang/Cloneable -/
def k6 : Class := { plain "java/lang/Cloneable" (some 0) with
  accessFlags := 1537
  interfaces := #[]
  cf := some (fileOf pool6 1 #[] #[] 1537 3 #[] #[])
  fields := #[]
  methods := #[]
  instanceTypes := #[]
  staticTypes := #[]
  resolved := Array.replicate 7 none
  statics := none }

def pool7 : Array CpInfo := pool [(1, u "java/io/Serializable"), (0, .class_ 1), (0, u "java/lang/Object"), (0, .class_ 3)] 3

/-- java/io/Serializable -/
def k7 : Class := { plain "java/io/Serializable" (some 0) with
  accessFlags := 1537
  interfaces := #[]
  cf := some (fileOf pool7 2 #[] #[] 1537 4 #[] #[])
  fields := #[]
  methods := #[]
  instanceTypes := #[]
  staticTypes := #[]
  resolved := Array.replicate 8 none
  statics := none }

/-- the primitive byte -/
def k8 : Class := { plain "byte" none with kind := .primitive 'B', accessFlags := 0x411 }
/-- [B -/
def k9 : Class := { plain "[B" (some 0) with kind := .array 8 .byte, interfaces := #[6, 7], accessFlags := 1041 }

/-- the primitive int -/
def k10 : Class := { plain "int" none with kind := .primitive 'I', accessFlags := 0x411 }
/-- [I -/
def k11 : Class := { plain "[I" (some 0) with kind := .array 10 .int, interfaces := #[6, 7], accessFlags := 1041 }

def heap : Heap := #[]
def classes : Array Class := #[k0, k1, k2, k3, k4, k5, k6, k7, k8, k9, k10, k11]
def interned : List (Array UInt16 × Addr) := []
def slotsUsed : Nat := 0
def theMethod : MethodId := ⟨1, 1⟩
def args0 : Array Value := #[.int 3, .int 4, .int 5, .int 6, .int 7]
def aboutOver (below : List Frame) : State where
  vm := { classes := classes, interned := interned.toArray }
  heap := heap
  slotsUsed := slotsUsed
  threads := #[{ frames := .invoking theMethod args0 :: below }]
def below0 : List Frame := [.native { method := ⟨0, 0⟩, args := #[] }]
def about1 : State := aboutOver below0
def p0 : Program := .bare "" "" ""
def e0 : Env := launch0.env 0 0 0
theorem w_frames : about1.frames = Frame.invoking theMethod args0 :: below0 := rfl
set_option maxRecDepth 65536 in
theorem w_args : argsFit about1.vm theMethod args0 = true := by decide +kernel
set_option maxRecDepth 65536 in
theorem w_heap : heapFits about1 = true := by decide +kernel
set_option maxRecDepth 65536 in
theorem w_runnable : about1.curStatus? = some .runnable := by decide +kernel
set_option maxRecDepth 65536 in
theorem w_alone : about1.alone = true := by decide +kernel
set_option maxRecDepth 65536 in
theorem w_named : about1.methodNamed? x = some theMethod := by decide +kernel
set_option maxRecDepth 65536 in
theorem w_hears : about1.hears theMethod below0 = true := by decide +kernel
set_option maxRecDepth 65536 in
theorem w_ripe : about1.ripe theMethod args0 below0 = true := by decide +kernel
theorem w_running : about1.status = .running := rfl
set_option maxRecDepth 65536 in
theorem w_room : about1.hasRoom e0.platform room_1 = true :=
  launch0.hasRoom_least _ room_1 (by decide +kernel) (by decide +kernel) (by decide +kernel) (by decide +kernel) (by decide +kernel) (by decide +kernel)
theorem allAtoms_all (ts : List Jvm.Cond) (a : Array Jvm.Value) (st : Jvm.State) : (allAtoms ts).before a st = ts.all (fun c => c.before a st) := by
  induction ts with
  | nil => rfl
  | cons c t ih =>
    show (Jvm.Cond.and c (allAtoms t)).before a st = _
    rw [Jvm.Cond.before_and, ih, List.all_cons]
def words1 : List Jvm.Cond := Jvm.Cond.code x code maxLocals ret :: tables_1
/-- a 'code' word, met by the world's own term for the bytes: nothing is compared byte by byte -/
theorem code_word {y : MethodName} {bytes : ByteArray} {mx : Nat} {rt : Option FieldType} {a : Array Value} {s : State} {m : MethodId} {meth : Method} {c : Code} (h1 : s.methodNamed? y = some m) (h2 : s.vm.method? m = some meth) (h3 : meth.code = some c) (h4 : c.code = bytes)
    (h5 : (c.maxLocals == mx && c.exceptionTable.isEmpty && decide (c.maxStack ≤ mostOperands) && decide (meth.sig.returnType = rt) && !meth.locks && decide (parseMethodDescriptor y.desc = some meth.sig)) = true) : (Jvm.Cond.code y bytes mx rt).before a s = true := by
  simp only [Bool.and_eq_true, beq_iff_eq, Bool.not_eq_true', decide_eq_true_eq] at h5
  obtain ⟨⟨⟨⟨⟨g1, g2⟩, g3⟩, g4⟩, g5⟩, g6⟩ := h5
  simp [Cond.before, Cond.holds, Cond.value, h1, h2, h3, h4, g1, g2, g3, g4, g5, g6]
def isCode : Jvm.Cond → Bool
  | .code _ _ _ _ => true
  | _ => false
theorem all_split {L : List Jvm.Cond} {P : Jvm.Cond → Bool} (h1 : L.all (fun c => isCode c || P c) = true) (h2 : ∀ c ∈ L.filter isCode, P c = true) : L.all P = true := by
  refine List.all_eq_true.mpr fun c hc => ?_
  have h := List.all_eq_true.mp h1 c hc
  rcases Bool.eq_false_or_eq_true (isCode c) with hi | hi
  · exact h2 c (List.mem_filter.mpr ⟨hc, hi⟩)
  · simpa [hi] using h
set_option maxRecDepth 65536 in
theorem w_c0 : (Jvm.Cond.code x code maxLocals ret).before args0 about1 = true := code_word (m := ⟨1, 1⟩) (meth := k1m1) (c := k1c1) (by decide +kernel) rfl rfl rfl (by decide +kernel)
set_option maxRecDepth 65536 in
theorem w_c1 : (Jvm.Cond.code ({ cls := "com/example/daylily/daylily/engine/ByteWriter", name := "<init>", desc := "(I)V" } : Jvm.MethodName) prog_10_method_1_code (2 : Nat) (Option.none : Option Jvm.ClassFile.FieldType)).before args0 about1 = true := code_word (m := ⟨2, 0⟩) (meth := k2m0) (c := k2c0) (by decide +kernel) rfl rfl rfl (by decide +kernel)
set_option maxRecDepth 65536 in
theorem w_c2 : (Jvm.Cond.code ({ cls := "java/lang/Object", name := "<init>", desc := "()V" } : Jvm.MethodName) object_method_1_code (1 : Nat) (Option.none : Option Jvm.ClassFile.FieldType)).before args0 about1 = true := code_word (m := ⟨0, 0⟩) (meth := k0m0) (c := k0c0) (by decide +kernel) rfl rfl rfl (by decide +kernel)
set_option maxRecDepth 65536 in
theorem w_c3 : (Jvm.Cond.code ({ cls := "com/example/daylily/daylily/engine/ByteWriter", name := "writeInt", desc := "(I)V" } : Jvm.MethodName) prog_10_method_7_code (3 : Nat) (Option.none : Option Jvm.ClassFile.FieldType)).before args0 about1 = true := code_word (m := ⟨2, 3⟩) (meth := k2m3) (c := k2c3) (by decide +kernel) rfl rfl rfl (by decide +kernel)
set_option maxRecDepth 65536 in
theorem w_c4 : (Jvm.Cond.code ({ cls := "com/example/daylily/daylily/engine/ByteWriter", name := "room", desc := "(I)V" } : Jvm.MethodName) prog_10_method_15_code (2 : Nat) (Option.none : Option Jvm.ClassFile.FieldType)).before args0 about1 = true := code_word (m := ⟨2, 5⟩) (meth := k2m5) (c := k2c5) (by decide +kernel) rfl rfl rfl (by decide +kernel)
set_option maxRecDepth 65536 in
theorem w_c5 : (Jvm.Cond.code ({ cls := "java/lang/Math", name := "max", desc := "(II)I" } : Jvm.MethodName) jdk_29_method_65_code (2 : Nat) (Option.some Jvm.ClassFile.FieldType.int)).before args0 about1 = true := code_word (m := ⟨3, 1⟩) (meth := k3m1) (c := k3c1) (by decide +kernel) rfl rfl rfl (by decide +kernel)
set_option maxRecDepth 65536 in
theorem w_c6 : (Jvm.Cond.code ({ cls := "java/util/Arrays", name := "copyOf", desc := "([BI)[B" } : Jvm.MethodName) jdk_65_method_121_code (3 : Nat) (Option.some (Jvm.ClassFile.FieldType.array Jvm.ClassFile.FieldType.byte))).before args0 about1 = true := code_word (m := ⟨4, 1⟩) (meth := k4m1) (c := k4c1) (by decide +kernel) rfl rfl rfl (by decide +kernel)
set_option maxRecDepth 65536 in
theorem w_c7 : (Jvm.Cond.code ({ cls := "java/lang/Math", name := "min", desc := "(II)I" } : Jvm.MethodName) jdk_29_method_69_code (2 : Nat) (Option.some Jvm.ClassFile.FieldType.int)).before args0 about1 = true := code_word (m := ⟨3, 2⟩) (meth := k3m2) (c := k3c2) (by decide +kernel) rfl rfl rfl (by decide +kernel)
set_option maxRecDepth 65536 in
theorem w_c8 : (Jvm.Cond.code ({ cls := "com/example/daylily/daylily/engine/ByteWriter", name := "setInt", desc := "(II)V" } : Jvm.MethodName) prog_10_method_13_code (5 : Nat) (Option.none : Option Jvm.ClassFile.FieldType)).before args0 about1 = true := code_word (m := ⟨2, 4⟩) (meth := k2m4) (c := k2c4) (by decide +kernel) rfl rfl rfl (by decide +kernel)
set_option maxRecDepth 65536 in
theorem w_c9 : (Jvm.Cond.code ({ cls := "com/example/daylily/daylily/engine/ByteWriter", name := "length", desc := "()I" } : Jvm.MethodName) prog_10_method_3_code (1 : Nat) (Option.some Jvm.ClassFile.FieldType.int)).before args0 about1 = true := code_word (m := ⟨2, 1⟩) (meth := k2m1) (c := k2c1) (by decide +kernel) rfl rfl rfl (by decide +kernel)
set_option maxRecDepth 65536 in
theorem w_c10 : (Jvm.Cond.code ({ cls := "com/example/daylily/daylily/engine/ByteWriter", name := "toByteArray", desc := "()[B" } : Jvm.MethodName) prog_10_method_4_code (1 : Nat) (Option.some (Jvm.ClassFile.FieldType.array Jvm.ClassFile.FieldType.byte))).before args0 about1 = true := code_word (m := ⟨2, 2⟩) (meth := k2m2) (c := k2c2) (by decide +kernel) rfl rfl rfl (by decide +kernel)
set_option maxRecDepth 65536 in
theorem w_c11 : (Jvm.Cond.code ({ cls := "com/example/daylily/daylily/engine/ByteWriterSetIntPinLaw", name := "ok", desc := "([BIIIII)Z" } : Jvm.MethodName) method_3_code (7 : Nat) (Option.some Jvm.ClassFile.FieldType.boolean)).before args0 about1 = true := code_word (m := ⟨1, 2⟩) (meth := k1m2) (c := k1c2) (by decide +kernel) rfl rfl rfl (by decide +kernel)
def codes1 : List Jvm.Cond := [Jvm.Cond.code x code maxLocals ret, Jvm.Cond.code ({ cls := "com/example/daylily/daylily/engine/ByteWriter", name := "<init>", desc := "(I)V" } : Jvm.MethodName) prog_10_method_1_code (2 : Nat) (Option.none : Option Jvm.ClassFile.FieldType), Jvm.Cond.code ({ cls := "java/lang/Object", name := "<init>", desc := "()V" } : Jvm.MethodName) object_method_1_code (1 : Nat) (Option.none : Option Jvm.ClassFile.FieldType), Jvm.Cond.code ({ cls := "com/example/daylily/daylily/engine/ByteWriter", name := "writeInt", desc := "(I)V" } : Jvm.MethodName) prog_10_method_7_code (3 : Nat) (Option.none : Option Jvm.ClassFile.FieldType), Jvm.Cond.code ({ cls := "com/example/daylily/daylily/engine/ByteWriter", name := "room", desc := "(I)V" } : Jvm.MethodName) prog_10_method_15_code (2 : Nat) (Option.none : Option Jvm.ClassFile.FieldType), Jvm.Cond.code ({ cls := "java/lang/Math", name := "max", desc := "(II)I" } : Jvm.MethodName) jdk_29_method_65_code (2 : Nat) (Option.some Jvm.ClassFile.FieldType.int), Jvm.Cond.code ({ cls := "java/util/Arrays", name := "copyOf", desc := "([BI)[B" } : Jvm.MethodName) jdk_65_method_121_code (3 : Nat) (Option.some (Jvm.ClassFile.FieldType.array Jvm.ClassFile.FieldType.byte)), Jvm.Cond.code ({ cls := "java/lang/Math", name := "min", desc := "(II)I" } : Jvm.MethodName) jdk_29_method_69_code (2 : Nat) (Option.some Jvm.ClassFile.FieldType.int), Jvm.Cond.code ({ cls := "com/example/daylily/daylily/engine/ByteWriter", name := "setInt", desc := "(II)V" } : Jvm.MethodName) prog_10_method_13_code (5 : Nat) (Option.none : Option Jvm.ClassFile.FieldType), Jvm.Cond.code ({ cls := "com/example/daylily/daylily/engine/ByteWriter", name := "length", desc := "()I" } : Jvm.MethodName) prog_10_method_3_code (1 : Nat) (Option.some Jvm.ClassFile.FieldType.int), Jvm.Cond.code ({ cls := "com/example/daylily/daylily/engine/ByteWriter", name := "toByteArray", desc := "()[B" } : Jvm.MethodName) prog_10_method_4_code (1 : Nat) (Option.some (Jvm.ClassFile.FieldType.array Jvm.ClassFile.FieldType.byte)), Jvm.Cond.code ({ cls := "com/example/daylily/daylily/engine/ByteWriterSetIntPinLaw", name := "ok", desc := "([BIIIII)Z" } : Jvm.MethodName) method_3_code (7 : Nat) (Option.some Jvm.ClassFile.FieldType.boolean)]
set_option maxRecDepth 65536 in
theorem codes_eq : words1.filter isCode = codes1 := rfl
theorem w_codes : ∀ c ∈ words1.filter isCode, c.before args0 about1 = true := by
  rw [codes_eq]
  intro c hc
  simp only [codes1, List.mem_cons, List.not_mem_nil, or_false] at hc
  rcases hc with rfl | rfl | rfl | rfl | rfl | rfl | rfl | rfl | rfl | rfl | rfl | rfl
  · exact w_c0
  · exact w_c1
  · exact w_c2
  · exact w_c3
  · exact w_c4
  · exact w_c5
  · exact w_c6
  · exact w_c7
  · exact w_c8
  · exact w_c9
  · exact w_c10
  · exact w_c11
set_option maxRecDepth 65536 in
theorem w_t1 : (words1.take 24).all (fun c => isCode c || c.before args0 about1) = true := by decide +kernel
set_option maxRecDepth 65536 in
theorem w_t2 : ((words1.drop 24).take 24).all (fun c => isCode c || c.before args0 about1) = true := by decide +kernel
set_option maxRecDepth 65536 in
theorem w_t3 : ((words1.drop 24).drop 24).all (fun c => isCode c || c.before args0 about1) = true := by decide +kernel
theorem w_tables : (allAtoms (Jvm.Cond.code x code maxLocals ret :: tables_1)).before args0 about1 = true := by
  rw [allAtoms_all]
  show words1.all (fun c => c.before args0 about1) = true
  refine all_split ?_ w_codes
  rw [← List.take_append_drop 24 words1, List.all_append, w_t1, ← List.take_append_drop 24 (words1.drop 24), List.all_append, w_t2, w_t3]
  rfl
set_option maxRecDepth 65536 in
theorem w_case : (Jvm.Cond.and given_1 narrow_1).before args0 about1 = true := by decide +kernel
theorem w_applies : (headSpec (Jvm.Cond.code x code maxLocals ret :: tables_1) room_1).applies x e0.platform about1 = true :=
  (Spec.applies_iff w_frames).mpr ⟨w_running, w_runnable, w_alone, w_named, w_hears, w_ripe, w_room, w_tables⟩
theorem atStart : AtStart classFile x code maxLocals ret World_1 tables_1 room_1 Calls_1 rest_1 Pre_1 launch0 p0 e0 about1 theMethod args0 below0 :=
  ⟨lists_1, trivial, launch0.admits_env _ _ _, launch0.least_env, fairChoices_fair.cas, fairChoices_fair.clock, w_frames, w_args, w_heap, w_applies, trivial, trivial, w_case⟩
end start1
theorem witness_1 : WitnessClaimed_1 := ⟨start1.p0, start1.e0, start1.about1, start1.theMethod, start1.args0, start1.below0, start1.atStart⟩
end Jvm.Pilot.@@N@@
