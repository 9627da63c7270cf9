import JvmDerived
import JvmDerived.Pilot.@@N@@Statement
import JvmDerived.Pilot.@@N@@Code
set_option linter.unusedVariables false
set_option linter.unusedSimpArgs false
namespace Jvm.OwnGo
open Sem ClassFile Op Lib Jvm.Stand Jvm.Free Jvm.LawKit Jvm.RoadKit Jvm.Free.Fl
/-- from S the run comes to an end of which P speaks -/
def Go (p : Program) (e : Env) (below : List Frame) (P : Outcome → State → Prop) (S : State) : Prop := ∃ s₂ o, Steps p.tables e below S s₂ ∧ s₂.status = .running ∧ Ended s₂ below o ∧ P o s₂
/-- what a body's end says -/
def EndsAt (s : State) (Q : Option Value → Heap → List Loc → Prop) (rm : Room) : Outcome → State → Prop := fun o U' => ∃ v L, o = .returned v ∧ Q v U'.heap L ∧ FrameEnd s o U' L rm.cells rm.slots
/-- a body's contract -/
def Ct (l : Launch) (Z : State) (y : MethodName) (bytes : ByteArray) (ml : Nat) (ret : Option FieldType) (ws : List Jvm.Cond) (rm : Room) (as : Array Value) (h0 : Heap) (Q : Option Value → Heap → List Loc → Prop) : Prop :=
  MetFree l y (head1 (Jvm.Cond.code y bytes ml ret :: ws) rm) (fun a U => a = as ∧ Z.Warmed39 U.vm ∧ U.heap = h0) (fun _ _ _ _ _ => True) (fun _ U o U' => EndsAt U Q rm o U')
section Steps1
variable {p : Program} {l : Launch} {e : Env} {R : Room} {s : State} {m : MethodId} {args : Array Value} {below : List Frame} {meth : Method} {c : Code} {T : State} {locs : List Loc} {cells slots : Nat} {P : Outcome → State → Prop} {pc : Nat} {L L' : Array Slot} {st : List Value} {Z : State} {h h' : Heap} {a0 : Array Value} {rm : Room} {Q : Option Value → Heap → List Loc → Prop}
theorem Go.via {S S' : State} (k : ∀ t, Steps p.tables e below S' t → Steps p.tables e below S t) (g : Go p e below P S') : Go p e below P S := by
  obtain ⟨s2, o, h1, h2⟩ := g; exact ⟨s2, o, k _ h1, h2⟩
theorem Go.tr {S S' : State} (k : Steps p.tables e below S S') (g : Go p e below P S') : Go p e below P S := by
  obtain ⟨s2, o, h1, h2⟩ := g; exact ⟨s2, o, k.trans h1, h2⟩
theorem Ct.intro {y : MethodName} {bytes : ByteArray} {ml : Nat} {ret : Option FieldType} {ws : List Jvm.Cond} {as : Array Value} {h0 : Heap} (hpn : plainFor y = true) (L0 : Array Slot) (hef : ∀ m, entryFrame m as ml = mkF m 0 L0 [])
    (k : ∀ (p : Program) (e : Env) (s : State) (m : MethodId) (below : List Frame) (meth : Method) (c : Code) (T : State), Stand p l e rm s m as below meth c T [] 0 0 → p.tables.exec = Jvm.exec → Z.Warmed39 s.vm → c.code = bytes → c.maxLocals = ml → s.vm.findClass y.cls = some m.cls → meth.name = y.name → meth.sig.returnType = ret → meth.locks = false → T.heap = h0 → Go p e below (EndsAt s Q rm) (T.setTop (mkF m 0 L0 []))) :
    Ct l Z y bytes ml ret ws rm as h0 Q := by
  refine MetFree.of_bodySF hpn hisR ?_
  intro p e s m args below meth c s₁ Bd hml0 hP hK
  obtain ⟨rfl, hZ, hh⟩ := hP
  obtain ⟨s2, o, h1, h2, h3, h4⟩ := k p e s m below meth c s₁ (Stand.of_body Bd) Bd.exec hZ Bd.bytes hml0 (findClass_of_methodNamed Bd.named) (name_of_methodNamed Bd.named Bd.method).1 Bd.returns (BodyLoose.notSynchronized Bd) (by rw [← hh, Bd.state]; rfl)
  exact ⟨s2, o, castTop (hef m) h1, h2, h3, h4⟩
theorem retW (X : Stand p l e R s m args below meth c T locs cells slots) (hx : p.tables.exec = Jvm.exec) (hlk : meth.locks = false) {w : Value} {t : FieldType} {i : Instr} {rest : List Value} (hret : meth.sig.returnType = some t) (hn : narrow t w = w)
    (hi : (i = .ireturn ∧ (t = .int ∨ t = .boolean ∨ t = .byte ∨ t = .char ∨ t = .short) ∧ ∃ z, w = .int z) ∨ (i = .lreturn ∧ t = .long ∧ ∃ z, w = .long z) ∨ (i = .dreturn ∧ t = .double ∧ ∃ z, w = .double z) ∨ (i = .freturn ∧ t = .float ∧ ∃ z, w = .float z) ∨ (i = .areturn ∧ t.isReference = true ∧ w.isRef = true))
    (hd : decode c.code pc = .ok (i, 1)) (eT : T.heap = h) (hq : Q (some w) h locs) (hc : cells ≤ rm.cells) (hs : slots ≤ rm.slots) : Go p e below (EndsAt s Q rm) (T.setTop (mkF m pc L (w :: rest))) := by
  obtain ⟨fs, hr, hrun, hended, hW, hsame⟩ := X.leave (v := some w) (fun q => by rw [hret] at q; cases q) hlk
  refine ⟨_, _, retOut X hx hret hn hi hd hr, hrun, hended, _, _, rfl, ?_, ⟨_, rfl⟩, hW, hsame.mono hc hs⟩
  show Q (some w) T.heap locs
  rw [eT]; exact hq
theorem retI (X : Stand p l e R s m args below meth c T locs cells slots) (hx : p.tables.exec = Jvm.exec) (hlk : meth.locks = false) {z : Int32} {rest : List Value} (hret : meth.sig.returnType = some .int) (hd : decode c.code pc = .ok (.ireturn, 1)) (eT : T.heap = h) (hq : Q (some (.int z)) h locs) (hc : cells ≤ rm.cells) (hs : slots ≤ rm.slots) : Go p e below (EndsAt s Q rm) (T.setTop (mkF m pc L (.int z :: rest))) :=
  retW X hx hlk hret rfl (Or.inl ⟨rfl, Or.inl rfl, z, rfl⟩) hd eT hq hc hs
theorem retZ (X : Stand p l e R s m args below meth c T locs cells slots) (hx : p.tables.exec = Jvm.exec) (hlk : meth.locks = false) {z : Int32} {rest : List Value} (hret : meth.sig.returnType = some .boolean) (hd : decode c.code pc = .ok (.ireturn, 1)) (hn : narrow .boolean (.int z) = .int z) (eT : T.heap = h) (hq : Q (some (.int z)) h locs) (hc : cells ≤ rm.cells) (hs : slots ≤ rm.slots) : Go p e below (EndsAt s Q rm) (T.setTop (mkF m pc L (.int z :: rest))) :=
  retW X hx hlk hret hn (Or.inl ⟨rfl, Or.inr (Or.inl rfl), z, rfl⟩) hd eT hq hc hs
theorem retJ (X : Stand p l e R s m args below meth c T locs cells slots) (hx : p.tables.exec = Jvm.exec) (hlk : meth.locks = false) {z : Int64} {rest : List Value} (hret : meth.sig.returnType = some .long) (hd : decode c.code pc = .ok (.lreturn, 1)) (eT : T.heap = h) (hq : Q (some (.long z)) h locs) (hc : cells ≤ rm.cells) (hs : slots ≤ rm.slots) : Go p e below (EndsAt s Q rm) (T.setTop (mkF m pc L (.long z :: rest))) :=
  retW X hx hlk hret rfl (Or.inr (Or.inl ⟨rfl, rfl, z, rfl⟩)) hd eT hq hc hs
theorem retD (X : Stand p l e R s m args below meth c T locs cells slots) (hx : p.tables.exec = Jvm.exec) (hlk : meth.locks = false) {z : UInt64} {rest : List Value} (hret : meth.sig.returnType = some .double) (hd : decode c.code pc = .ok (.dreturn, 1)) (eT : T.heap = h) (hq : Q (some (.double z)) h locs) (hc : cells ≤ rm.cells) (hs : slots ≤ rm.slots) : Go p e below (EndsAt s Q rm) (T.setTop (mkF m pc L (.double z :: rest))) :=
  retW X hx hlk hret rfl (Or.inr (Or.inr (Or.inl ⟨rfl, rfl, z, rfl⟩))) hd eT hq hc hs
theorem retA (X : Stand p l e R s m args below meth c T locs cells slots) (hx : p.tables.exec = Jvm.exec) (hlk : meth.locks = false) {t : FieldType} {z : Addr} {rest : List Value} (hret : meth.sig.returnType = some t) (ht : t.isReference = true) (hn : narrow t (.ref z) = .ref z) (hd : decode c.code pc = .ok (.areturn, 1)) (eT : T.heap = h) (hq : Q (some (.ref z)) h locs) (hc : cells ≤ rm.cells) (hs : slots ≤ rm.slots) : Go p e below (EndsAt s Q rm) (T.setTop (mkF m pc L (.ref z :: rest))) :=
  retW X hx hlk hret hn (Or.inr (Or.inr (Or.inr (Or.inr ⟨rfl, ht, rfl⟩)))) hd eT hq hc hs
theorem retV (X : Stand p l e R s m args below meth c T locs cells slots) (hx : p.tables.exec = Jvm.exec) (hlk : meth.locks = false) (hret : meth.sig.returnType = none) (hd : decode c.code pc = .ok (.return_, 1)) (eT : T.heap = h) (hq : Q none h locs) (hc : cells ≤ rm.cells) (hs : slots ≤ rm.slots) : Go p e below (EndsAt s Q rm) (T.setTop (mkF m pc L [])) := by
  obtain ⟨fs, hr, hrun, hended, hW, hsame⟩ := X.leave (v := none) (fun _ => rfl) hlk
  refine ⟨_, _, X.returnOut hx hret hd hr, hrun, hended, _, _, rfl, ?_, ⟨_, rfl⟩, hW, hsame.mono hc hs⟩
  show Q none T.heap locs
  rw [eT]; exact hq
theorem s_iload (X : Stand p l e R s m args below meth c T locs cells slots) (hx : p.tables.exec = Jvm.exec) {k : Nat} {v : Int32} (hd : decode c.code pc = .ok (.iload k, 2)) (hl : L[k]? = some (.val (.int v))) (pc' : Nat) (hp : pc + 2 = pc') (g : Go p e below P (T.setTop (mkF m pc' L (.int v :: st)))) : Go p e below P (T.setTop (mkF m pc L (st))) := by
  subst hp; exact Go.via (fun _ k => XS.iload X.here hx rfl hd hl k) g
theorem s_iloadN (X : Stand p l e R s m args below meth c T locs cells slots) (hx : p.tables.exec = Jvm.exec) {k : Fin 4} {v : Int32} (hd : decode c.code pc = .ok (.iload_n k, 1)) (hl : L[k.val]? = some (.val (.int v))) (pc' : Nat) (hp : pc + 1 = pc') (g : Go p e below P (T.setTop (mkF m pc' L (.int v :: st)))) : Go p e below P (T.setTop (mkF m pc L (st))) := by
  subst hp; exact Go.via (fun _ k => XS.iloadN X.here hx rfl hd hl k) g
theorem s_istore (X : Stand p l e R s m args below meth c T locs cells slots) (hx : p.tables.exec = Jvm.exec) {k : Nat} {v : Int32} (hd : decode c.code pc = .ok (.istore k, 2)) (L' : Array Slot) (hl : storeLocals L k (.int v) = some L') (pc' : Nat) (hp : pc + 2 = pc') (g : Go p e below P (T.setTop (mkF m pc' L' (st)))) : Go p e below P (T.setTop (mkF m pc L (.int v :: st))) := by
  subst hp; exact Go.via (fun _ k => XS.istore X.here hx rfl hd rfl hl k) g
theorem s_istoreN (X : Stand p l e R s m args below meth c T locs cells slots) (hx : p.tables.exec = Jvm.exec) {k : Fin 4} {v : Int32} (hd : decode c.code pc = .ok (.istore_n k, 1)) (L' : Array Slot) (hl : storeLocals L k.val (.int v) = some L') (pc' : Nat) (hp : pc + 1 = pc') (g : Go p e below P (T.setTop (mkF m pc' L' (st)))) : Go p e below P (T.setTop (mkF m pc L (.int v :: st))) := by
  subst hp; exact Go.via (fun _ k => XS.istoreN X.here hx rfl hd rfl hl k) g
theorem s_lload (X : Stand p l e R s m args below meth c T locs cells slots) (hx : p.tables.exec = Jvm.exec) {k : Nat} {v : Int64} (hd : decode c.code pc = .ok (.lload k, 2)) (hl : L[k]? = some (.val (.long v))) (pc' : Nat) (hp : pc + 2 = pc') (g : Go p e below P (T.setTop (mkF m pc' L (.long v :: st)))) : Go p e below P (T.setTop (mkF m pc L (st))) := by
  subst hp; exact Go.via (fun _ k => XT.lload X.here hx rfl hd hl k) g
theorem s_lloadN (X : Stand p l e R s m args below meth c T locs cells slots) (hx : p.tables.exec = Jvm.exec) {k : Fin 4} {v : Int64} (hd : decode c.code pc = .ok (.lload_n k, 1)) (hl : L[k.val]? = some (.val (.long v))) (pc' : Nat) (hp : pc + 1 = pc') (g : Go p e below P (T.setTop (mkF m pc' L (.long v :: st)))) : Go p e below P (T.setTop (mkF m pc L (st))) := by
  subst hp; exact Go.via (fun _ k => XT.lloadN X.here hx rfl hd hl k) g
theorem s_lstore (X : Stand p l e R s m args below meth c T locs cells slots) (hx : p.tables.exec = Jvm.exec) {k : Nat} {v : Int64} (hd : decode c.code pc = .ok (.lstore k, 2)) (L' : Array Slot) (hl : storeLocals L k (.long v) = some L') (pc' : Nat) (hp : pc + 2 = pc') (g : Go p e below P (T.setTop (mkF m pc' L' (st)))) : Go p e below P (T.setTop (mkF m pc L (.long v :: st))) := by
  subst hp; exact Go.via (fun _ k => XT.lstore X.here hx rfl hd rfl hl k) g
theorem s_lstoreN (X : Stand p l e R s m args below meth c T locs cells slots) (hx : p.tables.exec = Jvm.exec) {k : Fin 4} {v : Int64} (hd : decode c.code pc = .ok (.lstore_n k, 1)) (L' : Array Slot) (hl : storeLocals L k.val (.long v) = some L') (pc' : Nat) (hp : pc + 1 = pc') (g : Go p e below P (T.setTop (mkF m pc' L' (st)))) : Go p e below P (T.setTop (mkF m pc L (.long v :: st))) := by
  subst hp; exact Go.via (fun _ k => XT.lstoreN X.here hx rfl hd rfl hl k) g
theorem s_dload (X : Stand p l e R s m args below meth c T locs cells slots) (hx : p.tables.exec = Jvm.exec) {k : Nat} {v : UInt64} (hd : decode c.code pc = .ok (.dload k, 2)) (hl : L[k]? = some (.val (.double v))) (pc' : Nat) (hp : pc + 2 = pc') (g : Go p e below P (T.setTop (mkF m pc' L (.double v :: st)))) : Go p e below P (T.setTop (mkF m pc L (st))) := by
  subst hp; exact Go.via (fun _ k => XS.dload X.here hx rfl hd hl k) g
theorem s_dloadN (X : Stand p l e R s m args below meth c T locs cells slots) (hx : p.tables.exec = Jvm.exec) {k : Fin 4} {v : UInt64} (hd : decode c.code pc = .ok (.dload_n k, 1)) (hl : L[k.val]? = some (.val (.double v))) (pc' : Nat) (hp : pc + 1 = pc') (g : Go p e below P (T.setTop (mkF m pc' L (.double v :: st)))) : Go p e below P (T.setTop (mkF m pc L (st))) := by
  subst hp; exact Go.via (fun _ k => XS.dloadN X.here hx rfl hd hl k) g
theorem s_dstore (X : Stand p l e R s m args below meth c T locs cells slots) (hx : p.tables.exec = Jvm.exec) {k : Nat} {v : UInt64} (hd : decode c.code pc = .ok (.dstore k, 2)) (L' : Array Slot) (hl : storeLocals L k (.double v) = some L') (pc' : Nat) (hp : pc + 2 = pc') (g : Go p e below P (T.setTop (mkF m pc' L' (st)))) : Go p e below P (T.setTop (mkF m pc L (.double v :: st))) := by
  subst hp; exact Go.via (fun _ k => XS.dstore X.here hx rfl hd rfl hl k) g
theorem s_dstoreN (X : Stand p l e R s m args below meth c T locs cells slots) (hx : p.tables.exec = Jvm.exec) {k : Fin 4} {v : UInt64} (hd : decode c.code pc = .ok (.dstore_n k, 1)) (L' : Array Slot) (hl : storeLocals L k.val (.double v) = some L') (pc' : Nat) (hp : pc + 1 = pc') (g : Go p e below P (T.setTop (mkF m pc' L' (st)))) : Go p e below P (T.setTop (mkF m pc L (.double v :: st))) := by
  subst hp; exact Go.via (fun _ k => XS.dstoreN X.here hx rfl hd rfl hl k) g
theorem s_aload (X : Stand p l e R s m args below meth c T locs cells slots) (hx : p.tables.exec = Jvm.exec) {k : Nat} {v : Value} (hd : decode c.code pc = .ok (.aload k, 2)) (hl : L[k]? = some (.val v)) (hv : v.isRef = true) (pc' : Nat) (hp : pc + 2 = pc') (g : Go p e below P (T.setTop (mkF m pc' L (v :: st)))) : Go p e below P (T.setTop (mkF m pc L (st))) := by
  subst hp; exact Go.via (fun _ k => XS.aload X.here hx rfl hd hl hv k) g
theorem s_aloadN (X : Stand p l e R s m args below meth c T locs cells slots) (hx : p.tables.exec = Jvm.exec) {k : Fin 4} {v : Value} (hd : decode c.code pc = .ok (.aload_n k, 1)) (hl : L[k.val]? = some (.val v)) (hv : v.isRef = true) (pc' : Nat) (hp : pc + 1 = pc') (g : Go p e below P (T.setTop (mkF m pc' L (v :: st)))) : Go p e below P (T.setTop (mkF m pc L (st))) := by
  subst hp; exact Go.via (fun _ k => XS.aloadN X.here hx rfl hd hl hv k) g
theorem s_astore (X : Stand p l e R s m args below meth c T locs cells slots) (hx : p.tables.exec = Jvm.exec) {k : Nat} {v : Value} (hd : decode c.code pc = .ok (.astore k, 2)) (hv : v.isRef = true) (L' : Array Slot) (hl : storeLocals L k v = some L') (pc' : Nat) (hp : pc + 2 = pc') (g : Go p e below P (T.setTop (mkF m pc' L' (st)))) : Go p e below P (T.setTop (mkF m pc L (v :: st))) := by
  subst hp; exact Go.via (fun _ k => XS.astore X.here hx rfl hd rfl hv hl k) g
theorem s_astoreN (X : Stand p l e R s m args below meth c T locs cells slots) (hx : p.tables.exec = Jvm.exec) {k : Fin 4} {v : Value} (hd : decode c.code pc = .ok (.astore_n k, 1)) (hv : v.isRef = true) (L' : Array Slot) (hl : storeLocals L k.val v = some L') (pc' : Nat) (hp : pc + 1 = pc') (g : Go p e below P (T.setTop (mkF m pc' L' (st)))) : Go p e below P (T.setTop (mkF m pc L (v :: st))) := by
  subst hp; exact Go.via (fun _ k => XS.astoreN X.here hx rfl hd rfl hv hl k) g
theorem s_iconst (X : Stand p l e R s m args below meth c T locs cells slots) (hx : p.tables.exec = Jvm.exec) {i : Int} (hd : decode c.code pc = .ok (.iconst i, 1)) (v : Int32) (hv : Int32.ofInt i = v) (pc' : Nat) (hp : pc + 1 = pc') (g : Go p e below P (T.setTop (mkF m pc' L (.int v :: st)))) : Go p e below P (T.setTop (mkF m pc L (st))) := by
  subst hp hv; exact Go.via (fun _ k => XS.iconst X.here hx rfl hd k) g
theorem s_bipush (X : Stand p l e R s m args below meth c T locs cells slots) (hx : p.tables.exec = Jvm.exec) {i : Int} (hd : decode c.code pc = .ok (.bipush i, 2)) (v : Int32) (hv : (Int8.ofInt i).toInt32 = v) (pc' : Nat) (hp : pc + 2 = pc') (g : Go p e below P (T.setTop (mkF m pc' L (.int v :: st)))) : Go p e below P (T.setTop (mkF m pc L (st))) := by
  subst hp hv; exact Go.via (fun _ k => XS.bipush X.here hx rfl hd k) g
theorem s_sipush (X : Stand p l e R s m args below meth c T locs cells slots) (hx : p.tables.exec = Jvm.exec) {i : Int} (hd : decode c.code pc = .ok (.sipush i, 3)) (v : Int32) (hv : (Int16.ofInt i).toInt32 = v) (pc' : Nat) (hp : pc + 3 = pc') (g : Go p e below P (T.setTop (mkF m pc' L (.int v :: st)))) : Go p e below P (T.setTop (mkF m pc L (st))) := by
  subst hp hv; exact Go.via (fun _ k => XS.sipush X.here hx rfl hd k) g
theorem s_lconst (X : Stand p l e R s m args below meth c T locs cells slots) (hx : p.tables.exec = Jvm.exec) {i : Fin 2} (hd : decode c.code pc = .ok (.lconst i, 1)) (v : Int64) (hv : Int64.ofNat i = v) (pc' : Nat) (hp : pc + 1 = pc') (g : Go p e below P (T.setTop (mkF m pc' L (.long v :: st)))) : Go p e below P (T.setTop (mkF m pc L (st))) := by
  subst hp; exact Go.via (fun _ k => XT.lconstV X.here hx rfl v hd hv k) g
theorem s_null (X : Stand p l e R s m args below meth c T locs cells slots) (hx : p.tables.exec = Jvm.exec)  (hd : decode c.code pc = .ok (.aconst_null, 1))  (pc' : Nat) (hp : pc + 1 = pc') (g : Go p e below P (T.setTop (mkF m pc' L (.null :: st)))) : Go p e below P (T.setTop (mkF m pc L (st))) := by
  subst hp; exact Go.via (fun _ k => XS.aconstNull X.here hx rfl hd k) g
theorem s_dconst0 (X : Stand p l e R s m args below meth c T locs cells slots) (hx : p.tables.exec = Jvm.exec)  (hd : decode c.code pc = .ok (.dconst 0, 1)) (v : UInt64) (hv : FP.dconst0 = v) (pc' : Nat) (hp : pc + 1 = pc') (g : Go p e below P (T.setTop (mkF m pc' L (.double v :: st)))) : Go p e below P (T.setTop (mkF m pc L (st))) := by
  subst hp; exact Go.via (fun _ k => XS.dconst0 X.here hx rfl hd hv k) g
theorem s_dconst1 (X : Stand p l e R s m args below meth c T locs cells slots) (hx : p.tables.exec = Jvm.exec)  (hd : decode c.code pc = .ok (.dconst 1, 1)) (v : UInt64) (hv : FP.dconst1 = v) (pc' : Nat) (hp : pc + 1 = pc') (g : Go p e below P (T.setTop (mkF m pc' L (.double v :: st)))) : Go p e below P (T.setTop (mkF m pc L (st))) := by
  subst hp; exact Go.via (fun _ k => XS.dconst1 X.here hx rfl hd hv k) g
theorem s_ldcI (X : Stand p l e R s m args below meth c T locs cells slots) (hx : p.tables.exec = Jvm.exec) {i : Nat} {v : Int32} (hd : decode c.code pc = .ok (.ldc i, 2)) (hZ : Z.Warmed39 s.vm) {own : String} (hown : s.vm.findClass own = some m.cls) (w : (Cond.constant own i v).before a0 Z = true) (pc' : Nat) (hp : pc + 2 = pc') (g : Go p e below P (T.setTop (mkF m pc' L (.int v :: st)))) : Go p e below P (T.setTop (mkF m pc L (st))) := by
  subst hp; exact Go.via (fun _ k => X.ldcI hx hown (mvT hZ w) rfl hd k) g
theorem s_ldc2J (X : Stand p l e R s m args below meth c T locs cells slots) (hx : p.tables.exec = Jvm.exec) {i : Nat} {v : Int64} (hd : decode c.code pc = .ok (.ldc2_w i, 3)) (hZ : Z.Warmed39 s.vm) {own : String} (hown : s.vm.findClass own = some m.cls) (w : (Cond.constantLong own i v).before a0 Z = true) (pc' : Nat) (hp : pc + 3 = pc') (g : Go p e below P (T.setTop (mkF m pc' L (.long v :: st)))) : Go p e below P (T.setTop (mkF m pc L (st))) := by
  subst hp; exact Go.via (fun _ k => X.ldc2J hx hown (mvT hZ w) rfl hd k) g
theorem s_ldc2D (X : Stand p l e R s m args below meth c T locs cells slots) (hx : p.tables.exec = Jvm.exec) {i : Nat} {v : UInt64} (hd : decode c.code pc = .ok (.ldc2_w i, 3)) (hZ : Z.Warmed39 s.vm) {own : String} (hown : s.vm.findClass own = some m.cls) (w : (Cond.constantDouble own i v).before a0 Z = true) (pc' : Nat) (hp : pc + 3 = pc') (g : Go p e below P (T.setTop (mkF m pc' L (.double v :: st)))) : Go p e below P (T.setTop (mkF m pc L (st))) := by
  subst hp; exact Go.via (fun _ k => X.ldc2DoubleC hx hown (mvT hZ w) (g := mkF m pc L st) rfl hd _ k) g
theorem s_iadd (X : Stand p l e R s m args below meth c T locs cells slots) (hx : p.tables.exec = Jvm.exec) {x y : Int32} (hd : decode c.code pc = .ok (.iadd, 1)) (v : Int32) (hv : x + y = v) (pc' : Nat) (hp : pc + 1 = pc') (g : Go p e below P (T.setTop (mkF m pc' L (.int v :: st)))) : Go p e below P (T.setTop (mkF m pc L (.int y :: .int x :: st))) := by
  subst hp hv; exact Go.via (fun _ k => XS.iadd X.here hx rfl hd rfl k) g
theorem s_isub (X : Stand p l e R s m args below meth c T locs cells slots) (hx : p.tables.exec = Jvm.exec) {x y : Int32} (hd : decode c.code pc = .ok (.isub, 1)) (v : Int32) (hv : x - y = v) (pc' : Nat) (hp : pc + 1 = pc') (g : Go p e below P (T.setTop (mkF m pc' L (.int v :: st)))) : Go p e below P (T.setTop (mkF m pc L (.int y :: .int x :: st))) := by
  subst hp hv; exact Go.via (fun _ k => XS.isub X.here hx rfl hd rfl k) g
theorem s_imul (X : Stand p l e R s m args below meth c T locs cells slots) (hx : p.tables.exec = Jvm.exec) {x y : Int32} (hd : decode c.code pc = .ok (.imul, 1)) (v : Int32) (hv : x * y = v) (pc' : Nat) (hp : pc + 1 = pc') (g : Go p e below P (T.setTop (mkF m pc' L (.int v :: st)))) : Go p e below P (T.setTop (mkF m pc L (.int y :: .int x :: st))) := by
  subst hp hv; exact Go.via (fun _ k => XS.imul X.here hx rfl hd rfl k) g
theorem s_iand (X : Stand p l e R s m args below meth c T locs cells slots) (hx : p.tables.exec = Jvm.exec) {x y : Int32} (hd : decode c.code pc = .ok (.iand, 1)) (v : Int32) (hv : x &&& y = v) (pc' : Nat) (hp : pc + 1 = pc') (g : Go p e below P (T.setTop (mkF m pc' L (.int v :: st)))) : Go p e below P (T.setTop (mkF m pc L (.int y :: .int x :: st))) := by
  subst hp hv; exact Go.via (fun _ k => XS.iand X.here hx rfl hd rfl k) g
theorem s_ixor (X : Stand p l e R s m args below meth c T locs cells slots) (hx : p.tables.exec = Jvm.exec) {x y : Int32} (hd : decode c.code pc = .ok (.ixor, 1)) (v : Int32) (hv : x ^^^ y = v) (pc' : Nat) (hp : pc + 1 = pc') (g : Go p e below P (T.setTop (mkF m pc' L (.int v :: st)))) : Go p e below P (T.setTop (mkF m pc L (.int y :: .int x :: st))) := by
  subst hp hv; exact Go.via (fun _ k => XT.ixor X.here hx rfl hd rfl k) g
theorem s_ior (X : Stand p l e R s m args below meth c T locs cells slots) (hx : p.tables.exec = Jvm.exec) {x y : Int32} (hd : decode c.code pc = .ok (.ior, 1)) (v : Int32) (hv : x ||| y = v) (pc' : Nat) (hp : pc + 1 = pc') (g : Go p e below P (T.setTop (mkF m pc' L (.int v :: st)))) : Go p e below P (T.setTop (mkF m pc L (.int y :: .int x :: st))) := by
  subst hp hv; exact Go.via (fun _ k => XT.ior X.here hx rfl hd rfl k) g
theorem s_ishl (X : Stand p l e R s m args below meth c T locs cells slots) (hx : p.tables.exec = Jvm.exec) {x y : Int32} (hd : decode c.code pc = .ok (.ishl, 1)) (v : Int32) (hv : x <<< (y &&& 31) = v) (pc' : Nat) (hp : pc + 1 = pc') (g : Go p e below P (T.setTop (mkF m pc' L (.int v :: st)))) : Go p e below P (T.setTop (mkF m pc L (.int y :: .int x :: st))) := by
  subst hp hv; exact Go.via (fun _ k => XT.ishl X.here hx rfl hd rfl k) g
theorem s_ishr (X : Stand p l e R s m args below meth c T locs cells slots) (hx : p.tables.exec = Jvm.exec) {x y : Int32} (hd : decode c.code pc = .ok (.ishr, 1)) (v : Int32) (hv : x >>> (y &&& 31) = v) (pc' : Nat) (hp : pc + 1 = pc') (g : Go p e below P (T.setTop (mkF m pc' L (.int v :: st)))) : Go p e below P (T.setTop (mkF m pc L (.int y :: .int x :: st))) := by
  subst hp hv; exact Go.via (fun _ k => XT.ishr X.here hx rfl hd rfl k) g
theorem s_iushr (X : Stand p l e R s m args below meth c T locs cells slots) (hx : p.tables.exec = Jvm.exec) {x y : Int32} (hd : decode c.code pc = .ok (.iushr, 1)) (v : Int32) (hv : XT.ushr x y = v) (pc' : Nat) (hp : pc + 1 = pc') (g : Go p e below P (T.setTop (mkF m pc' L (.int v :: st)))) : Go p e below P (T.setTop (mkF m pc L (.int y :: .int x :: st))) := by
  subst hp hv; exact Go.via (fun _ k => XT.iushr X.here hx rfl hd rfl k) g
theorem s_idiv (X : Stand p l e R s m args below meth c T locs cells slots) (hx : p.tables.exec = Jvm.exec) {x y : Int32} (hd : decode c.code pc = .ok (.idiv, 1)) (hy : y ≠ 0) (v : Int32) (hv : x / y = v) (pc' : Nat) (hp : pc + 1 = pc') (g : Go p e below P (T.setTop (mkF m pc' L (.int v :: st)))) : Go p e below P (T.setTop (mkF m pc L (.int y :: .int x :: st))) := by
  subst hp hv; exact Go.via (fun _ k => XS.idiv X.here hx rfl hd rfl hy k) g
theorem s_irem (X : Stand p l e R s m args below meth c T locs cells slots) (hx : p.tables.exec = Jvm.exec) {x y : Int32} (hd : decode c.code pc = .ok (.irem, 1)) (hy : y ≠ 0) (v : Int32) (hv : x % y = v) (pc' : Nat) (hp : pc + 1 = pc') (g : Go p e below P (T.setTop (mkF m pc' L (.int v :: st)))) : Go p e below P (T.setTop (mkF m pc L (.int y :: .int x :: st))) := by
  subst hp hv; exact Go.via (fun _ k => RoadKit.iremM X hx rfl hd rfl hy k) g
theorem s_ineg (X : Stand p l e R s m args below meth c T locs cells slots) (hx : p.tables.exec = Jvm.exec) {x : Int32} (hd : decode c.code pc = .ok (.ineg, 1)) (v : Int32) (hv : -x = v) (pc' : Nat) (hp : pc + 1 = pc') (g : Go p e below P (T.setTop (mkF m pc' L (.int v :: st)))) : Go p e below P (T.setTop (mkF m pc L (.int x :: st))) := by
  subst hp hv; exact Go.via (fun _ k => XS.ineg X.here hx rfl hd rfl k) g
theorem s_ladd (X : Stand p l e R s m args below meth c T locs cells slots) (hx : p.tables.exec = Jvm.exec) {x y : Int64} (hd : decode c.code pc = .ok (.ladd, 1)) (v : Int64) (hv : x + y = v) (pc' : Nat) (hp : pc + 1 = pc') (g : Go p e below P (T.setTop (mkF m pc' L (.long v :: st)))) : Go p e below P (T.setTop (mkF m pc L (.long y :: .long x :: st))) := by
  subst hp hv; exact Go.via (fun _ k => XT.ladd X.here hx rfl hd rfl k) g
theorem s_lsub (X : Stand p l e R s m args below meth c T locs cells slots) (hx : p.tables.exec = Jvm.exec) {x y : Int64} (hd : decode c.code pc = .ok (.lsub, 1)) (v : Int64) (hv : x - y = v) (pc' : Nat) (hp : pc + 1 = pc') (g : Go p e below P (T.setTop (mkF m pc' L (.long v :: st)))) : Go p e below P (T.setTop (mkF m pc L (.long y :: .long x :: st))) := by
  subst hp hv; exact Go.via (fun _ k => XT.lsub X.here hx rfl hd rfl k) g
theorem s_lmul (X : Stand p l e R s m args below meth c T locs cells slots) (hx : p.tables.exec = Jvm.exec) {x y : Int64} (hd : decode c.code pc = .ok (.lmul, 1)) (v : Int64) (hv : x * y = v) (pc' : Nat) (hp : pc + 1 = pc') (g : Go p e below P (T.setTop (mkF m pc' L (.long v :: st)))) : Go p e below P (T.setTop (mkF m pc L (.long y :: .long x :: st))) := by
  subst hp hv; exact Go.via (fun _ k => XT.lmul X.here hx rfl hd rfl k) g
theorem s_land (X : Stand p l e R s m args below meth c T locs cells slots) (hx : p.tables.exec = Jvm.exec) {x y : Int64} (hd : decode c.code pc = .ok (.land, 1)) (v : Int64) (hv : x &&& y = v) (pc' : Nat) (hp : pc + 1 = pc') (g : Go p e below P (T.setTop (mkF m pc' L (.long v :: st)))) : Go p e below P (T.setTop (mkF m pc L (.long y :: .long x :: st))) := by
  subst hp hv; exact Go.via (fun _ k => XT.land X.here hx rfl hd rfl k) g
theorem s_lor (X : Stand p l e R s m args below meth c T locs cells slots) (hx : p.tables.exec = Jvm.exec) {x y : Int64} (hd : decode c.code pc = .ok (.lor, 1)) (v : Int64) (hv : x ||| y = v) (pc' : Nat) (hp : pc + 1 = pc') (g : Go p e below P (T.setTop (mkF m pc' L (.long v :: st)))) : Go p e below P (T.setTop (mkF m pc L (.long y :: .long x :: st))) := by
  subst hp hv; exact Go.via (fun _ k => XT.lor X.here hx rfl hd rfl k) g
theorem s_lxor (X : Stand p l e R s m args below meth c T locs cells slots) (hx : p.tables.exec = Jvm.exec) {x y : Int64} (hd : decode c.code pc = .ok (.lxor, 1)) (v : Int64) (hv : x ^^^ y = v) (pc' : Nat) (hp : pc + 1 = pc') (g : Go p e below P (T.setTop (mkF m pc' L (.long v :: st)))) : Go p e below P (T.setTop (mkF m pc L (.long y :: .long x :: st))) := by
  subst hp hv; exact Go.via (fun _ k => XT.lxor X.here hx rfl hd rfl k) g
theorem s_ldiv (X : Stand p l e R s m args below meth c T locs cells slots) (hx : p.tables.exec = Jvm.exec) {x y : Int64} (hd : decode c.code pc = .ok (.ldiv, 1)) (hy : y ≠ 0) (v : Int64) (hv : x / y = v) (pc' : Nat) (hp : pc + 1 = pc') (g : Go p e below P (T.setTop (mkF m pc' L (.long v :: st)))) : Go p e below P (T.setTop (mkF m pc L (.long y :: .long x :: st))) := by
  subst hp hv; exact Go.via (fun _ k => XT.ldiv X.here hx rfl hd rfl hy k) g
theorem s_lrem (X : Stand p l e R s m args below meth c T locs cells slots) (hx : p.tables.exec = Jvm.exec) {x y : Int64} (hd : decode c.code pc = .ok (.lrem, 1)) (hy : y ≠ 0) (v : Int64) (hv : x - (x / y) * y = v) (pc' : Nat) (hp : pc + 1 = pc') (g : Go p e below P (T.setTop (mkF m pc' L (.long v :: st)))) : Go p e below P (T.setTop (mkF m pc L (.long y :: .long x :: st))) := by
  subst hp hv; exact Go.via (fun _ k => XT.lrem X.here hx rfl hd rfl hy k) g
theorem s_lneg (X : Stand p l e R s m args below meth c T locs cells slots) (hx : p.tables.exec = Jvm.exec) {x : Int64} (hd : decode c.code pc = .ok (.lneg, 1)) (v : Int64) (hv : -x = v) (pc' : Nat) (hp : pc + 1 = pc') (g : Go p e below P (T.setTop (mkF m pc' L (.long v :: st)))) : Go p e below P (T.setTop (mkF m pc L (.long x :: st))) := by
  subst hp hv; exact Go.via (fun _ k => XT.lneg X.here hx rfl hd rfl k) g
theorem sh64 (y : Int32) : (y.toInt64 &&& 63) = (y &&& 0x3f).toInt64 := by rw [Int32.toInt64_and]; rfl
theorem s_lshl (X : Stand p l e R s m args below meth c T locs cells slots) (hx : p.tables.exec = Jvm.exec) {x : Int64} {y : Int32} (hd : decode c.code pc = .ok (.lshl, 1)) (v : Int64) (hv : x <<< (y &&& 0x3f).toInt64 = v) (pc' : Nat) (hp : pc + 1 = pc') (g : Go p e below P (T.setTop (mkF m pc' L (.long v :: st)))) : Go p e below P (T.setTop (mkF m pc L (.int y :: .long x :: st))) := by
  subst hp hv; exact Go.via (fun _ k => XT.lshl X.here hx rfl hd rfl (by rw [sh64]; exact k)) g
theorem s_lshr (X : Stand p l e R s m args below meth c T locs cells slots) (hx : p.tables.exec = Jvm.exec) {x : Int64} {y : Int32} (hd : decode c.code pc = .ok (.lshr, 1)) (v : Int64) (hv : x >>> (y &&& 0x3f).toInt64 = v) (pc' : Nat) (hp : pc + 1 = pc') (g : Go p e below P (T.setTop (mkF m pc' L (.long v :: st)))) : Go p e below P (T.setTop (mkF m pc L (.int y :: .long x :: st))) := by
  subst hp hv; exact Go.via (fun _ k => XT.lshr X.here hx rfl hd rfl (by rw [sh64]; exact k)) g
theorem s_lushr (X : Stand p l e R s m args below meth c T locs cells slots) (hx : p.tables.exec = Jvm.exec) {x : Int64} {y : Int32} (hd : decode c.code pc = .ok (.lushr, 1)) (v : Int64) (hv : XT.ushrL x y = v) (pc' : Nat) (hp : pc + 1 = pc') (g : Go p e below P (T.setTop (mkF m pc' L (.long v :: st)))) : Go p e below P (T.setTop (mkF m pc L (.int y :: .long x :: st))) := by
  subst hp hv; exact Go.via (fun _ k => XT.lushr X.here hx rfl hd rfl k) g
theorem s_i2l (X : Stand p l e R s m args below meth c T locs cells slots) (hx : p.tables.exec = Jvm.exec) {x : Int32} (hd : decode c.code pc = .ok (.i2l, 1)) (v : Int64) (hv : x.toInt64 = v) (pc' : Nat) (hp : pc + 1 = pc') (g : Go p e below P (T.setTop (mkF m pc' L (.long v :: st)))) : Go p e below P (T.setTop (mkF m pc L (.int x :: st))) := by
  subst hp hv; exact Go.via (fun _ k => XT.i2l X.here hx rfl hd rfl k) g
theorem s_l2i (X : Stand p l e R s m args below meth c T locs cells slots) (hx : p.tables.exec = Jvm.exec) {x : Int64} (hd : decode c.code pc = .ok (.l2i, 1)) (v : Int32) (hv : x.toInt32 = v) (pc' : Nat) (hp : pc + 1 = pc') (g : Go p e below P (T.setTop (mkF m pc' L (.int v :: st)))) : Go p e below P (T.setTop (mkF m pc L (.long x :: st))) := by
  subst hp hv; exact Go.via (fun _ k => XT.l2i X.here hx rfl hd rfl k) g
theorem s_i2b (X : Stand p l e R s m args below meth c T locs cells slots) (hx : p.tables.exec = Jvm.exec) {x : Int32} (hd : decode c.code pc = .ok (.i2b, 1)) (v : Int32) (hv : x.toInt8.toInt32 = v) (pc' : Nat) (hp : pc + 1 = pc') (g : Go p e below P (T.setTop (mkF m pc' L (.int v :: st)))) : Go p e below P (T.setTop (mkF m pc L (.int x :: st))) := by
  subst hp hv; exact Go.via (fun _ k => XT.i2b X.here hx rfl hd rfl k) g
theorem s_i2s (X : Stand p l e R s m args below meth c T locs cells slots) (hx : p.tables.exec = Jvm.exec) {x : Int32} (hd : decode c.code pc = .ok (.i2s, 1)) (v : Int32) (hv : x.toInt16.toInt32 = v) (pc' : Nat) (hp : pc + 1 = pc') (g : Go p e below P (T.setTop (mkF m pc' L (.int v :: st)))) : Go p e below P (T.setTop (mkF m pc L (.int x :: st))) := by
  subst hp hv; exact Go.via (fun _ k => XT.i2s X.here hx rfl hd rfl k) g
theorem s_i2d (X : Stand p l e R s m args below meth c T locs cells slots) (hx : p.tables.exec = Jvm.exec) {x : Int32} (hd : decode c.code pc = .ok (.i2d, 1)) (v : UInt64) (hv : FP.i2d x = v) (pc' : Nat) (hp : pc + 1 = pc') (g : Go p e below P (T.setTop (mkF m pc' L (.double v :: st)))) : Go p e below P (T.setTop (mkF m pc L (.int x :: st))) := by
  subst hp; exact Go.via (fun _ k => XS.i2dS X.here hx rfl hd rfl hv k) g
theorem s_l2d (X : Stand p l e R s m args below meth c T locs cells slots) (hx : p.tables.exec = Jvm.exec) {x : Int64} (hd : decode c.code pc = .ok (.l2d, 1)) (v : UInt64) (hv : FP.l2d x = v) (pc' : Nat) (hp : pc + 1 = pc') (g : Go p e below P (T.setTop (mkF m pc' L (.double v :: st)))) : Go p e below P (T.setTop (mkF m pc L (.long x :: st))) := by
  subst hp; exact Go.via (fun _ k => XS.l2dS X.here hx rfl hd rfl hv k) g
theorem s_dneg (X : Stand p l e R s m args below meth c T locs cells slots) (hx : p.tables.exec = Jvm.exec) {x : UInt64} (hd : decode c.code pc = .ok (.dneg, 1)) (v : UInt64) (hv : FP.dneg x = v) (pc' : Nat) (hp : pc + 1 = pc') (g : Go p e below P (T.setTop (mkF m pc' L (.double v :: st)))) : Go p e below P (T.setTop (mkF m pc L (.double x :: st))) := by
  subst hp; exact Go.via (fun _ k => XS.dnegS X.here hx rfl hd rfl hv k) g
theorem s_dadd (X : Stand p l e R s m args below meth c T locs cells slots) (hx : p.tables.exec = Jvm.exec) {x y : UInt64} (hd : decode c.code pc = .ok (.dadd, 1)) (v : UInt64) (hv : FP.dadd x y = v) (hn : NoNaN64 v) (pc' : Nat) (hp : pc + 1 = pc') (g : Go p e below P (T.setTop (mkF m pc' L (.double v :: st)))) : Go p e below P (T.setTop (mkF m pc L (.double y :: .double x :: st))) := by
  subst hp hv; exact Go.via (fun _ k => XS.daddS X.here hx rfl hd rfl hn rfl k) g
theorem s_dsub (X : Stand p l e R s m args below meth c T locs cells slots) (hx : p.tables.exec = Jvm.exec) {x y : UInt64} (hd : decode c.code pc = .ok (.dsub, 1)) (v : UInt64) (hv : FP.dsub x y = v) (hn : NoNaN64 v) (pc' : Nat) (hp : pc + 1 = pc') (g : Go p e below P (T.setTop (mkF m pc' L (.double v :: st)))) : Go p e below P (T.setTop (mkF m pc L (.double y :: .double x :: st))) := by
  subst hp hv; exact Go.via (fun _ k => XS.dsubS X.here hx rfl hd rfl hn rfl k) g
theorem s_dmul (X : Stand p l e R s m args below meth c T locs cells slots) (hx : p.tables.exec = Jvm.exec) {x y : UInt64} (hd : decode c.code pc = .ok (.dmul, 1)) (v : UInt64) (hv : FP.dmul x y = v) (hn : NoNaN64 v) (pc' : Nat) (hp : pc + 1 = pc') (g : Go p e below P (T.setTop (mkF m pc' L (.double v :: st)))) : Go p e below P (T.setTop (mkF m pc L (.double y :: .double x :: st))) := by
  subst hp hv; exact Go.via (fun _ k => XS.dmulS X.here hx rfl hd rfl hn rfl k) g
theorem s_ddiv (X : Stand p l e R s m args below meth c T locs cells slots) (hx : p.tables.exec = Jvm.exec) {x y : UInt64} (hd : decode c.code pc = .ok (.ddiv, 1)) (v : UInt64) (hv : FP.ddiv x y = v) (hn : NoNaN64 v) (pc' : Nat) (hp : pc + 1 = pc') (g : Go p e below P (T.setTop (mkF m pc' L (.double v :: st)))) : Go p e below P (T.setTop (mkF m pc L (.double y :: .double x :: st))) := by
  subst hp hv; exact Go.via (fun _ k => XS.ddivS X.here hx rfl hd rfl hn rfl k) g
theorem s_dcmp (X : Stand p l e R s m args below meth c T locs cells slots) (hx : p.tables.exec = Jvm.exec) {x y : UInt64} {o : CmpOp} (hd : decode c.code pc = .ok (.dcmp o, 1)) (v : Int32) (hv : cmpValue (FP.dcmp x y) o = v) (pc' : Nat) (hp : pc + 1 = pc') (g : Go p e below P (T.setTop (mkF m pc' L (.int v :: st)))) : Go p e below P (T.setTop (mkF m pc L (.double y :: .double x :: st))) := by
  subst hp; exact Go.via (fun _ k => XS.dcmpS X.here hx rfl hd rfl hv k) g
theorem s_lcmp (X : Stand p l e R s m args below meth c T locs cells slots) (hx : p.tables.exec = Jvm.exec) {x y : Int64} (hd : decode c.code pc = .ok (.lcmp, 1)) (v : Int32) (hv : XT.cmpL x y = v) (pc' : Nat) (hp : pc + 1 = pc') (g : Go p e below P (T.setTop (mkF m pc' L (.int v :: st)))) : Go p e below P (T.setTop (mkF m pc L (.long y :: .long x :: st))) := by
  subst hp hv; exact Go.via (fun _ k => XT.lcmp X.here hx rfl hd rfl k) g
theorem s_dup (X : Stand p l e R s m args below meth c T locs cells slots) (hx : p.tables.exec = Jvm.exec) {x : Value} (hd : decode c.code pc = .ok (.dup, 1)) (hc : x.category = 1) (pc' : Nat) (hp : pc + 1 = pc') (g : Go p e below P (T.setTop (mkF m pc' L (x :: x :: st)))) : Go p e below P (T.setTop (mkF m pc L (x :: st))) := by
  subst hp; exact Go.via (fun _ k => XS.dup X.here hx rfl hd rfl hc k) g
theorem s_pop (X : Stand p l e R s m args below meth c T locs cells slots) (hx : p.tables.exec = Jvm.exec) {x : Value} (hd : decode c.code pc = .ok (.pop, 1)) (hc : x.category = 1) (pc' : Nat) (hp : pc + 1 = pc') (g : Go p e below P (T.setTop (mkF m pc' L (st)))) : Go p e below P (T.setTop (mkF m pc L (x :: st))) := by
  subst hp; exact Go.via (fun _ k => XT.pop X.here hx rfl hd rfl hc k) g
theorem s_dupX1 (X : Stand p l e R s m args below meth c T locs cells slots) (hx : p.tables.exec = Jvm.exec) {x y : Value} (hd : decode c.code pc = .ok (.dup_x1, 1)) (hc : x.category = 1) (hc' : y.category = 1) (pc' : Nat) (hp : pc + 1 = pc') (g : Go p e below P (T.setTop (mkF m pc' L (x :: y :: x :: st)))) : Go p e below P (T.setTop (mkF m pc L (x :: y :: st))) := by
  subst hp; exact Go.via (fun _ k => XT.dupX1 X.here hx rfl hd rfl hc hc' k) g
theorem s_dup2 (X : Stand p l e R s m args below meth c T locs cells slots) (hx : p.tables.exec = Jvm.exec) {x y : Value} (hd : decode c.code pc = .ok (.dup2, 1)) (hc : x.category = 1) (hc' : y.category = 1) (pc' : Nat) (hp : pc + 1 = pc') (g : Go p e below P (T.setTop (mkF m pc' L (x :: y :: x :: y :: st)))) : Go p e below P (T.setTop (mkF m pc L (x :: y :: st))) := by
  subst hp; exact Go.via (fun _ k => XT.dup2 X.here hx rfl hd rfl hc hc' k) g
theorem s_iinc (X : Stand p l e R s m args below meth c T locs cells slots) (hx : p.tables.exec = Jvm.exec) {k : Nat} {cst : Int} {x : Int32} (hd : decode c.code pc = .ok (.iinc k cst, 3)) (v : Int32) (hv : x + Int32.ofInt cst = v) (hl : L[k]? = some (.val (.int x))) (L' : Array Slot) (hl' : storeLocals L k (.int v) = some L') (pc' : Nat) (hp : pc + 3 = pc') (g : Go p e below P (T.setTop (mkF m pc' L' (st)))) : Go p e below P (T.setTop (mkF m pc L (st))) := by
  subst hp hv; exact Go.via (fun _ k => XS.iinc X.here hx rfl hd hl hl' k) g
theorem s_goto (X : Stand p l e R s m args below meth c T locs cells slots) (hx : p.tables.exec = Jvm.exec) {o : Int} (hd : decode c.code pc = .ok (.goto o, 3)) (pc' : Nat) (ho : 0 ≤ (pc : Int) + o) (hp : ((pc : Int) + o).toNat = pc') (g : Go p e below P (T.setTop (mkF m pc' L st))) : Go p e below P (T.setTop (mkF m pc L st)) := Go.via (fun _ k => XS.goto X.here hx rfl rfl hd ho hp k) g
theorem s_ifY (X : Stand p l e R s m args below meth c T locs cells slots) (hx : p.tables.exec = Jvm.exec) {cd : ClassFile.Cond} {o : Int} {x : Int32} (hd : decode c.code pc = .ok (.ifCond cd o, 3)) (hc : ifCond.holds cd x = true) (pc' : Nat) (ho : 0 ≤ (pc : Int) + o) (hp : ((pc : Int) + o).toNat = pc') (g : Go p e below P (T.setTop (mkF m pc' L st))) : Go p e below P (T.setTop (mkF m pc L (.int x :: st))) := Go.via (fun _ k => XS.ifYes X.here hx rfl rfl hd rfl hc ho hp k) g
theorem s_ifN (X : Stand p l e R s m args below meth c T locs cells slots) (hx : p.tables.exec = Jvm.exec) {cd : ClassFile.Cond} {o : Int} {x : Int32} (hd : decode c.code pc = .ok (.ifCond cd o, 3)) (hc : ifCond.holds cd x = false) (pc' : Nat) (hp : pc + 3 = pc') (g : Go p e below P (T.setTop (mkF m pc' L (st)))) : Go p e below P (T.setTop (mkF m pc L (.int x :: st))) := by
  subst hp; exact Go.via (fun _ k => XS.ifNo X.here hx rfl hd rfl hc k) g
theorem s_icmpY (X : Stand p l e R s m args below meth c T locs cells slots) (hx : p.tables.exec = Jvm.exec) {cd : ClassFile.Cond} {o : Int} {x y : Int32} (hd : decode c.code pc = .ok (.if_icmp cd o, 3)) (hc : if_icmp.holds cd x y = true) (pc' : Nat) (ho : 0 ≤ (pc : Int) + o) (hp : ((pc : Int) + o).toNat = pc') (g : Go p e below P (T.setTop (mkF m pc' L st))) : Go p e below P (T.setTop (mkF m pc L (.int y :: .int x :: st))) := Go.via (fun _ k => XS.icmpYes X.here hx rfl rfl hd rfl hc ho hp k) g
theorem s_icmpN (X : Stand p l e R s m args below meth c T locs cells slots) (hx : p.tables.exec = Jvm.exec) {cd : ClassFile.Cond} {o : Int} {x y : Int32} (hd : decode c.code pc = .ok (.if_icmp cd o, 3)) (hc : if_icmp.holds cd x y = false) (pc' : Nat) (hp : pc + 3 = pc') (g : Go p e below P (T.setTop (mkF m pc' L (st)))) : Go p e below P (T.setTop (mkF m pc L (.int y :: .int x :: st))) := by
  subst hp; exact Go.via (fun _ k => XS.icmpNo X.here hx rfl hd rfl hc k) g
theorem s_acmpY (X : Stand p l e R s m args below meth c T locs cells slots) (hx : p.tables.exec = Jvm.exec) {cd : ClassFile.ACond} {o : Int} {x y : Value} (hd : decode c.code pc = .ok (.if_acmp cd o, 3)) (h1 : x.isRef = true) (h2 : y.isRef = true) (hc : XT.acmp cd x y = true) (pc' : Nat) (ho : 0 ≤ (pc : Int) + o) (hp : ((pc : Int) + o).toNat = pc') (g : Go p e below P (T.setTop (mkF m pc' L st))) : Go p e below P (T.setTop (mkF m pc L (y :: x :: st))) := Go.via (fun _ k => XT.acmpYes X.here hx rfl rfl hd rfl h1 h2 hc ho hp k) g
theorem s_acmpN (X : Stand p l e R s m args below meth c T locs cells slots) (hx : p.tables.exec = Jvm.exec) {cd : ClassFile.ACond} {o : Int} {x y : Value} (hd : decode c.code pc = .ok (.if_acmp cd o, 3)) (h1 : x.isRef = true) (h2 : y.isRef = true) (hc : XT.acmp cd x y = false) (pc' : Nat) (hp : pc + 3 = pc') (g : Go p e below P (T.setTop (mkF m pc' L (st)))) : Go p e below P (T.setTop (mkF m pc L (y :: x :: st))) := by
  subst hp; exact Go.via (fun _ k => XT.acmpNo X.here hx rfl hd rfl h1 h2 hc k) g
theorem s_ifnullN (X : Stand p l e R s m args below meth c T locs cells slots) (hx : p.tables.exec = Jvm.exec) {o : Int} {b : Addr} (hd : decode c.code pc = .ok (.ifnull o, 3))  (pc' : Nat) (hp : pc + 3 = pc') (g : Go p e below P (T.setTop (mkF m pc' L (st)))) : Go p e below P (T.setTop (mkF m pc L (.ref b :: st))) := by
  subst hp; exact Go.via (fun _ k => XS.ifnullNo X.here hx rfl hd rfl k) g
theorem s_ifnullY (X : Stand p l e R s m args below meth c T locs cells slots) (hx : p.tables.exec = Jvm.exec) {o : Int} (hd : decode c.code pc = .ok (.ifnull o, 3)) (pc' : Nat) (ho : 0 ≤ (pc : Int) + o) (hp : ((pc : Int) + o).toNat = pc') (g : Go p e below P (T.setTop (mkF m pc' L st))) : Go p e below P (T.setTop (mkF m pc L (.null :: st))) := Go.via (fun _ k => XS.ifnullYes X.here hx rfl rfl hd rfl ho hp k) g
theorem s_ifnonnullN (X : Stand p l e R s m args below meth c T locs cells slots) (hx : p.tables.exec = Jvm.exec) {o : Int} (hd : decode c.code pc = .ok (.ifnonnull o, 3))  (pc' : Nat) (hp : pc + 3 = pc') (g : Go p e below P (T.setTop (mkF m pc' L (st)))) : Go p e below P (T.setTop (mkF m pc L (.null :: st))) := by
  subst hp; exact Go.via (fun _ k => XT.ifnonnullNo X.here hx rfl hd rfl k) g
theorem s_ifnonnullY (X : Stand p l e R s m args below meth c T locs cells slots) (hx : p.tables.exec = Jvm.exec) {o : Int} {b : Addr} (hd : decode c.code pc = .ok (.ifnonnull o, 3)) (pc' : Nat) (ho : 0 ≤ (pc : Int) + o) (hp : ((pc : Int) + o).toNat = pc') (g : Go p e below P (T.setTop (mkF m pc' L st))) : Go p e below P (T.setTop (mkF m pc L (.ref b :: st))) := Go.via (fun _ k => XT.ifnonnullYes X.here hx rfl rfl hd rfl ho hp k) g
section Cmp
variable {r : Option Ordering} {o : CmpOp}
theorem dd_ne_t (h : r ≠ some .eq) : ifCond.holds .ne (cmpValue r o) = true := by rcases r with _ | (_ | _ | _) <;> cases o <;> first | rfl | exact absurd rfl h
theorem dd_ne_f (h : r = some .eq) : ifCond.holds .ne (cmpValue r o) = false := by subst h; cases o <;> rfl
theorem dd_eq_t (h : r = some .eq) : ifCond.holds .eq (cmpValue r o) = true := by subst h; cases o <;> rfl
theorem dd_eq_f (h : r ≠ some .eq) : ifCond.holds .eq (cmpValue r o) = false := by rcases r with _ | (_ | _ | _) <;> cases o <;> first | rfl | exact absurd rfl h
theorem dd_ge_t (h : r ≠ some .lt) : ifCond.holds .ge (cmpValue r .g) = true := by rcases r with _ | (_ | _ | _) <;> first | rfl | exact absurd rfl h
theorem dd_ge_f (h : r = some .lt) : ifCond.holds .ge (cmpValue r .g) = false := by subst h; rfl
theorem dd_le_t (h : r ≠ some .gt) : ifCond.holds .le (cmpValue r .l) = true := by rcases r with _ | (_ | _ | _) <;> first | rfl | exact absurd rfl h
theorem dd_le_f (h : r = some .gt) : ifCond.holds .le (cmpValue r .l) = false := by subst h; rfl
theorem dd_gt_f (h : r = some .lt ∨ r = some .eq) : ifCond.holds .gt (cmpValue r .g) = false := by rcases h with h | h <;> (subst h; rfl)
theorem dd_lt_f (h : r = some .gt ∨ r = some .eq) : ifCond.holds .lt (cmpValue r .l) = false := by rcases h with h | h <;> (subst h; rfl)
theorem dd_lt_t (h : r = some .lt) : ifCond.holds .lt (cmpValue r o) = true := by subst h; cases o <;> rfl
end Cmp
end Steps1
/-! ## arrays, by the list of what they hold -/
section Arrays
variable {p : Program} {l : Launch} {e : Env} {R : Room} {s : State} {m : MethodId} {args : Array Value} {below : List Frame} {meth : Method} {c : Code} {T : State} {locs : List Loc} {cells slots : Nat} {P : Outcome → State → Prop} {pc : Nat} {L : Array Slot} {st : List Value} {Z : State} {h h' : Heap} {a b : Addr} {a0 : Array Value} {k : ClassId} {ty : FieldType} {vs : List Value} {v : Value} {sl : Nat} {ws : List Addr}
/-- at a lies an array of components ty, of the class numbered k, that holds vs -/
def AR (Z : State) (h : Heap) (a : Addr) (k : ClassId) (ty : FieldType) (vs : List Value) : Prop := ∃ c : Cell, Arr Z h a c ty ∧ c.cls = k ∧ c.slots = vs.toArray
theorem AR.lt (F : AR Z h a k ty vs) : a < h.size := by obtain ⟨c, A, -⟩ := F; exact A.lt
theorem AR.ext (F : AR Z h a k ty vs) (E : Ext h h') : AR Z h' a k ty vs := by obtain ⟨c, A, r⟩ := F; exact ⟨c, A.ext E, r⟩
theorem AR.other (F : AR Z h b k ty vs) (W : Wr h h' a sl v) (q : b ≠ a) : AR Z h' b k ty vs := by obtain ⟨c, A, r⟩ := F; exact ⟨c, A.other W q, r⟩
theorem AR.keep (F : AR Z h a k ty vs) (K : Keep h h' ws) (q : a ∉ ws) : AR Z h' a k ty vs := by obtain ⟨c, A, r⟩ := F; exact ⟨c, ⟨K.2.1 a c A.1 q, A.2⟩, r⟩
theorem AR.same (F : AR Z h a k ty vs) (W : Wr h h' a sl v) : AR Z h' a k ty (vs.set sl v) := by
  obtain ⟨c, A, r1, r2⟩ := F
  exact ⟨c.setSlot sl v, A.same W, r1, by simp [Cell.setSlot, r2]⟩
theorem ar_len {c : Cell} (r : c.slots = vs.toArray) : c.slots.size = vs.length := by rw [r]; simp
theorem ar_in {c : Cell} (r : c.slots = vs.toArray) {j : Int32} {i : Nat} (hj : ¬ j < 0 ∧ j.toNatClampNeg = i) (hv : vs[i]? = some v) : ¬ (j < 0 ∨ c.slots.size ≤ j.toNatClampNeg) ∧ c.slots[j.toNatClampNeg]? = some v := by
  obtain ⟨h1, rfl⟩ := hj
  have h2 : j.toNatClampNeg < vs.length := (List.getElem?_eq_some_iff.mp hv).1
  refine ⟨?_, by rw [r]; simpa using hv⟩
  rintro (q | q)
  · exact h1 q
  · rw [ar_len r] at q; omega
theorem s_len (X : Stand p l e R s m args below meth c T locs cells slots) (hx : p.tables.exec = Jvm.exec) (hZ : Z.Warmed39 s.vm) (eT : T.heap = h) (F : AR Z h a k ty vs) (hd : decode c.code pc = .ok (.arraylength, 1)) (n : Int32) (hn : vs.length.toInt32 = n) (pc' : Nat) (hp : pc + 1 = pc') (g : Go p e below P (T.setTop (mkF m pc' L (.int n :: st)))) : Go p e below P (T.setTop (mkF m pc L (.ref a :: st))) := by
  obtain ⟨cl, A, r1, r2⟩ := F
  subst hp hn
  rw [← ar_len r2] at g
  exact Go.via (fun _ k => X.arraylength hx (by rw [eT]; exact A.1) (State.isArrayOf_alike hZ.alike A.2.1) (g := mkF m pc L (.ref a :: st)) rfl rfl hd _ k) g
theorem s_iaload (X : Stand p l e R s m args below meth c T locs cells slots) (hx : p.tables.exec = Jvm.exec) (hZ : Z.Warmed39 s.vm) (eT : T.heap = h) (F : AR Z h a k .int vs) (hd : decode c.code pc = .ok (.iaload, 1)) {j : Int32} (i : Nat) (hj : ¬ j < 0 ∧ j.toNatClampNeg = i) (v : Value) (hv : vs[i]? = some v) (pc' : Nat) (hp : pc + 1 = pc') (g : Go p e below P (T.setTop (mkF m pc' L (v :: st)))) : Go p e below P (T.setTop (mkF m pc L (.int j :: .ref a :: st))) := by
  obtain ⟨cl, A, r1, r2⟩ := F
  obtain ⟨q1, q2⟩ := ar_in r2 hj hv
  subst hp
  exact Go.via (fun _ k => X.iaload hx (by rw [eT]; exact A.1) (State.isArrayOf_alike hZ.alike A.2.1) A.2.2 q1 q2 (g := mkF m pc L (.int j :: .ref a :: st)) rfl rfl hd _ k) g
theorem s_laload (X : Stand p l e R s m args below meth c T locs cells slots) (hx : p.tables.exec = Jvm.exec) (hZ : Z.Warmed39 s.vm) (eT : T.heap = h) (F : AR Z h a k .long vs) (hd : decode c.code pc = .ok (.laload, 1)) {j : Int32} (i : Nat) (hj : ¬ j < 0 ∧ j.toNatClampNeg = i) (v : Value) (hv : vs[i]? = some v) (pc' : Nat) (hp : pc + 1 = pc') (g : Go p e below P (T.setTop (mkF m pc' L (v :: st)))) : Go p e below P (T.setTop (mkF m pc L (.int j :: .ref a :: st))) := by
  obtain ⟨cl, A, r1, r2⟩ := F
  obtain ⟨q1, q2⟩ := ar_in r2 hj hv
  subst hp
  exact Go.via (fun _ k => X.laload hx (by rw [eT]; exact A.1) (State.isArrayOf_alike hZ.alike A.2.1) A.2.2 q1 q2 (g := mkF m pc L (.int j :: .ref a :: st)) rfl rfl hd _ k) g
theorem s_daload (X : Stand p l e R s m args below meth c T locs cells slots) (hx : p.tables.exec = Jvm.exec) (hZ : Z.Warmed39 s.vm) (eT : T.heap = h) (F : AR Z h a k .double vs) (hd : decode c.code pc = .ok (.daload, 1)) {j : Int32} (i : Nat) (hj : ¬ j < 0 ∧ j.toNatClampNeg = i) (v : Value) (hv : vs[i]? = some v) (pc' : Nat) (hp : pc + 1 = pc') (g : Go p e below P (T.setTop (mkF m pc' L (v :: st)))) : Go p e below P (T.setTop (mkF m pc L (.int j :: .ref a :: st))) := by
  obtain ⟨cl, A, r1, r2⟩ := F
  obtain ⟨q1, q2⟩ := ar_in r2 hj hv
  subst hp
  exact Go.via (fun _ k => X.daload hx (by rw [eT]; exact A.1) (State.isArrayOf_alike hZ.alike A.2.1) A.2.2 q1 q2 (g := mkF m pc L (.int j :: .ref a :: st)) rfl rfl hd _ k) g
theorem s_aaload (X : Stand p l e R s m args below meth c T locs cells slots) (hx : p.tables.exec = Jvm.exec) (hZ : Z.Warmed39 s.vm) (eT : T.heap = h) (F : AR Z h a k ty vs) (ht : ty.isReference = true) (hd : decode c.code pc = .ok (.aaload, 1)) {j : Int32} (i : Nat) (hj : ¬ j < 0 ∧ j.toNatClampNeg = i) (v : Value) (hv : vs[i]? = some v) (pc' : Nat) (hp : pc + 1 = pc') (g : Go p e below P (T.setTop (mkF m pc' L (v :: st)))) : Go p e below P (T.setTop (mkF m pc L (.int j :: .ref a :: st))) := by
  obtain ⟨cl, A, r1, r2⟩ := F
  obtain ⟨q1, q2⟩ := ar_in r2 hj hv
  subst hp
  exact Go.via (fun _ k => X.aaload hx (by rw [eT]; exact A.1) (State.isArrayOf_alike hZ.alike A.2.1) ht A.2.2 q1 q2 (g := mkF m pc L (.int j :: .ref a :: st)) rfl rfl hd _ k) g
theorem s_iastore (X : Stand p l e R s m args below meth c T locs cells slots) (hx : p.tables.exec = Jvm.exec) (hZ : Z.Warmed39 s.vm) (eT : T.heap = h) (F : AR Z h a k .int vs) (hd : decode c.code pc = .ok (.iastore, 1)) (L : Array Slot) (st : List Value) {j : Int32} (i : Nat) (hj : ¬ j < 0 ∧ j.toNatClampNeg = i) (hi : i < vs.length) (x : Int32) (vs' : List Value) (hvs : vs.set i (.int x) = vs') (pc' : Nat) (hp : pc + 1 = pc') :
    ∃ T' h', Stand p l e R s m args below meth c T' (locs ++ [⟨a, i⟩]) cells slots ∧ T'.heap = h' ∧ Wr h h' a i (.int x) ∧ AR Z h' a k .int vs' ∧ ∀ t, Steps p.tables e below (T'.setTop (mkF m pc' L st)) t → Steps p.tables e below (T.setTop (mkF m pc L (.int x :: .int j :: .ref a :: st))) t := by
  obtain ⟨cl, A, r1, r2⟩ := F
  obtain ⟨q1, -⟩ := ar_in r2 hj (List.getElem?_eq_getElem hi)
  obtain ⟨hj1, rfl⟩ := hj
  subst hp hvs
  obtain ⟨T', h', X', e', W, st'⟩ := stI X hx hZ eT A q1 (g := mkF m pc L (.int x :: .int j :: .ref a :: st)) rfl rfl hd
  exact ⟨T', h', X', e', W, AR.same ⟨cl, A, r1, r2⟩ W, st'⟩
theorem s_lastore (X : Stand p l e R s m args below meth c T locs cells slots) (hx : p.tables.exec = Jvm.exec) (hZ : Z.Warmed39 s.vm) (eT : T.heap = h) (F : AR Z h a k .long vs) (hd : decode c.code pc = .ok (.lastore, 1)) (L : Array Slot) (st : List Value) {j : Int32} (i : Nat) (hj : ¬ j < 0 ∧ j.toNatClampNeg = i) (hi : i < vs.length) (x : Int64) (vs' : List Value) (hvs : vs.set i (.long x) = vs') (pc' : Nat) (hp : pc + 1 = pc') :
    ∃ T' h', Stand p l e R s m args below meth c T' (locs ++ [⟨a, i⟩]) cells slots ∧ T'.heap = h' ∧ Wr h h' a i (.long x) ∧ AR Z h' a k .long vs' ∧ ∀ t, Steps p.tables e below (T'.setTop (mkF m pc' L st)) t → Steps p.tables e below (T.setTop (mkF m pc L (.long x :: .int j :: .ref a :: st))) t := by
  obtain ⟨cl, A, r1, r2⟩ := F
  obtain ⟨q1, -⟩ := ar_in r2 hj (List.getElem?_eq_getElem hi)
  obtain ⟨hj1, rfl⟩ := hj
  subst hp hvs
  obtain ⟨T', h', X', e', W, st'⟩ := stJ X hx hZ eT A q1 (g := mkF m pc L (.long x :: .int j :: .ref a :: st)) rfl rfl hd
  exact ⟨T', h', X', e', W, AR.same ⟨cl, A, r1, r2⟩ W, st'⟩
theorem s_dastore (X : Stand p l e R s m args below meth c T locs cells slots) (hx : p.tables.exec = Jvm.exec) (hZ : Z.Warmed39 s.vm) (eT : T.heap = h) (F : AR Z h a k .double vs) (hd : decode c.code pc = .ok (.dastore, 1)) (L : Array Slot) (st : List Value) {j : Int32} (i : Nat) (hj : ¬ j < 0 ∧ j.toNatClampNeg = i) (hi : i < vs.length) (x : UInt64) (vs' : List Value) (hvs : vs.set i (.double x) = vs') (pc' : Nat) (hp : pc + 1 = pc') :
    ∃ T' h', Stand p l e R s m args below meth c T' (locs ++ [⟨a, i⟩]) cells slots ∧ T'.heap = h' ∧ Wr h h' a i (.double x) ∧ AR Z h' a k .double vs' ∧ ∀ t, Steps p.tables e below (T'.setTop (mkF m pc' L st)) t → Steps p.tables e below (T.setTop (mkF m pc L (.double x :: .int j :: .ref a :: st))) t := by
  obtain ⟨cl, A, r1, r2⟩ := F
  obtain ⟨q1, -⟩ := ar_in r2 hj (List.getElem?_eq_getElem hi)
  obtain ⟨hj1, rfl⟩ := hj
  subst hp hvs
  obtain ⟨T', h', X', e', W, st'⟩ := stD X hx hZ eT A q1 (g := mkF m pc L (.double x :: .int j :: .ref a :: st)) rfl rfl hd
  exact ⟨T', h', X', e', W, AR.same ⟨cl, A, r1, r2⟩ W, st'⟩
theorem s_aastore (X : Stand p l e R s m args below meth c T locs cells slots) (hx : p.tables.exec = Jvm.exec) (hZ : Z.Warmed39 s.vm) (eT : T.heap = h) (F : AR Z h a k ty vs) (ht : ty.isReference = true) (hd : decode c.code pc = .ok (.aastore, 1)) (L : Array Slot) (st : List Value) {j : Int32} (i : Nat) (hj : ¬ j < 0 ∧ j.toNatClampNeg = i) (hi : i < vs.length) (x : Value) (S : Sto Z h a x) (vs' : List Value) (hvs : vs.set i x = vs') (pc' : Nat) (hp : pc + 1 = pc') :
    ∃ T' h', Stand p l e R s m args below meth c T' (locs ++ [⟨a, i⟩]) cells slots ∧ T'.heap = h' ∧ Wr h h' a i x ∧ AR Z h' a k ty vs' ∧ ∀ t, Steps p.tables e below (T'.setTop (mkF m pc' L st)) t → Steps p.tables e below (T.setTop (mkF m pc L (x :: .int j :: .ref a :: st))) t := by
  obtain ⟨cl, A, r1, r2⟩ := F
  obtain ⟨q1, -⟩ := ar_in r2 hj (List.getElem?_eq_getElem hi)
  obtain ⟨hj1, rfl⟩ := hj
  subst hp hvs
  obtain ⟨T', h', X', e', W, st'⟩ := stR X hx hZ eT A q1 ht S (g := mkF m pc L (x :: .int j :: .ref a :: st)) rfl rfl hd
  exact ⟨T', h', X', e', W, AR.same ⟨cl, A, r1, r2⟩ W, st'⟩
theorem s_newarray (X : Stand p l e R s m args below meth c T locs cells slots) (hx : p.tables.exec = Jvm.exec) (hZ : Z.Warmed39 s.vm) {aty : ArrayType} (w : (Cond.arrayClass (newarray.typeOf aty)).before a0 Z = true) (eT : T.heap = h) (hd : decode c.code pc = .ok (.newarray aty, 2)) (L : Array Slot) (st : List Value) {n : Int32} (cap : Nat) (hn : ¬ n < 0 ∧ n.toNatClampNeg = cap) (vs : List Value) (hvs : List.replicate cap (defaultValue (newarray.typeOf aty)) = vs) (hb : cap * 8 ≤ 536870912) (hc : cells + 1 ≤ R.cells) (hl : slots + cap ≤ R.slots) (pc' : Nat) (hp : pc + 2 = pc') :
    ∃ T' h' cA, Stand p l e R s m args below meth c T' locs (cells + 1) (slots + cap) ∧ T'.heap = h' ∧ Ext h h' ∧ AR Z h' h.size cA (newarray.typeOf aty) vs ∧ ∀ t, Steps p.tables e below (T'.setTop (mkF m pc' L (.ref h.size :: st))) t → Steps p.tables e below (T.setTop (mkF m pc L (.int n :: st))) t := by
  obtain ⟨n1, n2⟩ := hn
  obtain ⟨T', h', cA, X', e', E, A, st'⟩ := newP X hx hZ w eT (g := mkF m pc L (.int n :: st)) rfl hd rfl n1 (cap := cap) (Nat.le_of_eq n2) hb hc hl
  subst hp hvs
  exact ⟨T', h', cA, X', e', E, ⟨_, A, rfl, by simp [newA, n2]⟩, st'⟩
end Arrays
/-! ## calls by contract -/
section Calls
variable {p : Program} {l : Launch} {e : Env} {R : Room} {s : State} {m : MethodId} {args : Array Value} {below : List Frame} {meth : Method} {c : Code} {T : State} {locs : List Loc} {cells slots : Nat} {P : Outcome → State → Prop} {pc : Nat} {L : Array Slot} {st : List Value} {Z : State} {h h' : Heap} {a0 : Array Value} {own : String} {index : Nat} {y : MethodName} {bytes : ByteArray} {ml : Nat} {rm : Room} {as : Array Value} {Q : Option Value → Heap → List Loc → Prop}
theorem ct_back {ret : Option FieldType} {len W : Nat} (C : Ct l Z y bytes ml ret [] rm as h Q) (hZ : Z.Warmed39 s.vm) (wc : (Cond.code y bytes ml ret).before a0 Z = true) (wz : (Cond.initialized y.cls).before a0 Z = true) (hf : rm.frames + 1 ≤ R.frames) (hl : W + (ml + 11) + rm.locals ≤ R.locals) :
    Back l R p e below s args y len W (fun A a => a = as ∧ A.U.heap = h ∧ A.cells + rm.cells ≤ R.cells ∧ A.slots + rm.slots ≤ R.slots)
      (fun A _ v B => ∃ L, Q v B.U.heap L ∧ B.locs = A.locs ++ L ∧ B.cells = A.cells + rm.cells ∧ B.slots = A.slots + rm.slots) := backOf C hZ wc wz hf hl
theorem callStat {ret : Option FieldType} (X : Stand p l e R s m args below meth c T locs cells slots) (hx : p.tables.exec = Jvm.exec) (hZ : Z.Warmed39 s.vm) (hown : s.vm.findClass own = some m.cls) (w1 : (Cond.methodLink own index y).before a0 Z = true) (w2 : (Cond.static y).before a0 Z = true) (w3 : (Cond.initialized y.cls).before a0 Z = true) (w4 : (Cond.code y bytes ml ret).before a0 Z = true) (hy : y.cls ≠ "java/lang/invoke/MethodHandle" ∧ y.cls ≠ "java/lang/invoke/VarHandle") (C : Ct l Z y bytes ml ret [] rm as h Q) (eT : T.heap = h) (hd : decode c.code pc = .ok (.invokestatic index, 3)) (hml : L.size = c.maxLocals) (argsL rest : List Value) (hst : st = argsL.reverse ++ rest) (has : argsL.toArray = as) {ps : List FieldType} {r : Option FieldType} (hpd : parseMethodDescriptor y.desc = some ⟨ps, r⟩) (hln : argsL.length = ps.length) (W : Nat) (hW : 2 * 0 + (rest.map fun v => v.category).sum ≤ W) (hfr : rm.frames + 1 ≤ R.frames) (hlo : W + (ml + 11) + rm.locals ≤ R.locals) (hc : cells + rm.cells ≤ R.cells) (hs : slots + rm.slots ≤ R.slots) :
    ∃ v T' L', Stand p l e R s m args below meth c T' (locs ++ L') (cells + rm.cells) (slots + rm.slots) ∧ Q v T'.heap L' ∧ ∀ t, Steps p.tables e below (T'.setTop (mkF m (pc + 3) L (v.toList ++ rest))) t → Steps p.tables e below (T.setTop (mkF m pc L st)) t := by
  obtain ⟨v, _, ⟨T', L1, k1, n1⟩, -, X', ⟨L', hQ, l1, y1, z1⟩, st'⟩ := Jvm.LawKit.callS X hx (y := y) hown (mvT hZ w1) (mvT hZ w2) (mvT hZ w3) (mvT hZ w4) hy (ct_back (W := W) C hZ w4 w3 hfr hlo) (g := mkF m pc L st) rfl hml (argsL := argsL) (rest := rest) (lenOf hpd hln) hst hW hd (fun _ _ => ⟨has, eT, hc, hs⟩)
  dsimp only [Pt.U, Pt.locs, Pt.cells, Pt.slots] at X' l1 y1 z1 st' hQ
  subst l1 y1 z1
  exact ⟨v, T', L', X', hQ, st'⟩
theorem callInit (X : Stand p l e R s m args below meth c T locs cells slots) (hx : p.tables.exec = Jvm.exec) (hZ : Z.Warmed39 s.vm) (hown : s.vm.findClass own = some m.cls) (hin : y.name = "<init>") (w1 : (Cond.methodLink own index y).before a0 Z = true) (w2 : (Cond.instanceMethod y).before a0 Z = true) (w3 : (Cond.initialized y.cls).before a0 Z = true) (w4 : (Cond.code y bytes ml none).before a0 Z = true) (hy : y.cls ≠ "java/lang/invoke/MethodHandle" ∧ y.cls ≠ "java/lang/invoke/VarHandle") (C : Ct l Z y bytes ml none [] rm as h Q) (eT : T.heap = h) (hd : decode c.code pc = .ok (.invokespecial index, 3)) (hml : L.size = c.maxLocals) (a : Addr) (argsL rest : List Value) (hst : st = argsL.reverse ++ .ref a :: rest) (has : (.ref a :: argsL).toArray = as) {ps : List FieldType} {r : Option FieldType} (hpd : parseMethodDescriptor y.desc = some ⟨ps, r⟩) (hln : argsL.length = ps.length) (W : Nat) (hW : 2 * 0 + (rest.map fun v => v.category).sum ≤ W) (hfr : rm.frames + 1 ≤ R.frames) (hlo : W + (ml + 11) + rm.locals ≤ R.locals) (hc : cells + rm.cells ≤ R.cells) (hs : slots + rm.slots ≤ R.slots) :
    ∃ v T' L', Stand p l e R s m args below meth c T' (locs ++ L') (cells + rm.cells) (slots + rm.slots) ∧ Q v T'.heap L' ∧ ∀ t, Steps p.tables e below (T'.setTop (mkF m (pc + 3) L (v.toList ++ rest))) t → Steps p.tables e below (T.setTop (mkF m pc L st)) t := by
  obtain ⟨v, _, ⟨T', L1, k1, n1⟩, -, X', ⟨L', hQ, l1, y1, z1⟩, st'⟩ := X.specialBack hx (y := y) hin hown (mvT hZ w1) (mvT hZ w2) (mvT hZ w4) hy (ct_back (W := W) C hZ w4 w3 hfr hlo) (g := mkF m pc L st) rfl hml (Steps.refl _) (a := a) (argsL := argsL) (rest := rest) (lenOf hpd hln) hst hW hd (fun _ _ => ⟨has, eT, hc, hs⟩)
  dsimp only [Pt.U, Pt.locs, Pt.cells, Pt.slots] at X' l1 y1 z1 st' hQ
  subst l1 y1 z1
  exact ⟨v, T', L', X', hQ, fun t k => st'.trans k⟩
theorem callVirt {ret : Option FieldType} {C0 : String} (X : Stand p l e R s m args below meth c T locs cells slots) (hx : p.tables.exec = Jvm.exec) (hZ : Z.Warmed39 s.vm) (hown : s.vm.findClass own = some m.cls) (w1 : (Cond.methodLink own index y).before a0 Z = true) (w2 : (Cond.declares y).before a0 Z = true) (w3 : (Cond.selects C0 y y).before a0 Z = true) (w4 : (Cond.instanceMethod y).before a0 Z = true) (w5 : (Cond.initialized y.cls).before a0 Z = true) (w6 : (Cond.code y bytes ml ret).before a0 Z = true) (hy : y.cls ≠ "java/lang/invoke/MethodHandle" ∧ y.cls ≠ "java/lang/invoke/VarHandle") (C : Ct l Z y bytes ml ret [] rm as h Q) (eT : T.heap = h) (a : Addr) (E : Exa Z h a C0) (hd : decode c.code pc = .ok (.invokevirtual index, 3)) (hml : L.size = c.maxLocals) (argsL rest : List Value) (hst : st = argsL.reverse ++ .ref a :: rest) (has : (.ref a :: argsL).toArray = as) {ps : List FieldType} {r : Option FieldType} (hpd : parseMethodDescriptor y.desc = some ⟨ps, r⟩) (hln : argsL.length = ps.length) (W : Nat) (hW : 2 * 0 + (rest.map fun v => v.category).sum ≤ W) (hfr : rm.frames + 1 ≤ R.frames) (hlo : W + (ml + 11) + rm.locals ≤ R.locals) (hc : cells + rm.cells ≤ R.cells) (hs : slots + rm.slots ≤ R.slots) :
    ∃ v T' L', Stand p l e R s m args below meth c T' (locs ++ L') (cells + rm.cells) (slots + rm.slots) ∧ Q v T'.heap L' ∧ ∀ t, Steps p.tables e below (T'.setTop (mkF m (pc + 3) L (v.toList ++ rest))) t → Steps p.tables e below (T.setTop (mkF m pc L st)) t := by
  obtain ⟨cq, kq, qa, qb, qc⟩ := isOf hZ eT E
  obtain ⟨v, _, ⟨T', L1, k1, n1⟩, -, X', ⟨L', hQ, l1, y1, z1⟩, st'⟩ := X.virtualBack hx (y := y) (z := y) hown (mvT hZ w1) (mvT hZ w2) (notFace_of_selects (args := #[]) (mvT hZ w3)) (mvT hZ w3) (mvT hZ w4) hy (ct_back (W := W) C hZ w6 w5 hfr hlo) qa qc (g := mkF m pc L st) rfl hml (Steps.refl _) (argsL := argsL) (rest := rest) (lenOf hpd hln) hst hW hd (fun _ _ => ⟨has, eT, hc, hs⟩)
  dsimp only [Pt.U, Pt.locs, Pt.cells, Pt.slots] at X' l1 y1 z1 st' hQ
  subst l1 y1 z1
  exact ⟨v, T', L', X', hQ, fun t k => st'.trans k⟩
end Calls
end Jvm.OwnGo
namespace Jvm.OwnFP
open Jvm.FP Jvm.FP.Core Jvm.Free.Fl
/-- a * 2^x = b -/
def PE (a b : Nat) (x : Int) : Prop := a * 2 ^ x.toNat = b * 2 ^ (-x).toNat
theorem pe_iff {a b : Nat} {x : Int} (y z : Nat) (h : x = (y : Int) - z) : PE a b x ↔ a * 2 ^ y = b * 2 ^ z := by
  unfold PE
  obtain ⟨d, rfl, rfl⟩ : ∃ d, y = x.toNat + d ∧ z = (-x).toNat + d := ⟨min y z, by omega, by omega⟩
  have p1 : 0 < 2 ^ d := Nat.two_pow_pos _
  rw [Nat.pow_add, Nat.pow_add, ← Nat.mul_assoc, ← Nat.mul_assoc]
  exact ⟨fun q => by rw [q], fun q => Nat.eq_of_mul_eq_mul_right p1 q⟩
theorem PE.symm {a b : Nat} {x : Int} (h : PE a b x) : PE b a (-x) := by
  unfold PE at h ⊢; rw [Int.neg_neg]; exact h.symm
theorem PE.trans {a b c : Nat} {x y : Int} (h : PE a b x) (g : PE b c y) : PE a c (x + y) := by
  rw [pe_iff (x.toNat + y.toNat) ((-x).toNat + (-y).toNat) (by omega)]
  unfold PE at h g
  rw [Nat.pow_add, Nat.pow_add, ← Nat.mul_assoc, h, Nat.mul_right_comm, g, Nat.mul_assoc, Nat.mul_comm (2 ^ (-y).toNat)]
theorem PE.mul {a b : Nat} {x : Int} (h : PE a b x) (c : Nat) : PE (c * a) (c * b) x := by
  unfold PE at h ⊢; rw [Nat.mul_assoc, Nat.mul_assoc, h]
theorem PE.of {a b : Nat} {y z : Nat} (h : a * 2 ^ y = b * 2 ^ z) : PE a b ((y : Int) - z) := (pe_iff y z rfl).mpr h
theorem PE.cast {a b : Nat} {x y : Int} (h : PE a b x) (e : x = y) : PE a b y := e ▸ h
/-- the datum times 2^k -/
def sh (k : Int) : Datum → Datum
  | .fin s c q => .fin s c (q + k)
  | d => d
/-- the double a is i / 2^k, just so -/
def Dy (i : Int) (k : Nat) (a : UInt64) : Prop := Whole i (sh k (val64 a))
theorem Dy.fin {i : Int} {k : Nat} {a : UInt64} (h : Dy i k a) : ∃ s c q, val64 a = .fin s c q := by
  unfold Dy at h
  cases hv : val64 a with
  | nan => rw [hv] at h; exact h.elim
  | inf s => rw [hv] at h; exact h.elim
  | fin s c q => exact ⟨s, c, q, rfl⟩
theorem Dy.dfin {i : Int} {k : Nat} {a : UInt64} (h : Dy i k a) : DFin a := h.fin
theorem Dy.fin64 {i : Int} {k : Nat} {a : UInt64} (h : Dy i k a) : Fin64 a := fin64_core.mpr h.fin
theorem Dy.nn {i : Int} {k : Nat} {a : UInt64} (h : Dy i k a) : NoNaN64 a := h.fin64.noNaN
theorem Dy.ne {i : Int} {k : Nat} {a : UInt64} (h : Dy i k a) : val64 a ≠ .nan := h.dfin.ne_nan
theorem dy_int {i : Int} {a : UInt64} (h : DInt i a) : Dy i 0 a := by
  unfold DInt at h; unfold Dy
  cases hv : val64 a with
  | nan => rw [hv] at h; exact h.elim
  | inf s => rw [hv] at h; exact h.elim
  | fin s c q => rw [hv] at h; show Whole i (.fin s c (q + 0)); rw [Int.add_zero]; exact h
theorem Dy.int {i : Int} {a : UInt64} (h : Dy i 0 a) : DInt i a := by
  obtain ⟨s, c, q, hv⟩ := h.fin
  unfold Dy at h; unfold DInt
  rw [hv] at h ⊢
  have h : Whole i (.fin s c (q + 0)) := h
  rw [Int.add_zero] at h; exact h
theorem dy_i2d (x : Int32) : Dy x.toInt 0 (FP.i2d x) := dy_int (i2d_int x)
theorem dy_l2d {x : Int64} (h : x.toInt.natAbs ≤ 2 ^ 53) : Dy x.toInt 0 (FP.l2d x) := dy_int (l2d_int h)
theorem whole_pe {i : Int} {s : Bool} {c : Nat} {q : Int} (h : Whole i (.fin s c q)) : PE c i.natAbs q := whole_natAbs h
/-- what is so small a multiple of a power of two is a double -/
theorem dy_rnd {i : Int} {k : Nat} {s : Bool} {n : Nat} (hn : i.natAbs = n) (hs : i ≠ 0 → s = decide (i < 0)) (hi : n ≤ 2 ^ 53) (hk : k ≤ 1000) : Whole i (sh k (roundRatio b64 s n 1 (-(k : Int)))) := by
  by_cases h0 : n = 0
  · have : i = 0 := by omega
    subst this
    unfold roundRatio
    rw [if_pos h0]
    show signed s (0 * _) = 0 * _
    rw [Nat.zero_mul, Int.zero_mul]; exact signed_zero s
  · obtain ⟨c, q, hfit, hv⟩ := natFit good_b64 wide_b64 s (n := n) hi
    have hq : q = -1074 ∨ b64.tails ≤ c := by have := hfit.2.2.2; rw [qmin_b64] at this; exact this
    have hv' : n * 2 ^ (-q).toNat = c * 2 ^ q.toNat := by
      rw [show (0 - q).toNat = (-q).toNat by omega, show (q - 0).toNat = q.toNat by omega, Nat.mul_one] at hv; exact hv
    have hc : c < 2 ^ 53 := hfit.1
    have hq2 : q ≤ b64.qmax := hfit.2.2.1
    have hq1 : -53 ≤ q := by
      refine Int.le_of_not_gt fun hlt => ?_
      have e1 : q.toNat = 0 := by omega
      rw [e1, Nat.pow_zero, Nat.mul_one] at hv'
      have : 2 ^ 53 ≤ 2 ^ (-q).toNat := Nat.pow_le_pow_right (by decide) (by omega)
      have h2 : 1 * 2 ^ 53 ≤ n * 2 ^ (-q).toNat := Nat.mul_le_mul (by omega) this
      omega
    have hfit2 : Core.fits b64 (.fin s c (q - k)) := by
      refine ⟨hfit.1, ?_, by omega, Or.inr ?_⟩
      · rw [qmin_b64]; omega
      · rcases hq with hq | hq
        · omega
        · exact hq
    rw [roundRatio_exact good_b64 (by decide) hfit2 (by
      rw [show (-(k : Int) - (q - k)).toNat = (-q).toNat by omega, show (q - (k : Int) - -(k : Int)).toNat = q.toNat by omega, Nat.mul_one]; exact hv')]
    show Whole i (.fin s c (q - k + k))
    rw [show q - (k : Int) + k = q by omega]
    show signed s (c * 2 ^ q.toNat) = i * _
    rw [← hv', signed_mul, hs (by omega)]
    congr 1
    unfold signed
    by_cases h : i < 0 <;> simp [h] <;> omega
theorem dy_round {i : Int} {k : Nat} {s : Bool} {c : Nat} {q : Int} (h : Whole i (.fin s c (q + k))) (hi : i.natAbs ≤ 2 ^ 53) (hk : k ≤ 1000) : Whole i (sh k (round b64 (.fin s c q))) := by
  have e : round b64 (.fin s c q) = roundRatio b64 s i.natAbs 1 (-(k : Int)) := by
    refine roundRatio_congr (by decide) (by decide) ?_
    have := whole_natAbs h
    rw [show (q - -(k : Int)).toNat = (q + k).toNat by omega, show (-(k : Int) - q).toNat = (-(q + k)).toNat by omega]
    simpa using this
  rw [e]
  exact dy_rnd rfl (fun hz => whole_sign h hz) hi hk
theorem sh_sum (k : Int) (s : Bool) (c : Nat) (q : Int) (t : Bool) (d : Nat) (r : Int) : sh k (exactSum (.fin s c q) (.fin t d r)) = exactSum (.fin s c (q + k)) (.fin t d (r + k)) := by
  have e : min (q + k) (r + k) = min q r + k := by omega
  simp only [exactSum, sh, e, sumUnits, inUnits]
  rw [show q + k - (min q r + k) = q - min q r by omega, show r + k - (min q r + k) = r - min q r by omega]
theorem dy_add {i j : Int} {k : Nat} {a b : UInt64} (ha : Dy i k a) (hb : Dy j k b) (h : (i + j).natAbs ≤ 2 ^ 53) (hk : k ≤ 1000) : Dy (i + j) k (FP.dadd a b) := by
  obtain ⟨s, c, q, ea⟩ := ha.fin
  obtain ⟨t, d, r, eb⟩ := hb.fin
  unfold Dy at ha hb ⊢
  rw [ea] at ha; rw [eb] at hb
  have w : Whole (i + j) (sh k (exactSum (.fin s c q) (.fin t d r))) := by rw [sh_sum]; exact whole_sum ha hb
  rw [show FP.dadd a b = Core.dadd a b from rfl, val64_dadd, ea, eb]
  exact dy_round w h hk
theorem dy_neg {i : Int} {k : Nat} {a : UInt64} (ha : Dy i k a) : Dy (-i) k (FP.dneg a) := by
  obtain ⟨s, c, q, ea⟩ := ha.fin
  unfold Dy at ha ⊢
  rw [ea] at ha
  rw [FP.val64_dneg, ea]
  exact whole_negate ha
theorem dy_sub {i j : Int} {k : Nat} {a b : UInt64} (ha : Dy i k a) (hb : Dy j k b) (h : (i - j).natAbs ≤ 2 ^ 53) (hk : k ≤ 1000) : Dy (i - j) k (FP.dsub a b) := by
  obtain ⟨s, c, q, ea⟩ := ha.fin
  obtain ⟨t, d, r, eb⟩ := hb.fin
  unfold Dy at ha hb ⊢
  rw [ea] at ha; rw [eb] at hb
  have hb' : Whole (-j) (.fin (!t) d (r + k)) := whole_negate hb
  have w : Whole (i - j) (sh k (exactSum (.fin s c q) (.fin (!t) d r))) := by rw [sh_sum]; exact whole_sum ha hb'
  rw [show FP.dsub a b = Core.dsub a b from rfl, val64_dsub, ea, eb]
  exact dy_round w h hk
theorem dy_mul {i j : Int} {k n : Nat} {a b : UInt64} (ha : Dy i k a) (hb : Dy j n b) (h : (i * j).natAbs ≤ 2 ^ 53) (hk : k + n ≤ 1000) : Dy (i * j) (k + n) (FP.dmul a b) := by
  obtain ⟨s, c, q, ea⟩ := ha.fin
  obtain ⟨t, d, r, eb⟩ := hb.fin
  unfold Dy at ha hb ⊢
  rw [ea] at ha; rw [eb] at hb
  have w : Whole (i * j) (.fin (s != t) (c * d) (q + r + (k + n : Nat))) := by
    have := whole_product ha hb
    rw [show q + r + ((k + n : Nat) : Int) = q + k + (r + n) by omega]; exact this
  rw [show FP.dmul a b = Core.dmul a b from rfl, val64_dmul, ea, eb]
  exact dy_round w h hk
theorem dy_up {i : Int} {k : Nat} {a : UInt64} (n : Nat) (ha : Dy i k a) : Dy (i * (2 ^ n : Nat)) (k + n) a := by
  obtain ⟨s, c, q, ea⟩ := ha.fin
  unfold Dy at ha ⊢
  rw [ea] at ha ⊢
  have ha : signed s (c * 2 ^ (q + k).toNat) = i * ((2 ^ (-(q + k)).toNat : Nat) : Int) := ha
  show signed s (c * 2 ^ (q + (k + n : Nat)).toNat) = i * (2 ^ n : Nat) * ((2 ^ (-(q + (k + n : Nat))).toNat : Nat) : Int)
  have p2 : ((2 ^ (-(q + (k : Int))).toNat : Nat) : Int) ≠ 0 := by have := Nat.two_pow_pos (-(q + (k : Int))).toNat; omega
  have e1 : (q + ((k + n : Nat) : Int)).toNat + (-(q + (k : Int))).toNat = (q + (k : Int)).toNat + (n + (-(q + ((k + n : Nat) : Int))).toNat) := by omega
  rw [signed_mul] at ha ⊢
  refine Int.eq_of_mul_eq_mul_right p2 ?_
  rw [Int.mul_assoc, ← Int.natCast_mul, ← Nat.pow_add, e1, Nat.pow_add, Int.natCast_mul, ← Int.mul_assoc, ha, Nat.pow_add, Int.natCast_mul]
  ac_rfl
theorem dy_cmp {i j : Int} {k : Nat} {a b : UInt64} (ha : Dy i k a) (hb : Dy j k b) : FP.dcmp a b = some (compare i j) := by
  obtain ⟨s, c, q, ea⟩ := ha.fin
  obtain ⟨t, d, r, eb⟩ := hb.fin
  unfold Dy at ha hb
  rw [ea] at ha; rw [eb] at hb
  have w := order_whole ha hb
  show order (val64 a) (val64 b) = _
  rw [ea, eb, ← w]
  have e : min (q + k) (r + k) = min q r + k := by omega
  simp only [order, sh, e, inUnits]
  rw [show q + k - (min q r + k) = q - min q r by omega, show r + k - (min q r + k) = r - min q r by omega]
theorem dy_div {i j t : Int} {k n r : Nat} {a b : UInt64} (ha : Dy i k a) (hb : Dy j n b) (hj : j ≠ 0) (h : i * (2 ^ (n + r) : Nat) = t * j * (2 ^ k : Nat)) (ht : t.natAbs ≤ 2 ^ 53) (hr : r ≤ 1000) : Dy t r (FP.ddiv a b) := by
  obtain ⟨s, c, q, ea⟩ := ha.fin
  obtain ⟨u, d, z, eb⟩ := hb.fin
  unfold Dy at ha hb ⊢
  rw [ea] at ha; rw [eb] at hb
  have ha : Whole i (.fin s c (q + k)) := ha
  have hb : Whole j (.fin u d (z + n)) := hb
  have hd : d ≠ 0 := fun e => hj ((whole_zero hb).mp e)
  rw [show FP.ddiv a b = Core.ddiv a b from rfl, val64_ddiv, ea, eb]
  show Whole t (sh r (if d = 0 then _ else roundRatio b64 (s != u) c d (q - z)))
  rw [if_neg hd]
  have pn : (0 : Int) < ((2 ^ (n + r) : Nat) : Int) := by have := Nat.two_pow_pos (n + r); omega
  have pk : (0 : Int) < ((2 ^ k : Nat) : Int) := by have := Nat.two_pow_pos k; omega
  have hn : i.natAbs * 2 ^ (n + r) = t.natAbs * j.natAbs * 2 ^ k := by
    have := congrArg Int.natAbs h
    rw [Int.natAbs_mul, Int.natAbs_mul, Int.natAbs_mul, Int.natAbs_natCast, Int.natAbs_natCast] at this
    exact this
  have e : roundRatio b64 (s != u) c d (q - z) = roundRatio b64 (s != u) t.natAbs 1 (-(r : Int)) := by
    refine roundRatio_congr (by omega) (by decide) ?_
    have g := ((whole_pe ha).trans (PE.of hn)).trans ((whole_pe hb).symm.mul t.natAbs)
    have g' : PE c (t.natAbs * d) (q - z + r) := g.cast (by omega)
    unfold PE at g'
    rw [show (q - z - -(r : Int)).toNat = (q - z + r).toNat by omega, show (-(r : Int) - (q - z)).toNat = (-(q - z + r)).toNat by omega, Nat.mul_one]
    exact g'
  rw [e]
  refine dy_rnd rfl (fun hz => ?_) ht hr
  have hi : i ≠ 0 := by
    rintro rfl
    rw [Int.zero_mul] at h
    rcases Int.mul_eq_zero.mp h.symm with q | q
    · rcases Int.mul_eq_zero.mp q with q | q
      · exact hz q
      · exact hj q
    · omega
  rw [whole_sign ha hi, whole_sign hb hj]
  have g1 : i < 0 ↔ t * j < 0 := by
    constructor
    · intro q
      have : t * j * ((2 ^ k : Nat) : Int) < 0 := by rw [← h]; exact Int.mul_neg_of_neg_of_pos q pn
      exact Int.lt_of_not_ge fun q' => by have := Int.mul_nonneg q' (Int.le_of_lt pk); omega
    · intro q
      have : i * ((2 ^ (n + r) : Nat) : Int) < 0 := by rw [h]; exact Int.mul_neg_of_neg_of_pos q pk
      exact Int.lt_of_not_ge fun q' => by have := Int.mul_nonneg q' (Int.le_of_lt pn); omega
  rcases Int.lt_or_lt_of_ne hz with ht0 | ht0 <;> rcases Int.lt_or_lt_of_ne hj with hj0 | hj0
  · have q1 := Int.mul_pos_of_neg_of_neg ht0 hj0
    have q2 : ¬ i < 0 := by rw [g1]; omega
    simp [ht0, hj0, q2]
  · have q1 := Int.mul_neg_of_neg_of_pos ht0 hj0
    have q2 : i < 0 := by rw [g1]; exact q1
    have q3 : ¬ j < 0 := by omega
    simp [ht0, q2, q3]
  · have q1 := Int.mul_neg_of_pos_of_neg ht0 hj0
    have q2 : i < 0 := by rw [g1]; exact q1
    have q3 : ¬ t < 0 := by omega
    simp [hj0, q2, q3]
  · have q1 := Int.mul_pos ht0 hj0
    have q2 : ¬ i < 0 := by rw [g1]; omega
    have q3 : ¬ t < 0 := by omega
    have q4 : ¬ j < 0 := by omega
    simp [q2, q3, q4]
theorem dy_eq {i j : Int} {k : Nat} {a b : UInt64} (ha : Dy i k a) (hb : Dy j k b) (h : i = j) : FP.dcmp a b = some .eq := by
  rw [dy_cmp ha hb, h, compare_self_int]
theorem dy_lt {i j : Int} {k : Nat} {a b : UInt64} (ha : Dy i k a) (hb : Dy j k b) (h : i < j) : FP.dcmp a b = some .lt := by
  rw [dy_cmp ha hb, (compare_lt_iff i j).mpr h]
theorem dy_gt {i j : Int} {k : Nat} {a b : UInt64} (ha : Dy i k a) (hb : Dy j k b) (h : j < i) : FP.dcmp a b = some .gt := by
  rw [dy_cmp ha hb, (compare_gt_iff i j).mpr h]
theorem dy_cast {i j : Int} {k n : Nat} {a : UInt64} (h : Dy i k a) (e : i = j) (e' : k = n) : Dy j n a := by subst e e'; exact h
theorem dy_zero : Dy 0 0 (0 : UInt64) := by
  show Whole 0 (sh 0 (val64 0)); rw [val64_zero]
  show signed false (0 * _) = 0 * _
  rw [Nat.zero_mul, Int.zero_mul]; rfl
end Jvm.OwnFP
namespace Jvm.OwnFP
open Jvm.FP Jvm.FP.Core Jvm.Free.Fl
/-! ## numbers with a bound: an int, a long, a double that is i (over 2^k), i at most N -/
def Ib (N : Nat) (i : Int) (x : Int32) : Prop := x.toInt = i ∧ i.natAbs ≤ N
def Lb (N : Nat) (i : Int) (x : Int64) : Prop := x.toInt = i ∧ i.natAbs ≤ N
def Db (N : Nat) (i : Int) (k : Nat) (a : UInt64) : Prop := Dy i k a ∧ i.natAbs ≤ N
theorem Ib.lit (N : Nat) (i : Int) (x : Int32) (h : x.toInt = i ∧ i.natAbs ≤ N := by decide) : Ib N i x := h
theorem Lb.lit (N : Nat) (i : Int) (x : Int64) (h : x.toInt = i ∧ i.natAbs ≤ N := by decide) : Lb N i x := h
theorem Ib.any (x : Int32) : Ib (2 ^ 31) x.toInt x := ⟨rfl, by have := x.toInt_lt; have := x.le_toInt; omega⟩
theorem Ib.cast {N M : Nat} {i j : Int} {x : Int32} (h : Ib N i x) (e : i = j) (g : j.natAbs ≤ M) : Ib M j x := ⟨h.1.trans e, g⟩
theorem Lb.cast {N M : Nat} {i j : Int} {x : Int64} (h : Lb N i x) (e : i = j) (g : j.natAbs ≤ M) : Lb M j x := ⟨h.1.trans e, g⟩
theorem Db.cast {N M : Nat} {i j : Int} {k : Nat} {a : UInt64} (h : Db N i k a) (e : i = j) (g : j.natAbs ≤ M) : Db M j k a := by subst e; exact ⟨h.1, g⟩
theorem bn_add {a b : Int} {N M : Nat} (h1 : a.natAbs ≤ N) (h2 : b.natAbs ≤ M) : (a + b).natAbs ≤ N + M := by omega
theorem bn_sub {a b : Int} {N M : Nat} (h1 : a.natAbs ≤ N) (h2 : b.natAbs ≤ M) : (a - b).natAbs ≤ N + M := by omega
theorem bn_mul {a b : Int} {N M : Nat} (h1 : a.natAbs ≤ N) (h2 : b.natAbs ≤ M) : (a * b).natAbs ≤ N * M := by rw [Int.natAbs_mul]; exact Nat.mul_le_mul h1 h2
section
variable {N M : Nat} {i j : Int} {k n : Nat}
theorem Ib.add {x y : Int32} (h1 : Ib N i x) (h2 : Ib M j y) (h : N + M < 2147483648) : Ib (N + M) (i + j) (x + y) := by
  obtain ⟨rfl, b1⟩ := h1
  obtain ⟨rfl, b2⟩ := h2
  have b := bn_add b1 b2
  exact ⟨Jvm.Free.XT.add32 ⟨by omega, by omega⟩, b⟩
theorem Ib.sub {x y : Int32} (h1 : Ib N i x) (h2 : Ib M j y) (h : N + M < 2147483648) : Ib (N + M) (i - j) (x - y) := by
  obtain ⟨rfl, b1⟩ := h1
  obtain ⟨rfl, b2⟩ := h2
  have b := bn_sub b1 b2
  exact ⟨Jvm.Free.XT.sub32 ⟨by omega, by omega⟩, b⟩
theorem Ib.mul {x y : Int32} (h1 : Ib N i x) (h2 : Ib M j y) (h : N * M < 2147483648) : Ib (N * M) (i * j) (x * y) := by
  obtain ⟨rfl, b1⟩ := h1
  obtain ⟨rfl, b2⟩ := h2
  have b := bn_mul b1 b2
  exact ⟨Jvm.Free.XT.mul32 ⟨by omega, by omega⟩, b⟩
theorem Lb.add {x y : Int64} (h1 : Lb N i x) (h2 : Lb M j y) (h : N + M < 9223372036854775808) : Lb (N + M) (i + j) (x + y) := by
  obtain ⟨rfl, b1⟩ := h1
  obtain ⟨rfl, b2⟩ := h2
  have b := bn_add b1 b2
  exact ⟨Jvm.Free.XT.add64 ⟨by omega, by omega⟩, b⟩
theorem Lb.sub {x y : Int64} (h1 : Lb N i x) (h2 : Lb M j y) (h : N + M < 9223372036854775808) : Lb (N + M) (i - j) (x - y) := by
  obtain ⟨rfl, b1⟩ := h1
  obtain ⟨rfl, b2⟩ := h2
  have b := bn_sub b1 b2
  exact ⟨Jvm.Free.XT.sub64 ⟨by omega, by omega⟩, b⟩
theorem Lb.mul {x y : Int64} (h1 : Lb N i x) (h2 : Lb M j y) (h : N * M < 9223372036854775808) : Lb (N * M) (i * j) (x * y) := by
  obtain ⟨rfl, b1⟩ := h1
  obtain ⟨rfl, b2⟩ := h2
  have b := bn_mul b1 b2
  exact ⟨Jvm.Free.XT.mul64 ⟨by omega, by omega⟩, b⟩
theorem Lb.neg {x : Int64} (h1 : Lb N i x) (h : N < 9223372036854775808) : Lb N (-i) (-x) := by
  obtain ⟨rfl, h2⟩ := h1
  exact ⟨int64_neg (by omega), by omega⟩
theorem Ib.i2l {x : Int32} (h : Ib N i x) : Lb N i x.toInt64 := ⟨(Int32.toInt_toInt64 x).trans h.1, h.2⟩
theorem Lb.l2i {x : Int64} (h : Lb N i x) (hN : N < 2147483648) : Ib N i x.toInt32 := by
  obtain ⟨rfl, h2⟩ := h
  exact ⟨int64_toInt32 (by omega) (by omega), h2⟩
theorem Ib.i2d {x : Int32} (h : Ib N i x) : Db N i 0 (FP.i2d x) := by obtain ⟨rfl, h2⟩ := h; exact ⟨dy_i2d x, h2⟩
theorem Lb.l2d {x : Int64} (h : Lb N i x) (hN : N ≤ 9007199254740992) : Db N i 0 (FP.l2d x) := by obtain ⟨rfl, h2⟩ := h; exact ⟨dy_l2d (Nat.le_trans h2 hN), h2⟩
theorem Db.nn {a : UInt64} (h : Db N i k a) : NoNaN64 a := h.1.nn
theorem Db.add {a b : UInt64} (h1 : Db N i k a) (h2 : Db M j k b) (h : N + M ≤ 9007199254740992 ∧ k ≤ 1000) : Db (N + M) (i + j) k (FP.dadd a b) :=
  ⟨dy_add h1.1 h2.1 (Nat.le_trans (bn_add h1.2 h2.2) h.1) h.2, bn_add h1.2 h2.2⟩
theorem Db.sub {a b : UInt64} (h1 : Db N i k a) (h2 : Db M j k b) (h : N + M ≤ 9007199254740992 ∧ k ≤ 1000) : Db (N + M) (i - j) k (FP.dsub a b) :=
  ⟨dy_sub h1.1 h2.1 (Nat.le_trans (bn_sub h1.2 h2.2) h.1) h.2, bn_sub h1.2 h2.2⟩
theorem Db.mul {a b : UInt64} (h1 : Db N i k a) (h2 : Db M j n b) (h : N * M ≤ 9007199254740992 ∧ k + n ≤ 1000) : Db (N * M) (i * j) (k + n) (FP.dmul a b) :=
  ⟨dy_mul h1.1 h2.1 (Nat.le_trans (bn_mul h1.2 h2.2) h.1) h.2, bn_mul h1.2 h2.2⟩
theorem Db.neg {a : UInt64} (h1 : Db N i k a) : Db N (-i) k (FP.dneg a) := ⟨dy_neg h1.1, by have := h1.2; omega⟩
theorem Db.eq {a b : UInt64} (h1 : Db N i k a) (h2 : Db M j k b) (e : i = j) : FP.dcmp a b = some .eq := dy_eq h1.1 h2.1 e
theorem Db.up {a : UInt64} (h : Db N i k a) (n : Nat) : Db (N * 2 ^ n) (i * (2 ^ n : Nat)) (k + n) a := ⟨dy_up n h.1, by rw [Int.natAbs_mul, Int.natAbs_natCast]; exact Nat.mul_le_mul_right _ h.2⟩
theorem Db.zero : Db 0 0 0 (0 : UInt64) := ⟨dy_zero, Nat.le_refl _⟩
theorem Db.div2 {a b : UInt64} (e : Nat) (h1 : Db N i k a) (h2 : Db M ((2 ^ e : Nat) : Int) 0 b) (h : N ≤ 9007199254740992 ∧ k + e ≤ 1000) : Db N i (k + e) (FP.ddiv a b) := by
  refine ⟨dy_div h1.1 h2.1 (by have := Nat.two_pow_pos e; omega) ?_ (Nat.le_trans h1.2 h.1) h.2, h1.2⟩
  rw [Nat.zero_add, Nat.pow_add, Int.natCast_mul, Int.mul_assoc, Int.mul_comm ((2 ^ k : Nat) : Int)]
theorem Db.lit {a : UInt64} (s : Bool) (c : Nat) (q : Int) (N : Nat) (i : Int) (k : Nat) (e : val64 a = .fin s c q) (w : signed s (c * 2 ^ (q + k).toNat) = i * ((2 ^ (-(q + (k : Int))).toNat : Nat) : Int) ∧ i.natAbs ≤ N) : Db N i k a := by
  refine ⟨?_, w.2⟩
  unfold Dy; rw [e]; exact w.1
theorem Ib.re {x : Int32} (h : Ib N i x) : Ib N x.toInt x := ⟨rfl, by rw [h.1]; exact h.2⟩
theorem Lb.re {x : Int64} (h : Lb N i x) : Lb N x.toInt x := ⟨rfl, by rw [h.1]; exact h.2⟩
theorem Db.weak {M : Nat} {a : UInt64} (h : Db N i k a) (q : N ≤ M) : Db M i k a := ⟨h.1, Nat.le_trans h.2 q⟩
theorem Lb.weak {M : Nat} {a : Int64} (h : Lb N i a) (q : N ≤ M) : Lb M i a := ⟨h.1, Nat.le_trans h.2 q⟩
theorem Ib.weak {M : Nat} {a : Int32} (h : Ib N i a) (q : N ≤ M) : Ib M i a := ⟨h.1, Nat.le_trans h.2 q⟩
end
end Jvm.OwnFP

namespace Jvm.OwnPlain
open Jvm.OwnFP
theorem own_i2s (x : Int32) : Ib 32768 x.toInt16.toInt32.toInt x.toInt16.toInt32 := ⟨rfl, by have := Jvm.RoadKit.c_i2s x; omega⟩
theorem own_sh (x : Int32) : Ib 32768 (x >>> ((16 : Int32) &&& 31)).toInt (x >>> ((16 : Int32) &&& 31)) := ⟨rfl, by
  have h := Jvm.RoadKit.c_ishr x 16 16 (by decide); have := x.toInt_lt; have := x.le_toInt; omega⟩
theorem own_rem (x : Int32) : Ib 128 (x % (128 : Int32)).toInt (x % (128 : Int32)) := ⟨rfl, by
  have h := Jvm.RoadKit.c_irem x 128 128 rfl; have := h.1; have := h.2; omega⟩
end Jvm.OwnPlain
namespace Jvm.Pilot.@@N@@
open Jvm Jvm.ClassFile Sem Op Lib Jvm.Free Jvm.Stand Jvm.LawKit Jvm.RoadKit Bundle Jvm.Pilot.@@N@@.Jvm.D Jvm.OwnGo
theorem wd {a0 : Array Value} {Z : State} (hw : ∀ d ∈ tables_1, d.before a0 Z = true) (k : Nat) (d : Jvm.Cond) (hd : tables_1[k]? = some d) : d.before a0 Z = true := hw _ (List.mem_of_getElem? hd)
theorem pn_law : plainFor x = true := plainFor_of_name (by show plainName "com/example/entalpi/entalpi/fluids/DerivativesStiffnessPinLaw" = true; first | (simp [plainName, overriddenIn]; done) | decide +kernel)
open Jvm.OwnPlain Jvm.OwnFP
theorem d0_0 : decode prog_7_method_1_code 0 = .ok (.aload_n 0, 1) := by decide +kernel
theorem d0_1 : decode prog_7_method_1_code 1 = .ok (.invokespecial 1, 3) := by decide +kernel
theorem d0_4 : decode prog_7_method_1_code 4 = .ok (.return_, 1) := by decide +kernel
theorem pd_0 : parseMethodDescriptor "()V" = some ⟨[], none⟩ := by decide +kernel
theorem pn_0 : plainFor (⟨"com/example/entalpi/entalpi/fluids/Derivatives", "<init>", "()V"⟩ : MethodName) = true := plainFor_of_name (by show plainName "com/example/entalpi/entalpi/fluids/Derivatives" = true; first | (simp [plainName, overriddenIn]; done) | decide +kernel)
set_option maxRecDepth 65536 in
set_option maxHeartbeats 40000000 in
theorem rm_init (l : Launch) (Z : State) (a0 : Array Value) (hw : ∀ d ∈ tables_1, d.before a0 Z = true) (ws : List Jvm.Cond) (a1 : Addr) (h0 : Heap) (n0 : Nat) (Z0 : n0 ≤ h0.size)  :
    Ct l Z (⟨"com/example/entalpi/entalpi/fluids/Derivatives", "<init>", "()V"⟩ : MethodName) prog_7_method_1_code 1 none ws ({ frames := 1, cells := 0, slots := 0, locals := 12 } : Room) #[.ref a1] h0 (fun v h L => v = none ∧ Fr n0 L ∧ h = h0) := by
  refine Ct.intro pn_0 #[.val (.ref a1)] (fun _ => by first | (simp [entryFrame, mkF, argsToLocals, Value.category, maxLocals]; done) | rfl) ?_
  intro p e s m below meth c T0 X0 hx hZ hby hml hown hnm hret hlk e0
  have N0 := Fr.nil n0
  refine s_aloadN X0 hx (hb hby d0_0) rfl rfl 1 rfl ?_
  obtain ⟨T1, X1, e1, st1⟩ := initO X0 hx hZ hown (wd hw 6 _ rfl) (wd hw 7 _ rfl) (wd hw 8 _ rfl) e0 (g := (mkF m 1 #[.val (.ref a1)] [.ref a1])) rfl (by rw [hml]; rfl) rfl (hb hby d0_1) (by decide) (W := 0) (by show 2 * 0 + _ ≤ _; exact Nat.le_of_eq rfl) (by decide)
  refine Go.via st1 ?_
  show Go p e below _ (T1.setTop (mkF m 4 #[.val (.ref a1)] []))
  exact retV X1 hx hlk hret (hb hby d0_4) e1 ⟨rfl, N0, rfl⟩ (by decide) (by decide)
theorem d2_0 : decode prog_7_method_4_code 0 = .ok (.dconst 1, 1) := by decide +kernel
theorem d2_1 : decode prog_7_method_4_code 1 = .ok (.ldc2_w 31, 3) := by decide +kernel
theorem d2_4 : decode prog_7_method_4_code 4 = .ok (.aload_n 0, 1) := by decide +kernel
theorem d2_5 : decode prog_7_method_4_code 5 = .ok (.getfield 19, 3) := by decide +kernel
theorem d2_8 : decode prog_7_method_4_code 8 = .ok (.dmul, 1) := by decide +kernel
theorem d2_9 : decode prog_7_method_4_code 9 = .ok (.dadd, 1) := by decide +kernel
theorem d2_10 : decode prog_7_method_4_code 10 = .ok (.aload_n 0, 1) := by decide +kernel
theorem d2_11 : decode prog_7_method_4_code 11 = .ok (.getfield 22, 3) := by decide +kernel
theorem d2_14 : decode prog_7_method_4_code 14 = .ok (.dadd, 1) := by decide +kernel
theorem d2_15 : decode prog_7_method_4_code 15 = .ok (.dreturn, 1) := by decide +kernel
theorem pd_2 : parseMethodDescriptor "()D" = some ⟨[], some .double⟩ := by decide +kernel
theorem pn_2 : plainFor (⟨"com/example/entalpi/entalpi/fluids/Derivatives", "stiffness", "()D"⟩ : MethodName) = true := plainFor_of_name (by show plainName "com/example/entalpi/entalpi/fluids/Derivatives" = true; first | (simp [plainName, overriddenIn]; done) | decide +kernel)
theorem dc_4607182418800017408 : Jvm.OwnFP.Db 1 (1) 0 (4607182418800017408 : UInt64) := Jvm.OwnFP.Db.lit false 4503599627370496 (-52) 1 (1) 0 (by decide +kernel) (by decide +kernel)
theorem dc_4611686018427387904 : Jvm.OwnFP.Db 2 (2) 0 (4611686018427387904 : UInt64) := Jvm.OwnFP.Db.lit false 4503599627370496 (-51) 2 (2) 0 (by decide +kernel) (by decide +kernel)
set_option maxRecDepth 65536 in
set_option maxHeartbeats 40000000 in
theorem rm_stiff (l : Launch) (Z : State) (a0 : Array Value) (hw : ∀ d ∈ tables_1, d.before a0 Z = true) (ws : List Jvm.Cond) (a1 : Addr) (f4 f5 : UInt64) (A4 A5 : Int) (h0 : Heap) (n0 : Nat) (Z0 : n0 ≤ h0.size) (F_4 : Fld Z h0 a1 "com/example/entalpi/entalpi/fluids/Derivatives" "deltaResidualDelta" "D" (.double f4)) (F_5 : Fld Z h0 a1 "com/example/entalpi/entalpi/fluids/Derivatives" "deltaDeltaResidualDeltaDelta" "D" (.double f5)) (H_4 : Db 562949953421312 A4 0 f4) (H_5 : Db 562949953421312 A5 0 f5) :
    Ct l Z (⟨"com/example/entalpi/entalpi/fluids/Derivatives", "stiffness", "()D"⟩ : MethodName) prog_7_method_4_code 1 (some .double) ws ({ frames := 0, cells := 0, slots := 0, locals := 0 } : Room) #[.ref a1] h0 (fun v h L => ∃ r, v = some (.double r) ∧ Fr n0 L ∧ h = h0 ∧ Db 9007199254740992 (1 + 2 * A4 + A5) 0 r) := by
  refine Ct.intro pn_2 #[.val (.ref a1)] (fun _ => by first | (simp [entryFrame, mkF, argsToLocals, Value.category, maxLocals]; done) | rfl) ?_
  intro p e s m below meth c T0 X0 hx hZ hby hml hown hnm hret hlk e0
  have N0 := Fr.nil n0
  refine s_dconst1 X0 hx (hb hby d2_0) (4607182418800017408 : UInt64) rfl 1 rfl ?_
  refine s_ldc2D X0 hx (hb hby d2_1) hZ hown (wd hw 14 _ rfl) 4 rfl ?_
  refine s_aloadN X0 hx (hb hby d2_4) rfl rfl 5 rfl ?_
  obtain ⟨T2, X2, e2, st2⟩ := getF X0 hx hZ hown (host := "") (Or.inl (wd hw 15 _ rfl)) Via.refl e0 F_4 (g := (mkF m 5 #[.val (.ref a1)] [.ref a1, .double (4611686018427387904 : UInt64), .double (4607182418800017408 : UInt64)])) rfl rfl (hb hby d2_5)
  refine Go.via st2 ?_
  show Go p e below _ (T2.setTop (mkF m 8 #[.val (.ref a1)] [.double f4, .double (4611686018427387904 : UInt64), .double (4607182418800017408 : UInt64)]))
  have Dd3 := Db.mul dc_4611686018427387904 H_4 (by decide)
  obtain ⟨d3, h_d3⟩ : ∃ v, FP.dmul (4611686018427387904 : UInt64) f4 = v := ⟨_, rfl⟩
  rw [h_d3] at Dd3
  refine s_dmul X2 hx (hb hby d2_8) d3 h_d3 Dd3.nn 9 rfl ?_
  have Dd4 := Db.add dc_4607182418800017408 Dd3 (by decide)
  obtain ⟨d4, h_d4⟩ : ∃ v, FP.dadd (4607182418800017408 : UInt64) d3 = v := ⟨_, rfl⟩
  rw [h_d4] at Dd4
  refine s_dadd X2 hx (hb hby d2_9) d4 h_d4 Dd4.nn 10 rfl ?_
  refine s_aloadN X2 hx (hb hby d2_10) rfl rfl 11 rfl ?_
  obtain ⟨T5, X5, e5, st5⟩ := getF X2 hx hZ hown (host := "") (Or.inl (wd hw 17 _ rfl)) Via.refl e2 F_5 (g := (mkF m 11 #[.val (.ref a1)] [.ref a1, .double d4])) rfl rfl (hb hby d2_11)
  refine Go.via st5 ?_
  show Go p e below _ (T5.setTop (mkF m 14 #[.val (.ref a1)] [.double f5, .double d4]))
  have Dd6 := Db.add Dd4 H_5 (by decide)
  obtain ⟨d6, h_d6⟩ : ∃ v, FP.dadd d4 f5 = v := ⟨_, rfl⟩
  rw [h_d6] at Dd6
  refine s_dadd X5 hx (hb hby d2_14) d6 h_d6 Dd6.nn 15 rfl ?_
  exact retD X5 hx hlk hret (hb hby d2_15) e5 ⟨_, rfl, N0, rfl, Dd6.weak (by decide)⟩ (by decide) (by decide)
theorem d3_0 : decode prog_7_method_2_code 0 = .ok (.aload_n 0, 1) := by decide +kernel
theorem d3_1 : decode prog_7_method_2_code 1 = .ok (.dup, 1) := by decide +kernel
theorem d3_2 : decode prog_7_method_2_code 2 = .ok (.getfield 7, 3) := by decide +kernel
theorem d3_5 : decode prog_7_method_2_code 5 = .ok (.dload_n 1, 1) := by decide +kernel
theorem d3_6 : decode prog_7_method_2_code 6 = .ok (.dadd, 1) := by decide +kernel
theorem d3_7 : decode prog_7_method_2_code 7 = .ok (.putfield 7, 3) := by decide +kernel
theorem d3_10 : decode prog_7_method_2_code 10 = .ok (.aload_n 0, 1) := by decide +kernel
theorem d3_11 : decode prog_7_method_2_code 11 = .ok (.dup, 1) := by decide +kernel
theorem d3_12 : decode prog_7_method_2_code 12 = .ok (.getfield 13, 3) := by decide +kernel
theorem d3_15 : decode prog_7_method_2_code 15 = .ok (.dload 9, 2) := by decide +kernel
theorem d3_17 : decode prog_7_method_2_code 17 = .ok (.dload_n 1, 1) := by decide +kernel
theorem d3_18 : decode prog_7_method_2_code 18 = .ok (.dmul, 1) := by decide +kernel
theorem d3_19 : decode prog_7_method_2_code 19 = .ok (.dadd, 1) := by decide +kernel
theorem d3_20 : decode prog_7_method_2_code 20 = .ok (.putfield 13, 3) := by decide +kernel
theorem d3_23 : decode prog_7_method_2_code 23 = .ok (.aload_n 0, 1) := by decide +kernel
theorem d3_24 : decode prog_7_method_2_code 24 = .ok (.dup, 1) := by decide +kernel
theorem d3_25 : decode prog_7_method_2_code 25 = .ok (.getfield 16, 3) := by decide +kernel
theorem d3_28 : decode prog_7_method_2_code 28 = .ok (.dload 9, 2) := by decide +kernel
theorem d3_30 : decode prog_7_method_2_code 30 = .ok (.dload 9, 2) := by decide +kernel
theorem d3_32 : decode prog_7_method_2_code 32 = .ok (.dconst 1, 1) := by decide +kernel
theorem d3_33 : decode prog_7_method_2_code 33 = .ok (.dsub, 1) := by decide +kernel
theorem d3_34 : decode prog_7_method_2_code 34 = .ok (.dmul, 1) := by decide +kernel
theorem d3_35 : decode prog_7_method_2_code 35 = .ok (.dload 11, 2) := by decide +kernel
theorem d3_37 : decode prog_7_method_2_code 37 = .ok (.dadd, 1) := by decide +kernel
theorem d3_38 : decode prog_7_method_2_code 38 = .ok (.dload_n 1, 1) := by decide +kernel
theorem d3_39 : decode prog_7_method_2_code 39 = .ok (.dmul, 1) := by decide +kernel
theorem d3_40 : decode prog_7_method_2_code 40 = .ok (.dadd, 1) := by decide +kernel
theorem d3_41 : decode prog_7_method_2_code 41 = .ok (.putfield 16, 3) := by decide +kernel
theorem d3_44 : decode prog_7_method_2_code 44 = .ok (.aload_n 0, 1) := by decide +kernel
theorem d3_45 : decode prog_7_method_2_code 45 = .ok (.dup, 1) := by decide +kernel
theorem d3_46 : decode prog_7_method_2_code 46 = .ok (.getfield 19, 3) := by decide +kernel
theorem d3_49 : decode prog_7_method_2_code 49 = .ok (.dload_n 3, 1) := by decide +kernel
theorem d3_50 : decode prog_7_method_2_code 50 = .ok (.dload_n 1, 1) := by decide +kernel
theorem d3_51 : decode prog_7_method_2_code 51 = .ok (.dmul, 1) := by decide +kernel
theorem d3_52 : decode prog_7_method_2_code 52 = .ok (.dadd, 1) := by decide +kernel
theorem d3_53 : decode prog_7_method_2_code 53 = .ok (.putfield 19, 3) := by decide +kernel
theorem d3_56 : decode prog_7_method_2_code 56 = .ok (.aload_n 0, 1) := by decide +kernel
theorem d3_57 : decode prog_7_method_2_code 57 = .ok (.dup, 1) := by decide +kernel
theorem d3_58 : decode prog_7_method_2_code 58 = .ok (.getfield 22, 3) := by decide +kernel
theorem d3_61 : decode prog_7_method_2_code 61 = .ok (.dload_n 3, 1) := by decide +kernel
theorem d3_62 : decode prog_7_method_2_code 62 = .ok (.dload_n 3, 1) := by decide +kernel
theorem d3_63 : decode prog_7_method_2_code 63 = .ok (.dconst 1, 1) := by decide +kernel
theorem d3_64 : decode prog_7_method_2_code 64 = .ok (.dsub, 1) := by decide +kernel
theorem d3_65 : decode prog_7_method_2_code 65 = .ok (.dmul, 1) := by decide +kernel
theorem d3_66 : decode prog_7_method_2_code 66 = .ok (.dload 5, 2) := by decide +kernel
theorem d3_68 : decode prog_7_method_2_code 68 = .ok (.dadd, 1) := by decide +kernel
theorem d3_69 : decode prog_7_method_2_code 69 = .ok (.dload_n 1, 1) := by decide +kernel
theorem d3_70 : decode prog_7_method_2_code 70 = .ok (.dmul, 1) := by decide +kernel
theorem d3_71 : decode prog_7_method_2_code 71 = .ok (.dadd, 1) := by decide +kernel
theorem d3_72 : decode prog_7_method_2_code 72 = .ok (.putfield 22, 3) := by decide +kernel
theorem d3_75 : decode prog_7_method_2_code 75 = .ok (.aload_n 0, 1) := by decide +kernel
theorem d3_76 : decode prog_7_method_2_code 76 = .ok (.dup, 1) := by decide +kernel
theorem d3_77 : decode prog_7_method_2_code 77 = .ok (.getfield 25, 3) := by decide +kernel
theorem d3_80 : decode prog_7_method_2_code 80 = .ok (.dload 9, 2) := by decide +kernel
theorem d3_82 : decode prog_7_method_2_code 82 = .ok (.dload_n 3, 1) := by decide +kernel
theorem d3_83 : decode prog_7_method_2_code 83 = .ok (.dmul, 1) := by decide +kernel
theorem d3_84 : decode prog_7_method_2_code 84 = .ok (.dload_n 1, 1) := by decide +kernel
theorem d3_85 : decode prog_7_method_2_code 85 = .ok (.dmul, 1) := by decide +kernel
theorem d3_86 : decode prog_7_method_2_code 86 = .ok (.dadd, 1) := by decide +kernel
theorem d3_87 : decode prog_7_method_2_code 87 = .ok (.putfield 25, 3) := by decide +kernel
theorem d3_90 : decode prog_7_method_2_code 90 = .ok (.aload_n 0, 1) := by decide +kernel
theorem d3_91 : decode prog_7_method_2_code 91 = .ok (.dup, 1) := by decide +kernel
theorem d3_92 : decode prog_7_method_2_code 92 = .ok (.getfield 28, 3) := by decide +kernel
theorem d3_95 : decode prog_7_method_2_code 95 = .ok (.dload_n 3, 1) := by decide +kernel
theorem d3_96 : decode prog_7_method_2_code 96 = .ok (.dload_n 3, 1) := by decide +kernel
theorem d3_97 : decode prog_7_method_2_code 97 = .ok (.dconst 1, 1) := by decide +kernel
theorem d3_98 : decode prog_7_method_2_code 98 = .ok (.dsub, 1) := by decide +kernel
theorem d3_99 : decode prog_7_method_2_code 99 = .ok (.dmul, 1) := by decide +kernel
theorem d3_100 : decode prog_7_method_2_code 100 = .ok (.dload_n 3, 1) := by decide +kernel
theorem d3_101 : decode prog_7_method_2_code 101 = .ok (.ldc2_w 31, 3) := by decide +kernel
theorem d3_104 : decode prog_7_method_2_code 104 = .ok (.dsub, 1) := by decide +kernel
theorem d3_105 : decode prog_7_method_2_code 105 = .ok (.dmul, 1) := by decide +kernel
theorem d3_106 : decode prog_7_method_2_code 106 = .ok (.ldc2_w 33, 3) := by decide +kernel
theorem d3_109 : decode prog_7_method_2_code 109 = .ok (.dload_n 3, 1) := by decide +kernel
theorem d3_110 : decode prog_7_method_2_code 110 = .ok (.dconst 1, 1) := by decide +kernel
theorem d3_111 : decode prog_7_method_2_code 111 = .ok (.dsub, 1) := by decide +kernel
theorem d3_112 : decode prog_7_method_2_code 112 = .ok (.dmul, 1) := by decide +kernel
theorem d3_113 : decode prog_7_method_2_code 113 = .ok (.dload 5, 2) := by decide +kernel
theorem d3_115 : decode prog_7_method_2_code 115 = .ok (.dmul, 1) := by decide +kernel
theorem d3_116 : decode prog_7_method_2_code 116 = .ok (.dadd, 1) := by decide +kernel
theorem d3_117 : decode prog_7_method_2_code 117 = .ok (.dload 7, 2) := by decide +kernel
theorem d3_119 : decode prog_7_method_2_code 119 = .ok (.dadd, 1) := by decide +kernel
theorem d3_120 : decode prog_7_method_2_code 120 = .ok (.dload_n 1, 1) := by decide +kernel
theorem d3_121 : decode prog_7_method_2_code 121 = .ok (.dmul, 1) := by decide +kernel
theorem d3_122 : decode prog_7_method_2_code 122 = .ok (.dadd, 1) := by decide +kernel
theorem d3_123 : decode prog_7_method_2_code 123 = .ok (.putfield 28, 3) := by decide +kernel
theorem d3_126 : decode prog_7_method_2_code 126 = .ok (.return_, 1) := by decide +kernel
theorem pd_3 : parseMethodDescriptor "(DDDDDD)V" = some ⟨[.double, .double, .double, .double, .double, .double], none⟩ := by decide +kernel
theorem pn_3 : plainFor (⟨"com/example/entalpi/entalpi/fluids/Derivatives", "addSeparable", "(DDDDDD)V"⟩ : MethodName) = true := plainFor_of_name (by show plainName "com/example/entalpi/entalpi/fluids/Derivatives" = true; first | (simp [plainName, overriddenIn]; done) | decide +kernel)
theorem dc_4613937818241073152 : Jvm.OwnFP.Db 3 (3) 0 (4613937818241073152 : UInt64) := Jvm.OwnFP.Db.lit false 6755399441055744 (-51) 3 (3) 0 (by decide +kernel) (by decide +kernel)
set_option maxRecDepth 65536 in
set_option maxHeartbeats 40000000 in
theorem rm_add1 (l : Launch) (Z : State) (a0 : Array Value) (hw : ∀ d ∈ tables_1, d.before a0 Z = true) (ws : List Jvm.Cond) (a1 : Addr) (t k ks kc j js : UInt64) (T K KS KC J JS : Int) (f1 f2 f3 f4 f5 f6 f7 : UInt64) (A1 A2 A3 A4 A5 A6 A7 : Int) (h0 : Heap) (n0 : Nat) (Z0 : n0 ≤ h0.size) (E1 : Exa Z h0 a1 "com/example/entalpi/entalpi/fluids/Derivatives") (g1 : n0 ≤ a1) (F_1 : Fld Z h0 a1 "com/example/entalpi/entalpi/fluids/Derivatives" "alpha" "D" (.double f1)) (F_2 : Fld Z h0 a1 "com/example/entalpi/entalpi/fluids/Derivatives" "tauAlphaTau" "D" (.double f2)) (F_3 : Fld Z h0 a1 "com/example/entalpi/entalpi/fluids/Derivatives" "tauTauAlphaTauTau" "D" (.double f3)) (F_4 : Fld Z h0 a1 "com/example/entalpi/entalpi/fluids/Derivatives" "deltaResidualDelta" "D" (.double f4)) (F_5 : Fld Z h0 a1 "com/example/entalpi/entalpi/fluids/Derivatives" "deltaDeltaResidualDeltaDelta" "D" (.double f5)) (F_6 : Fld Z h0 a1 "com/example/entalpi/entalpi/fluids/Derivatives" "deltaTauResidualDeltaTau" "D" (.double f6)) (F_7 : Fld Z h0 a1 "com/example/entalpi/entalpi/fluids/Derivatives" "deltaDeltaDeltaResidualDeltaDeltaDelta" "D" (.double f7)) (H_1 : Db 0 A1 0 f1) (H_2 : Db 0 A2 0 f2) (H_3 : Db 0 A3 0 f3) (H_4 : Db 0 A4 0 f4) (H_5 : Db 0 A5 0 f5) (H_6 : Db 0 A6 0 f6) (H_7 : Db 0 A7 0 f7) (H_t : Db 32768 T 0 t) (H_k : Db 128 K 0 k) (H_ks : Db 32768 KS 0 ks) (H_kc : Db 2147483648 KC 0 kc) (H_j : Db 32768 J 0 j) (H_js : Db 2147483648 JS 0 js) :
    Ct l Z (⟨"com/example/entalpi/entalpi/fluids/Derivatives", "addSeparable", "(DDDDDD)V"⟩ : MethodName) prog_7_method_2_code 13 none ws ({ frames := 0, cells := 0, slots := 0, locals := 0 } : Room) #[.ref a1, .double t, .double k, .double ks, .double kc, .double j, .double js] h0 (fun v h L => v = none ∧ Fr n0 L ∧ Keep h0 h [a1] ∧ ∃ r1 r2 r3 r4 r5 r6 r7, (Fld Z h a1 "com/example/entalpi/entalpi/fluids/Derivatives" "alpha" "D" (.double r1) ∧ Db 281474976710656 (A1 + T) 0 r1) ∧ (Fld Z h a1 "com/example/entalpi/entalpi/fluids/Derivatives" "tauAlphaTau" "D" (.double r2) ∧ Db 281474976710656 (A2 + J * T) 0 r2) ∧ (Fld Z h a1 "com/example/entalpi/entalpi/fluids/Derivatives" "tauTauAlphaTauTau" "D" (.double r3) ∧ Db 281474976710656 (A3 + (J * (J - 1) + JS) * T) 0 r3) ∧ (Fld Z h a1 "com/example/entalpi/entalpi/fluids/Derivatives" "deltaResidualDelta" "D" (.double r4) ∧ Db 281474976710656 (A4 + K * T) 0 r4) ∧ (Fld Z h a1 "com/example/entalpi/entalpi/fluids/Derivatives" "deltaDeltaResidualDeltaDelta" "D" (.double r5) ∧ Db 281474976710656 (A5 + (K * (K - 1) + KS) * T) 0 r5) ∧ (Fld Z h a1 "com/example/entalpi/entalpi/fluids/Derivatives" "deltaTauResidualDeltaTau" "D" (.double r6) ∧ Db 281474976710656 (A6 + J * K * T) 0 r6) ∧ (Fld Z h a1 "com/example/entalpi/entalpi/fluids/Derivatives" "deltaDeltaDeltaResidualDeltaDeltaDelta" "D" (.double r7) ∧ Db 281474976710656 (A7 + (K * (K - 1) * (K - 2) + 3 * (K - 1) * KS + KC) * T) 0 r7)) := by
  refine Ct.intro pn_3 #[.val (.ref a1), .val (.double t), .second, .val (.double k), .second, .val (.double ks), .second, .val (.double kc), .second, .val (.double j), .second, .val (.double js), .second] (fun _ => by first | (simp [entryFrame, mkF, argsToLocals, Value.category, maxLocals]; done) | rfl) ?_
  intro p e s m below meth c T0 X0 hx hZ hby hml hown hnm hret hlk e0
  have N0 := Fr.nil n0
  have K0 := Keep.refl h0 [a1]
  refine s_aloadN X0 hx (hb hby d3_0) rfl rfl 1 rfl ?_
  refine s_dup X0 hx (hb hby d3_1) rfl 2 rfl ?_
  obtain ⟨T7, X7, e7, st7⟩ := getF X0 hx hZ hown (host := "") (Or.inl (wd hw 24 _ rfl)) Via.refl e0 F_1 (g := (mkF m 2 #[.val (.ref a1), .val (.double t), .second, .val (.double k), .second, .val (.double ks), .second, .val (.double kc), .second, .val (.double j), .second, .val (.double js), .second] [.ref a1, .ref a1])) rfl rfl (hb hby d3_2)
  refine Go.via st7 ?_
  show Go p e below _ (T7.setTop (mkF m 5 #[.val (.ref a1), .val (.double t), .second, .val (.double k), .second, .val (.double ks), .second, .val (.double kc), .second, .val (.double j), .second, .val (.double js), .second] [.double f1, .ref a1]))
  refine s_dloadN X7 hx (hb hby d3_5) rfl 6 rfl ?_
  have Dd8 := Db.add H_1 H_t (by decide)
  obtain ⟨d8, h_d8⟩ : ∃ v, FP.dadd f1 t = v := ⟨_, rfl⟩
  rw [h_d8] at Dd8
  refine s_dadd X7 hx (hb hby d3_6) d8 h_d8 Dd8.nn 7 rfl ?_
  obtain ⟨T9, h9, X9, e9, W9, st9⟩ := putF X7 hx hZ hown (host := "") (Or.inl (wd hw 24 _ rfl)) Via.refl e7 F_1 E1 (Or.inl (wd hw 25 _ rfl)) (wd hw 1 _ rfl) (ty := .double) (by decide) rfl rfl (g := (mkF m 7 #[.val (.ref a1), .val (.double t), .second, .val (.double k), .second, .val (.double ks), .second, .val (.double kc), .second, .val (.double j), .second, .val (.double js), .second] [.double d8, .ref a1])) rfl rfl (hb hby d3_7)
  have N9 := Fr.snoc X9 N0 g1
  have F10 := F_1.same W9
  have F11 := E1.wr W9
  have F12 := F_2.other W9 (Or.inr (slot_ne (a0 := a0) (t := .double) (t' := .double) (Or.inl (wd hw 27 _ rfl)) (Or.inl (wd hw 25 _ rfl)) (by decide) (by decide) (by decide)))
  have F13 := F_3.other W9 (Or.inr (slot_ne (a0 := a0) (t := .double) (t' := .double) (Or.inl (wd hw 29 _ rfl)) (Or.inl (wd hw 25 _ rfl)) (by decide) (by decide) (by decide)))
  have F14 := F_4.other W9 (Or.inr (slot_ne (a0 := a0) (t := .double) (t' := .double) (Or.inl (wd hw 16 _ rfl)) (Or.inl (wd hw 25 _ rfl)) (by decide) (by decide) (by decide)))
  have F15 := F_5.other W9 (Or.inr (slot_ne (a0 := a0) (t := .double) (t' := .double) (Or.inl (wd hw 18 _ rfl)) (Or.inl (wd hw 25 _ rfl)) (by decide) (by decide) (by decide)))
  have F16 := F_6.other W9 (Or.inr (slot_ne (a0 := a0) (t := .double) (t' := .double) (Or.inl (wd hw 31 _ rfl)) (Or.inl (wd hw 25 _ rfl)) (by decide) (by decide) (by decide)))
  have F17 := F_7.other W9 (Or.inr (slot_ne (a0 := a0) (t := .double) (t' := .double) (Or.inl (wd hw 33 _ rfl)) (Or.inl (wd hw 25 _ rfl)) (by decide) (by decide) (by decide)))
  have Z18 : n0 ≤ h9.size := by rw [W9.size]; exact Z0
  have K19 := K0.wr W9 (Or.inl (by simp))
  refine Go.via st9 ?_
  show Go p e below _ (T9.setTop (mkF m 10 #[.val (.ref a1), .val (.double t), .second, .val (.double k), .second, .val (.double ks), .second, .val (.double kc), .second, .val (.double j), .second, .val (.double js), .second] []))
  refine s_aloadN X9 hx (hb hby d3_10) rfl rfl 11 rfl ?_
  refine s_dup X9 hx (hb hby d3_11) rfl 12 rfl ?_
  obtain ⟨T20, X20, e20, st20⟩ := getF X9 hx hZ hown (host := "") (Or.inl (wd hw 26 _ rfl)) Via.refl e9 F12 (g := (mkF m 12 #[.val (.ref a1), .val (.double t), .second, .val (.double k), .second, .val (.double ks), .second, .val (.double kc), .second, .val (.double j), .second, .val (.double js), .second] [.ref a1, .ref a1])) rfl rfl (hb hby d3_12)
  refine Go.via st20 ?_
  show Go p e below _ (T20.setTop (mkF m 15 #[.val (.ref a1), .val (.double t), .second, .val (.double k), .second, .val (.double ks), .second, .val (.double kc), .second, .val (.double j), .second, .val (.double js), .second] [.double f2, .ref a1]))
  refine s_dload X20 hx (hb hby d3_15) rfl 17 rfl ?_
  refine s_dloadN X20 hx (hb hby d3_17) rfl 18 rfl ?_
  have Dd21 := Db.mul H_j H_t (by decide)
  obtain ⟨d21, h_d21⟩ : ∃ v, FP.dmul j t = v := ⟨_, rfl⟩
  rw [h_d21] at Dd21
  refine s_dmul X20 hx (hb hby d3_18) d21 h_d21 Dd21.nn 19 rfl ?_
  have Dd22 := Db.add H_2 Dd21 (by decide)
  obtain ⟨d22, h_d22⟩ : ∃ v, FP.dadd f2 d21 = v := ⟨_, rfl⟩
  rw [h_d22] at Dd22
  refine s_dadd X20 hx (hb hby d3_19) d22 h_d22 Dd22.nn 20 rfl ?_
  obtain ⟨T23, h23, X23, e23, W23, st23⟩ := putF X20 hx hZ hown (host := "") (Or.inl (wd hw 26 _ rfl)) Via.refl e20 F12 F11 (Or.inl (wd hw 27 _ rfl)) (wd hw 1 _ rfl) (ty := .double) (by decide) rfl rfl (g := (mkF m 20 #[.val (.ref a1), .val (.double t), .second, .val (.double k), .second, .val (.double ks), .second, .val (.double kc), .second, .val (.double j), .second, .val (.double js), .second] [.double d22, .ref a1])) rfl rfl (hb hby d3_20)
  have N23 := Fr.snoc X23 N9 g1
  have F24 := F12.same W23
  have F25 := F11.wr W23
  have F26 := F10.other W23 (Or.inr (slot_ne (a0 := a0) (t := .double) (t' := .double) (Or.inl (wd hw 25 _ rfl)) (Or.inl (wd hw 27 _ rfl)) (by decide) (by decide) (by decide)))
  have F27 := F13.other W23 (Or.inr (slot_ne (a0 := a0) (t := .double) (t' := .double) (Or.inl (wd hw 29 _ rfl)) (Or.inl (wd hw 27 _ rfl)) (by decide) (by decide) (by decide)))
  have F28 := F14.other W23 (Or.inr (slot_ne (a0 := a0) (t := .double) (t' := .double) (Or.inl (wd hw 16 _ rfl)) (Or.inl (wd hw 27 _ rfl)) (by decide) (by decide) (by decide)))
  have F29 := F15.other W23 (Or.inr (slot_ne (a0 := a0) (t := .double) (t' := .double) (Or.inl (wd hw 18 _ rfl)) (Or.inl (wd hw 27 _ rfl)) (by decide) (by decide) (by decide)))
  have F30 := F16.other W23 (Or.inr (slot_ne (a0 := a0) (t := .double) (t' := .double) (Or.inl (wd hw 31 _ rfl)) (Or.inl (wd hw 27 _ rfl)) (by decide) (by decide) (by decide)))
  have F31 := F17.other W23 (Or.inr (slot_ne (a0 := a0) (t := .double) (t' := .double) (Or.inl (wd hw 33 _ rfl)) (Or.inl (wd hw 27 _ rfl)) (by decide) (by decide) (by decide)))
  have Z32 : n0 ≤ h23.size := by rw [W23.size]; exact Z18
  have K33 := K19.wr W23 (Or.inl (by simp))
  refine Go.via st23 ?_
  show Go p e below _ (T23.setTop (mkF m 23 #[.val (.ref a1), .val (.double t), .second, .val (.double k), .second, .val (.double ks), .second, .val (.double kc), .second, .val (.double j), .second, .val (.double js), .second] []))
  refine s_aloadN X23 hx (hb hby d3_23) rfl rfl 24 rfl ?_
  refine s_dup X23 hx (hb hby d3_24) rfl 25 rfl ?_
  obtain ⟨T34, X34, e34, st34⟩ := getF X23 hx hZ hown (host := "") (Or.inl (wd hw 28 _ rfl)) Via.refl e23 F27 (g := (mkF m 25 #[.val (.ref a1), .val (.double t), .second, .val (.double k), .second, .val (.double ks), .second, .val (.double kc), .second, .val (.double j), .second, .val (.double js), .second] [.ref a1, .ref a1])) rfl rfl (hb hby d3_25)
  refine Go.via st34 ?_
  show Go p e below _ (T34.setTop (mkF m 28 #[.val (.ref a1), .val (.double t), .second, .val (.double k), .second, .val (.double ks), .second, .val (.double kc), .second, .val (.double j), .second, .val (.double js), .second] [.double f3, .ref a1]))
  refine s_dload X34 hx (hb hby d3_28) rfl 30 rfl ?_
  refine s_dload X34 hx (hb hby d3_30) rfl 32 rfl ?_
  refine s_dconst1 X34 hx (hb hby d3_32) (4607182418800017408 : UInt64) rfl 33 rfl ?_
  have Dd35 := Db.sub H_j dc_4607182418800017408 (by decide)
  obtain ⟨d35, h_d35⟩ : ∃ v, FP.dsub j (4607182418800017408 : UInt64) = v := ⟨_, rfl⟩
  rw [h_d35] at Dd35
  refine s_dsub X34 hx (hb hby d3_33) d35 h_d35 Dd35.nn 34 rfl ?_
  have Dd36 := Db.mul H_j Dd35 (by decide)
  obtain ⟨d36, h_d36⟩ : ∃ v, FP.dmul j d35 = v := ⟨_, rfl⟩
  rw [h_d36] at Dd36
  refine s_dmul X34 hx (hb hby d3_34) d36 h_d36 Dd36.nn 35 rfl ?_
  refine s_dload X34 hx (hb hby d3_35) rfl 37 rfl ?_
  have Dd37 := Db.add Dd36 H_js (by decide)
  obtain ⟨d37, h_d37⟩ : ∃ v, FP.dadd d36 js = v := ⟨_, rfl⟩
  rw [h_d37] at Dd37
  refine s_dadd X34 hx (hb hby d3_37) d37 h_d37 Dd37.nn 38 rfl ?_
  refine s_dloadN X34 hx (hb hby d3_38) rfl 39 rfl ?_
  have Dd38 := Db.mul Dd37 H_t (by decide)
  obtain ⟨d38, h_d38⟩ : ∃ v, FP.dmul d37 t = v := ⟨_, rfl⟩
  rw [h_d38] at Dd38
  refine s_dmul X34 hx (hb hby d3_39) d38 h_d38 Dd38.nn 40 rfl ?_
  have Dd39 := Db.add H_3 Dd38 (by decide)
  obtain ⟨d39, h_d39⟩ : ∃ v, FP.dadd f3 d38 = v := ⟨_, rfl⟩
  rw [h_d39] at Dd39
  refine s_dadd X34 hx (hb hby d3_40) d39 h_d39 Dd39.nn 41 rfl ?_
  obtain ⟨T40, h40, X40, e40, W40, st40⟩ := putF X34 hx hZ hown (host := "") (Or.inl (wd hw 28 _ rfl)) Via.refl e34 F27 F25 (Or.inl (wd hw 29 _ rfl)) (wd hw 1 _ rfl) (ty := .double) (by decide) rfl rfl (g := (mkF m 41 #[.val (.ref a1), .val (.double t), .second, .val (.double k), .second, .val (.double ks), .second, .val (.double kc), .second, .val (.double j), .second, .val (.double js), .second] [.double d39, .ref a1])) rfl rfl (hb hby d3_41)
  have N40 := Fr.snoc X40 N23 g1
  have F41 := F27.same W40
  have F42 := F25.wr W40
  have F43 := F26.other W40 (Or.inr (slot_ne (a0 := a0) (t := .double) (t' := .double) (Or.inl (wd hw 25 _ rfl)) (Or.inl (wd hw 29 _ rfl)) (by decide) (by decide) (by decide)))
  have F44 := F24.other W40 (Or.inr (slot_ne (a0 := a0) (t := .double) (t' := .double) (Or.inl (wd hw 27 _ rfl)) (Or.inl (wd hw 29 _ rfl)) (by decide) (by decide) (by decide)))
  have F45 := F28.other W40 (Or.inr (slot_ne (a0 := a0) (t := .double) (t' := .double) (Or.inl (wd hw 16 _ rfl)) (Or.inl (wd hw 29 _ rfl)) (by decide) (by decide) (by decide)))
  have F46 := F29.other W40 (Or.inr (slot_ne (a0 := a0) (t := .double) (t' := .double) (Or.inl (wd hw 18 _ rfl)) (Or.inl (wd hw 29 _ rfl)) (by decide) (by decide) (by decide)))
  have F47 := F30.other W40 (Or.inr (slot_ne (a0 := a0) (t := .double) (t' := .double) (Or.inl (wd hw 31 _ rfl)) (Or.inl (wd hw 29 _ rfl)) (by decide) (by decide) (by decide)))
  have F48 := F31.other W40 (Or.inr (slot_ne (a0 := a0) (t := .double) (t' := .double) (Or.inl (wd hw 33 _ rfl)) (Or.inl (wd hw 29 _ rfl)) (by decide) (by decide) (by decide)))
  have Z49 : n0 ≤ h40.size := by rw [W40.size]; exact Z32
  have K50 := K33.wr W40 (Or.inl (by simp))
  refine Go.via st40 ?_
  show Go p e below _ (T40.setTop (mkF m 44 #[.val (.ref a1), .val (.double t), .second, .val (.double k), .second, .val (.double ks), .second, .val (.double kc), .second, .val (.double j), .second, .val (.double js), .second] []))
  refine s_aloadN X40 hx (hb hby d3_44) rfl rfl 45 rfl ?_
  refine s_dup X40 hx (hb hby d3_45) rfl 46 rfl ?_
  obtain ⟨T51, X51, e51, st51⟩ := getF X40 hx hZ hown (host := "") (Or.inl (wd hw 15 _ rfl)) Via.refl e40 F45 (g := (mkF m 46 #[.val (.ref a1), .val (.double t), .second, .val (.double k), .second, .val (.double ks), .second, .val (.double kc), .second, .val (.double j), .second, .val (.double js), .second] [.ref a1, .ref a1])) rfl rfl (hb hby d3_46)
  refine Go.via st51 ?_
  show Go p e below _ (T51.setTop (mkF m 49 #[.val (.ref a1), .val (.double t), .second, .val (.double k), .second, .val (.double ks), .second, .val (.double kc), .second, .val (.double j), .second, .val (.double js), .second] [.double f4, .ref a1]))
  refine s_dloadN X51 hx (hb hby d3_49) rfl 50 rfl ?_
  refine s_dloadN X51 hx (hb hby d3_50) rfl 51 rfl ?_
  have Dd52 := Db.mul H_k H_t (by decide)
  obtain ⟨d52, h_d52⟩ : ∃ v, FP.dmul k t = v := ⟨_, rfl⟩
  rw [h_d52] at Dd52
  refine s_dmul X51 hx (hb hby d3_51) d52 h_d52 Dd52.nn 52 rfl ?_
  have Dd53 := Db.add H_4 Dd52 (by decide)
  obtain ⟨d53, h_d53⟩ : ∃ v, FP.dadd f4 d52 = v := ⟨_, rfl⟩
  rw [h_d53] at Dd53
  refine s_dadd X51 hx (hb hby d3_52) d53 h_d53 Dd53.nn 53 rfl ?_
  obtain ⟨T54, h54, X54, e54, W54, st54⟩ := putF X51 hx hZ hown (host := "") (Or.inl (wd hw 15 _ rfl)) Via.refl e51 F45 F42 (Or.inl (wd hw 16 _ rfl)) (wd hw 1 _ rfl) (ty := .double) (by decide) rfl rfl (g := (mkF m 53 #[.val (.ref a1), .val (.double t), .second, .val (.double k), .second, .val (.double ks), .second, .val (.double kc), .second, .val (.double j), .second, .val (.double js), .second] [.double d53, .ref a1])) rfl rfl (hb hby d3_53)
  have N54 := Fr.snoc X54 N40 g1
  have F55 := F45.same W54
  have F56 := F42.wr W54
  have F57 := F43.other W54 (Or.inr (slot_ne (a0 := a0) (t := .double) (t' := .double) (Or.inl (wd hw 25 _ rfl)) (Or.inl (wd hw 16 _ rfl)) (by decide) (by decide) (by decide)))
  have F58 := F44.other W54 (Or.inr (slot_ne (a0 := a0) (t := .double) (t' := .double) (Or.inl (wd hw 27 _ rfl)) (Or.inl (wd hw 16 _ rfl)) (by decide) (by decide) (by decide)))
  have F59 := F41.other W54 (Or.inr (slot_ne (a0 := a0) (t := .double) (t' := .double) (Or.inl (wd hw 29 _ rfl)) (Or.inl (wd hw 16 _ rfl)) (by decide) (by decide) (by decide)))
  have F60 := F46.other W54 (Or.inr (slot_ne (a0 := a0) (t := .double) (t' := .double) (Or.inl (wd hw 18 _ rfl)) (Or.inl (wd hw 16 _ rfl)) (by decide) (by decide) (by decide)))
  have F61 := F47.other W54 (Or.inr (slot_ne (a0 := a0) (t := .double) (t' := .double) (Or.inl (wd hw 31 _ rfl)) (Or.inl (wd hw 16 _ rfl)) (by decide) (by decide) (by decide)))
  have F62 := F48.other W54 (Or.inr (slot_ne (a0 := a0) (t := .double) (t' := .double) (Or.inl (wd hw 33 _ rfl)) (Or.inl (wd hw 16 _ rfl)) (by decide) (by decide) (by decide)))
  have Z63 : n0 ≤ h54.size := by rw [W54.size]; exact Z49
  have K64 := K50.wr W54 (Or.inl (by simp))
  refine Go.via st54 ?_
  show Go p e below _ (T54.setTop (mkF m 56 #[.val (.ref a1), .val (.double t), .second, .val (.double k), .second, .val (.double ks), .second, .val (.double kc), .second, .val (.double j), .second, .val (.double js), .second] []))
  refine s_aloadN X54 hx (hb hby d3_56) rfl rfl 57 rfl ?_
  refine s_dup X54 hx (hb hby d3_57) rfl 58 rfl ?_
  obtain ⟨T65, X65, e65, st65⟩ := getF X54 hx hZ hown (host := "") (Or.inl (wd hw 17 _ rfl)) Via.refl e54 F60 (g := (mkF m 58 #[.val (.ref a1), .val (.double t), .second, .val (.double k), .second, .val (.double ks), .second, .val (.double kc), .second, .val (.double j), .second, .val (.double js), .second] [.ref a1, .ref a1])) rfl rfl (hb hby d3_58)
  refine Go.via st65 ?_
  show Go p e below _ (T65.setTop (mkF m 61 #[.val (.ref a1), .val (.double t), .second, .val (.double k), .second, .val (.double ks), .second, .val (.double kc), .second, .val (.double j), .second, .val (.double js), .second] [.double f5, .ref a1]))
  refine s_dloadN X65 hx (hb hby d3_61) rfl 62 rfl ?_
  refine s_dloadN X65 hx (hb hby d3_62) rfl 63 rfl ?_
  refine s_dconst1 X65 hx (hb hby d3_63) (4607182418800017408 : UInt64) rfl 64 rfl ?_
  have Dd66 := Db.sub H_k dc_4607182418800017408 (by decide)
  obtain ⟨d66, h_d66⟩ : ∃ v, FP.dsub k (4607182418800017408 : UInt64) = v := ⟨_, rfl⟩
  rw [h_d66] at Dd66
  refine s_dsub X65 hx (hb hby d3_64) d66 h_d66 Dd66.nn 65 rfl ?_
  have Dd67 := Db.mul H_k Dd66 (by decide)
  obtain ⟨d67, h_d67⟩ : ∃ v, FP.dmul k d66 = v := ⟨_, rfl⟩
  rw [h_d67] at Dd67
  refine s_dmul X65 hx (hb hby d3_65) d67 h_d67 Dd67.nn 66 rfl ?_
  refine s_dload X65 hx (hb hby d3_66) rfl 68 rfl ?_
  have Dd68 := Db.add Dd67 H_ks (by decide)
  obtain ⟨d68, h_d68⟩ : ∃ v, FP.dadd d67 ks = v := ⟨_, rfl⟩
  rw [h_d68] at Dd68
  refine s_dadd X65 hx (hb hby d3_68) d68 h_d68 Dd68.nn 69 rfl ?_
  refine s_dloadN X65 hx (hb hby d3_69) rfl 70 rfl ?_
  have Dd69 := Db.mul Dd68 H_t (by decide)
  obtain ⟨d69, h_d69⟩ : ∃ v, FP.dmul d68 t = v := ⟨_, rfl⟩
  rw [h_d69] at Dd69
  refine s_dmul X65 hx (hb hby d3_70) d69 h_d69 Dd69.nn 71 rfl ?_
  have Dd70 := Db.add H_5 Dd69 (by decide)
  obtain ⟨d70, h_d70⟩ : ∃ v, FP.dadd f5 d69 = v := ⟨_, rfl⟩
  rw [h_d70] at Dd70
  refine s_dadd X65 hx (hb hby d3_71) d70 h_d70 Dd70.nn 72 rfl ?_
  obtain ⟨T71, h71, X71, e71, W71, st71⟩ := putF X65 hx hZ hown (host := "") (Or.inl (wd hw 17 _ rfl)) Via.refl e65 F60 F56 (Or.inl (wd hw 18 _ rfl)) (wd hw 1 _ rfl) (ty := .double) (by decide) rfl rfl (g := (mkF m 72 #[.val (.ref a1), .val (.double t), .second, .val (.double k), .second, .val (.double ks), .second, .val (.double kc), .second, .val (.double j), .second, .val (.double js), .second] [.double d70, .ref a1])) rfl rfl (hb hby d3_72)
  have N71 := Fr.snoc X71 N54 g1
  have F72 := F60.same W71
  have F73 := F56.wr W71
  have F74 := F57.other W71 (Or.inr (slot_ne (a0 := a0) (t := .double) (t' := .double) (Or.inl (wd hw 25 _ rfl)) (Or.inl (wd hw 18 _ rfl)) (by decide) (by decide) (by decide)))
  have F75 := F58.other W71 (Or.inr (slot_ne (a0 := a0) (t := .double) (t' := .double) (Or.inl (wd hw 27 _ rfl)) (Or.inl (wd hw 18 _ rfl)) (by decide) (by decide) (by decide)))
  have F76 := F59.other W71 (Or.inr (slot_ne (a0 := a0) (t := .double) (t' := .double) (Or.inl (wd hw 29 _ rfl)) (Or.inl (wd hw 18 _ rfl)) (by decide) (by decide) (by decide)))
  have F77 := F55.other W71 (Or.inr (slot_ne (a0 := a0) (t := .double) (t' := .double) (Or.inl (wd hw 16 _ rfl)) (Or.inl (wd hw 18 _ rfl)) (by decide) (by decide) (by decide)))
  have F78 := F61.other W71 (Or.inr (slot_ne (a0 := a0) (t := .double) (t' := .double) (Or.inl (wd hw 31 _ rfl)) (Or.inl (wd hw 18 _ rfl)) (by decide) (by decide) (by decide)))
  have F79 := F62.other W71 (Or.inr (slot_ne (a0 := a0) (t := .double) (t' := .double) (Or.inl (wd hw 33 _ rfl)) (Or.inl (wd hw 18 _ rfl)) (by decide) (by decide) (by decide)))
  have Z80 : n0 ≤ h71.size := by rw [W71.size]; exact Z63
  have K81 := K64.wr W71 (Or.inl (by simp))
  refine Go.via st71 ?_
  show Go p e below _ (T71.setTop (mkF m 75 #[.val (.ref a1), .val (.double t), .second, .val (.double k), .second, .val (.double ks), .second, .val (.double kc), .second, .val (.double j), .second, .val (.double js), .second] []))
  refine s_aloadN X71 hx (hb hby d3_75) rfl rfl 76 rfl ?_
  refine s_dup X71 hx (hb hby d3_76) rfl 77 rfl ?_
  obtain ⟨T82, X82, e82, st82⟩ := getF X71 hx hZ hown (host := "") (Or.inl (wd hw 30 _ rfl)) Via.refl e71 F78 (g := (mkF m 77 #[.val (.ref a1), .val (.double t), .second, .val (.double k), .second, .val (.double ks), .second, .val (.double kc), .second, .val (.double j), .second, .val (.double js), .second] [.ref a1, .ref a1])) rfl rfl (hb hby d3_77)
  refine Go.via st82 ?_
  show Go p e below _ (T82.setTop (mkF m 80 #[.val (.ref a1), .val (.double t), .second, .val (.double k), .second, .val (.double ks), .second, .val (.double kc), .second, .val (.double j), .second, .val (.double js), .second] [.double f6, .ref a1]))
  refine s_dload X82 hx (hb hby d3_80) rfl 82 rfl ?_
  refine s_dloadN X82 hx (hb hby d3_82) rfl 83 rfl ?_
  have Dd83 := Db.mul H_j H_k (by decide)
  obtain ⟨d83, h_d83⟩ : ∃ v, FP.dmul j k = v := ⟨_, rfl⟩
  rw [h_d83] at Dd83
  refine s_dmul X82 hx (hb hby d3_83) d83 h_d83 Dd83.nn 84 rfl ?_
  refine s_dloadN X82 hx (hb hby d3_84) rfl 85 rfl ?_
  have Dd84 := Db.mul Dd83 H_t (by decide)
  obtain ⟨d84, h_d84⟩ : ∃ v, FP.dmul d83 t = v := ⟨_, rfl⟩
  rw [h_d84] at Dd84
  refine s_dmul X82 hx (hb hby d3_85) d84 h_d84 Dd84.nn 86 rfl ?_
  have Dd85 := Db.add H_6 Dd84 (by decide)
  obtain ⟨d85, h_d85⟩ : ∃ v, FP.dadd f6 d84 = v := ⟨_, rfl⟩
  rw [h_d85] at Dd85
  refine s_dadd X82 hx (hb hby d3_86) d85 h_d85 Dd85.nn 87 rfl ?_
  obtain ⟨T86, h86, X86, e86, W86, st86⟩ := putF X82 hx hZ hown (host := "") (Or.inl (wd hw 30 _ rfl)) Via.refl e82 F78 F73 (Or.inl (wd hw 31 _ rfl)) (wd hw 1 _ rfl) (ty := .double) (by decide) rfl rfl (g := (mkF m 87 #[.val (.ref a1), .val (.double t), .second, .val (.double k), .second, .val (.double ks), .second, .val (.double kc), .second, .val (.double j), .second, .val (.double js), .second] [.double d85, .ref a1])) rfl rfl (hb hby d3_87)
  have N86 := Fr.snoc X86 N71 g1
  have F87 := F78.same W86
  have F88 := F73.wr W86
  have F89 := F74.other W86 (Or.inr (slot_ne (a0 := a0) (t := .double) (t' := .double) (Or.inl (wd hw 25 _ rfl)) (Or.inl (wd hw 31 _ rfl)) (by decide) (by decide) (by decide)))
  have F90 := F75.other W86 (Or.inr (slot_ne (a0 := a0) (t := .double) (t' := .double) (Or.inl (wd hw 27 _ rfl)) (Or.inl (wd hw 31 _ rfl)) (by decide) (by decide) (by decide)))
  have F91 := F76.other W86 (Or.inr (slot_ne (a0 := a0) (t := .double) (t' := .double) (Or.inl (wd hw 29 _ rfl)) (Or.inl (wd hw 31 _ rfl)) (by decide) (by decide) (by decide)))
  have F92 := F77.other W86 (Or.inr (slot_ne (a0 := a0) (t := .double) (t' := .double) (Or.inl (wd hw 16 _ rfl)) (Or.inl (wd hw 31 _ rfl)) (by decide) (by decide) (by decide)))
  have F93 := F72.other W86 (Or.inr (slot_ne (a0 := a0) (t := .double) (t' := .double) (Or.inl (wd hw 18 _ rfl)) (Or.inl (wd hw 31 _ rfl)) (by decide) (by decide) (by decide)))
  have F94 := F79.other W86 (Or.inr (slot_ne (a0 := a0) (t := .double) (t' := .double) (Or.inl (wd hw 33 _ rfl)) (Or.inl (wd hw 31 _ rfl)) (by decide) (by decide) (by decide)))
  have Z95 : n0 ≤ h86.size := by rw [W86.size]; exact Z80
  have K96 := K81.wr W86 (Or.inl (by simp))
  refine Go.via st86 ?_
  show Go p e below _ (T86.setTop (mkF m 90 #[.val (.ref a1), .val (.double t), .second, .val (.double k), .second, .val (.double ks), .second, .val (.double kc), .second, .val (.double j), .second, .val (.double js), .second] []))
  refine s_aloadN X86 hx (hb hby d3_90) rfl rfl 91 rfl ?_
  refine s_dup X86 hx (hb hby d3_91) rfl 92 rfl ?_
  obtain ⟨T97, X97, e97, st97⟩ := getF X86 hx hZ hown (host := "") (Or.inl (wd hw 32 _ rfl)) Via.refl e86 F94 (g := (mkF m 92 #[.val (.ref a1), .val (.double t), .second, .val (.double k), .second, .val (.double ks), .second, .val (.double kc), .second, .val (.double j), .second, .val (.double js), .second] [.ref a1, .ref a1])) rfl rfl (hb hby d3_92)
  refine Go.via st97 ?_
  show Go p e below _ (T97.setTop (mkF m 95 #[.val (.ref a1), .val (.double t), .second, .val (.double k), .second, .val (.double ks), .second, .val (.double kc), .second, .val (.double j), .second, .val (.double js), .second] [.double f7, .ref a1]))
  refine s_dloadN X97 hx (hb hby d3_95) rfl 96 rfl ?_
  refine s_dloadN X97 hx (hb hby d3_96) rfl 97 rfl ?_
  refine s_dconst1 X97 hx (hb hby d3_97) (4607182418800017408 : UInt64) rfl 98 rfl ?_
  have Dd98 := Db.sub H_k dc_4607182418800017408 (by decide)
  obtain ⟨d98, h_d98⟩ : ∃ v, FP.dsub k (4607182418800017408 : UInt64) = v := ⟨_, rfl⟩
  rw [h_d98] at Dd98
  refine s_dsub X97 hx (hb hby d3_98) d98 h_d98 Dd98.nn 99 rfl ?_
  have Dd99 := Db.mul H_k Dd98 (by decide)
  obtain ⟨d99, h_d99⟩ : ∃ v, FP.dmul k d98 = v := ⟨_, rfl⟩
  rw [h_d99] at Dd99
  refine s_dmul X97 hx (hb hby d3_99) d99 h_d99 Dd99.nn 100 rfl ?_
  refine s_dloadN X97 hx (hb hby d3_100) rfl 101 rfl ?_
  refine s_ldc2D X97 hx (hb hby d3_101) hZ hown (wd hw 14 _ rfl) 104 rfl ?_
  have Dd100 := Db.sub H_k dc_4611686018427387904 (by decide)
  obtain ⟨d100, h_d100⟩ : ∃ v, FP.dsub k (4611686018427387904 : UInt64) = v := ⟨_, rfl⟩
  rw [h_d100] at Dd100
  refine s_dsub X97 hx (hb hby d3_104) d100 h_d100 Dd100.nn 105 rfl ?_
  have Dd101 := Db.mul Dd99 Dd100 (by decide)
  obtain ⟨d101, h_d101⟩ : ∃ v, FP.dmul d99 d100 = v := ⟨_, rfl⟩
  rw [h_d101] at Dd101
  refine s_dmul X97 hx (hb hby d3_105) d101 h_d101 Dd101.nn 106 rfl ?_
  refine s_ldc2D X97 hx (hb hby d3_106) hZ hown (wd hw 34 _ rfl) 109 rfl ?_
  refine s_dloadN X97 hx (hb hby d3_109) rfl 110 rfl ?_
  refine s_dconst1 X97 hx (hb hby d3_110) (4607182418800017408 : UInt64) rfl 111 rfl ?_
  have Dd102 := Db.sub H_k dc_4607182418800017408 (by decide)
  obtain ⟨d102, h_d102⟩ : ∃ v, FP.dsub k (4607182418800017408 : UInt64) = v := ⟨_, rfl⟩
  rw [h_d102] at Dd102
  refine s_dsub X97 hx (hb hby d3_111) d102 h_d102 Dd102.nn 112 rfl ?_
  have Dd103 := Db.mul dc_4613937818241073152 Dd102 (by decide)
  obtain ⟨d103, h_d103⟩ : ∃ v, FP.dmul (4613937818241073152 : UInt64) d102 = v := ⟨_, rfl⟩
  rw [h_d103] at Dd103
  refine s_dmul X97 hx (hb hby d3_112) d103 h_d103 Dd103.nn 113 rfl ?_
  refine s_dload X97 hx (hb hby d3_113) rfl 115 rfl ?_
  have Dd104 := Db.mul Dd103 H_ks (by decide)
  obtain ⟨d104, h_d104⟩ : ∃ v, FP.dmul d103 ks = v := ⟨_, rfl⟩
  rw [h_d104] at Dd104
  refine s_dmul X97 hx (hb hby d3_115) d104 h_d104 Dd104.nn 116 rfl ?_
  have Dd105 := Db.add Dd101 Dd104 (by decide)
  obtain ⟨d105, h_d105⟩ : ∃ v, FP.dadd d101 d104 = v := ⟨_, rfl⟩
  rw [h_d105] at Dd105
  refine s_dadd X97 hx (hb hby d3_116) d105 h_d105 Dd105.nn 117 rfl ?_
  refine s_dload X97 hx (hb hby d3_117) rfl 119 rfl ?_
  have Dd106 := Db.add Dd105 H_kc (by decide)
  obtain ⟨d106, h_d106⟩ : ∃ v, FP.dadd d105 kc = v := ⟨_, rfl⟩
  rw [h_d106] at Dd106
  refine s_dadd X97 hx (hb hby d3_119) d106 h_d106 Dd106.nn 120 rfl ?_
  refine s_dloadN X97 hx (hb hby d3_120) rfl 121 rfl ?_
  have Dd107 := Db.mul Dd106 H_t (by decide)
  obtain ⟨d107, h_d107⟩ : ∃ v, FP.dmul d106 t = v := ⟨_, rfl⟩
  rw [h_d107] at Dd107
  refine s_dmul X97 hx (hb hby d3_121) d107 h_d107 Dd107.nn 122 rfl ?_
  have Dd108 := Db.add H_7 Dd107 (by decide)
  obtain ⟨d108, h_d108⟩ : ∃ v, FP.dadd f7 d107 = v := ⟨_, rfl⟩
  rw [h_d108] at Dd108
  refine s_dadd X97 hx (hb hby d3_122) d108 h_d108 Dd108.nn 123 rfl ?_
  obtain ⟨T109, h109, X109, e109, W109, st109⟩ := putF X97 hx hZ hown (host := "") (Or.inl (wd hw 32 _ rfl)) Via.refl e97 F94 F88 (Or.inl (wd hw 33 _ rfl)) (wd hw 1 _ rfl) (ty := .double) (by decide) rfl rfl (g := (mkF m 123 #[.val (.ref a1), .val (.double t), .second, .val (.double k), .second, .val (.double ks), .second, .val (.double kc), .second, .val (.double j), .second, .val (.double js), .second] [.double d108, .ref a1])) rfl rfl (hb hby d3_123)
  have N109 := Fr.snoc X109 N86 g1
  have F110 := F94.same W109
  have F111 := F88.wr W109
  have F112 := F89.other W109 (Or.inr (slot_ne (a0 := a0) (t := .double) (t' := .double) (Or.inl (wd hw 25 _ rfl)) (Or.inl (wd hw 33 _ rfl)) (by decide) (by decide) (by decide)))
  have F113 := F90.other W109 (Or.inr (slot_ne (a0 := a0) (t := .double) (t' := .double) (Or.inl (wd hw 27 _ rfl)) (Or.inl (wd hw 33 _ rfl)) (by decide) (by decide) (by decide)))
  have F114 := F91.other W109 (Or.inr (slot_ne (a0 := a0) (t := .double) (t' := .double) (Or.inl (wd hw 29 _ rfl)) (Or.inl (wd hw 33 _ rfl)) (by decide) (by decide) (by decide)))
  have F115 := F92.other W109 (Or.inr (slot_ne (a0 := a0) (t := .double) (t' := .double) (Or.inl (wd hw 16 _ rfl)) (Or.inl (wd hw 33 _ rfl)) (by decide) (by decide) (by decide)))
  have F116 := F93.other W109 (Or.inr (slot_ne (a0 := a0) (t := .double) (t' := .double) (Or.inl (wd hw 18 _ rfl)) (Or.inl (wd hw 33 _ rfl)) (by decide) (by decide) (by decide)))
  have F117 := F87.other W109 (Or.inr (slot_ne (a0 := a0) (t := .double) (t' := .double) (Or.inl (wd hw 31 _ rfl)) (Or.inl (wd hw 33 _ rfl)) (by decide) (by decide) (by decide)))
  have Z118 : n0 ≤ h109.size := by rw [W109.size]; exact Z95
  have K119 := K96.wr W109 (Or.inl (by simp))
  refine Go.via st109 ?_
  show Go p e below _ (T109.setTop (mkF m 126 #[.val (.ref a1), .val (.double t), .second, .val (.double k), .second, .val (.double ks), .second, .val (.double kc), .second, .val (.double j), .second, .val (.double js), .second] []))
  exact retV X109 hx hlk hret (hb hby d3_126) e109 ⟨rfl, N109, K119, d8, d22, d39, d53, d70, d85, d108, ⟨F112, Dd8.weak (by decide)⟩, ⟨F113, Dd22.weak (by decide)⟩, ⟨F114, Dd39.weak (by decide)⟩, ⟨F115, Dd53.weak (by decide)⟩, ⟨F116, Dd70.weak (by decide)⟩, ⟨F117, Dd85.weak (by decide)⟩, ⟨F110, Dd108.weak (by decide)⟩⟩ (by decide) (by decide)
set_option maxRecDepth 65536 in
set_option maxHeartbeats 40000000 in
theorem rm_add2 (l : Launch) (Z : State) (a0 : Array Value) (hw : ∀ d ∈ tables_1, d.before a0 Z = true) (ws : List Jvm.Cond) (a1 : Addr) (t k ks kc j js : UInt64) (T K KS KC J JS : Int) (f1 f2 f3 f4 f5 f6 f7 : UInt64) (A1 A2 A3 A4 A5 A6 A7 : Int) (h0 : Heap) (n0 : Nat) (Z0 : n0 ≤ h0.size) (E1 : Exa Z h0 a1 "com/example/entalpi/entalpi/fluids/Derivatives") (g1 : n0 ≤ a1) (F_1 : Fld Z h0 a1 "com/example/entalpi/entalpi/fluids/Derivatives" "alpha" "D" (.double f1)) (F_2 : Fld Z h0 a1 "com/example/entalpi/entalpi/fluids/Derivatives" "tauAlphaTau" "D" (.double f2)) (F_3 : Fld Z h0 a1 "com/example/entalpi/entalpi/fluids/Derivatives" "tauTauAlphaTauTau" "D" (.double f3)) (F_4 : Fld Z h0 a1 "com/example/entalpi/entalpi/fluids/Derivatives" "deltaResidualDelta" "D" (.double f4)) (F_5 : Fld Z h0 a1 "com/example/entalpi/entalpi/fluids/Derivatives" "deltaDeltaResidualDeltaDelta" "D" (.double f5)) (F_6 : Fld Z h0 a1 "com/example/entalpi/entalpi/fluids/Derivatives" "deltaTauResidualDeltaTau" "D" (.double f6)) (F_7 : Fld Z h0 a1 "com/example/entalpi/entalpi/fluids/Derivatives" "deltaDeltaDeltaResidualDeltaDeltaDelta" "D" (.double f7)) (H_1 : Db 281474976710656 A1 0 f1) (H_2 : Db 281474976710656 A2 0 f2) (H_3 : Db 281474976710656 A3 0 f3) (H_4 : Db 281474976710656 A4 0 f4) (H_5 : Db 281474976710656 A5 0 f5) (H_6 : Db 281474976710656 A6 0 f6) (H_7 : Db 281474976710656 A7 0 f7) (H_t : Db 32768 T 0 t) (H_k : Db 128 K 0 k) (H_ks : Db 32768 KS 0 ks) (H_kc : Db 2147483648 KC 0 kc) (H_j : Db 32768 J 0 j) (H_js : Db 2147483648 JS 0 js) :
    Ct l Z (⟨"com/example/entalpi/entalpi/fluids/Derivatives", "addSeparable", "(DDDDDD)V"⟩ : MethodName) prog_7_method_2_code 13 none ws ({ frames := 0, cells := 0, slots := 0, locals := 0 } : Room) #[.ref a1, .double t, .double k, .double ks, .double kc, .double j, .double js] h0 (fun v h L => v = none ∧ Fr n0 L ∧ Keep h0 h [a1] ∧ ∃ r1 r2 r3 r4 r5 r6 r7, (Fld Z h a1 "com/example/entalpi/entalpi/fluids/Derivatives" "alpha" "D" (.double r1) ∧ Db 562949953421312 (A1 + T) 0 r1) ∧ (Fld Z h a1 "com/example/entalpi/entalpi/fluids/Derivatives" "tauAlphaTau" "D" (.double r2) ∧ Db 562949953421312 (A2 + J * T) 0 r2) ∧ (Fld Z h a1 "com/example/entalpi/entalpi/fluids/Derivatives" "tauTauAlphaTauTau" "D" (.double r3) ∧ Db 562949953421312 (A3 + (J * (J - 1) + JS) * T) 0 r3) ∧ (Fld Z h a1 "com/example/entalpi/entalpi/fluids/Derivatives" "deltaResidualDelta" "D" (.double r4) ∧ Db 562949953421312 (A4 + K * T) 0 r4) ∧ (Fld Z h a1 "com/example/entalpi/entalpi/fluids/Derivatives" "deltaDeltaResidualDeltaDelta" "D" (.double r5) ∧ Db 562949953421312 (A5 + (K * (K - 1) + KS) * T) 0 r5) ∧ (Fld Z h a1 "com/example/entalpi/entalpi/fluids/Derivatives" "deltaTauResidualDeltaTau" "D" (.double r6) ∧ Db 562949953421312 (A6 + J * K * T) 0 r6) ∧ (Fld Z h a1 "com/example/entalpi/entalpi/fluids/Derivatives" "deltaDeltaDeltaResidualDeltaDeltaDelta" "D" (.double r7) ∧ Db 562949953421312 (A7 + (K * (K - 1) * (K - 2) + 3 * (K - 1) * KS + KC) * T) 0 r7)) := by
  refine Ct.intro pn_3 #[.val (.ref a1), .val (.double t), .second, .val (.double k), .second, .val (.double ks), .second, .val (.double kc), .second, .val (.double j), .second, .val (.double js), .second] (fun _ => by first | (simp [entryFrame, mkF, argsToLocals, Value.category, maxLocals]; done) | rfl) ?_
  intro p e s m below meth c T0 X0 hx hZ hby hml hown hnm hret hlk e0
  have N0 := Fr.nil n0
  have K0 := Keep.refl h0 [a1]
  refine s_aloadN X0 hx (hb hby d3_0) rfl rfl 1 rfl ?_
  refine s_dup X0 hx (hb hby d3_1) rfl 2 rfl ?_
  obtain ⟨T120, X120, e120, st120⟩ := getF X0 hx hZ hown (host := "") (Or.inl (wd hw 24 _ rfl)) Via.refl e0 F_1 (g := (mkF m 2 #[.val (.ref a1), .val (.double t), .second, .val (.double k), .second, .val (.double ks), .second, .val (.double kc), .second, .val (.double j), .second, .val (.double js), .second] [.ref a1, .ref a1])) rfl rfl (hb hby d3_2)
  refine Go.via st120 ?_
  show Go p e below _ (T120.setTop (mkF m 5 #[.val (.ref a1), .val (.double t), .second, .val (.double k), .second, .val (.double ks), .second, .val (.double kc), .second, .val (.double j), .second, .val (.double js), .second] [.double f1, .ref a1]))
  refine s_dloadN X120 hx (hb hby d3_5) rfl 6 rfl ?_
  have Dd121 := Db.add H_1 H_t (by decide)
  obtain ⟨d121, h_d121⟩ : ∃ v, FP.dadd f1 t = v := ⟨_, rfl⟩
  rw [h_d121] at Dd121
  refine s_dadd X120 hx (hb hby d3_6) d121 h_d121 Dd121.nn 7 rfl ?_
  obtain ⟨T122, h122, X122, e122, W122, st122⟩ := putF X120 hx hZ hown (host := "") (Or.inl (wd hw 24 _ rfl)) Via.refl e120 F_1 E1 (Or.inl (wd hw 25 _ rfl)) (wd hw 1 _ rfl) (ty := .double) (by decide) rfl rfl (g := (mkF m 7 #[.val (.ref a1), .val (.double t), .second, .val (.double k), .second, .val (.double ks), .second, .val (.double kc), .second, .val (.double j), .second, .val (.double js), .second] [.double d121, .ref a1])) rfl rfl (hb hby d3_7)
  have N122 := Fr.snoc X122 N0 g1
  have F123 := F_1.same W122
  have F124 := E1.wr W122
  have F125 := F_2.other W122 (Or.inr (slot_ne (a0 := a0) (t := .double) (t' := .double) (Or.inl (wd hw 27 _ rfl)) (Or.inl (wd hw 25 _ rfl)) (by decide) (by decide) (by decide)))
  have F126 := F_3.other W122 (Or.inr (slot_ne (a0 := a0) (t := .double) (t' := .double) (Or.inl (wd hw 29 _ rfl)) (Or.inl (wd hw 25 _ rfl)) (by decide) (by decide) (by decide)))
  have F127 := F_4.other W122 (Or.inr (slot_ne (a0 := a0) (t := .double) (t' := .double) (Or.inl (wd hw 16 _ rfl)) (Or.inl (wd hw 25 _ rfl)) (by decide) (by decide) (by decide)))
  have F128 := F_5.other W122 (Or.inr (slot_ne (a0 := a0) (t := .double) (t' := .double) (Or.inl (wd hw 18 _ rfl)) (Or.inl (wd hw 25 _ rfl)) (by decide) (by decide) (by decide)))
  have F129 := F_6.other W122 (Or.inr (slot_ne (a0 := a0) (t := .double) (t' := .double) (Or.inl (wd hw 31 _ rfl)) (Or.inl (wd hw 25 _ rfl)) (by decide) (by decide) (by decide)))
  have F130 := F_7.other W122 (Or.inr (slot_ne (a0 := a0) (t := .double) (t' := .double) (Or.inl (wd hw 33 _ rfl)) (Or.inl (wd hw 25 _ rfl)) (by decide) (by decide) (by decide)))
  have Z131 : n0 ≤ h122.size := by rw [W122.size]; exact Z0
  have K132 := K0.wr W122 (Or.inl (by simp))
  refine Go.via st122 ?_
  show Go p e below _ (T122.setTop (mkF m 10 #[.val (.ref a1), .val (.double t), .second, .val (.double k), .second, .val (.double ks), .second, .val (.double kc), .second, .val (.double j), .second, .val (.double js), .second] []))
  refine s_aloadN X122 hx (hb hby d3_10) rfl rfl 11 rfl ?_
  refine s_dup X122 hx (hb hby d3_11) rfl 12 rfl ?_
  obtain ⟨T133, X133, e133, st133⟩ := getF X122 hx hZ hown (host := "") (Or.inl (wd hw 26 _ rfl)) Via.refl e122 F125 (g := (mkF m 12 #[.val (.ref a1), .val (.double t), .second, .val (.double k), .second, .val (.double ks), .second, .val (.double kc), .second, .val (.double j), .second, .val (.double js), .second] [.ref a1, .ref a1])) rfl rfl (hb hby d3_12)
  refine Go.via st133 ?_
  show Go p e below _ (T133.setTop (mkF m 15 #[.val (.ref a1), .val (.double t), .second, .val (.double k), .second, .val (.double ks), .second, .val (.double kc), .second, .val (.double j), .second, .val (.double js), .second] [.double f2, .ref a1]))
  refine s_dload X133 hx (hb hby d3_15) rfl 17 rfl ?_
  refine s_dloadN X133 hx (hb hby d3_17) rfl 18 rfl ?_
  have Dd134 := Db.mul H_j H_t (by decide)
  obtain ⟨d134, h_d134⟩ : ∃ v, FP.dmul j t = v := ⟨_, rfl⟩
  rw [h_d134] at Dd134
  refine s_dmul X133 hx (hb hby d3_18) d134 h_d134 Dd134.nn 19 rfl ?_
  have Dd135 := Db.add H_2 Dd134 (by decide)
  obtain ⟨d135, h_d135⟩ : ∃ v, FP.dadd f2 d134 = v := ⟨_, rfl⟩
  rw [h_d135] at Dd135
  refine s_dadd X133 hx (hb hby d3_19) d135 h_d135 Dd135.nn 20 rfl ?_
  obtain ⟨T136, h136, X136, e136, W136, st136⟩ := putF X133 hx hZ hown (host := "") (Or.inl (wd hw 26 _ rfl)) Via.refl e133 F125 F124 (Or.inl (wd hw 27 _ rfl)) (wd hw 1 _ rfl) (ty := .double) (by decide) rfl rfl (g := (mkF m 20 #[.val (.ref a1), .val (.double t), .second, .val (.double k), .second, .val (.double ks), .second, .val (.double kc), .second, .val (.double j), .second, .val (.double js), .second] [.double d135, .ref a1])) rfl rfl (hb hby d3_20)
  have N136 := Fr.snoc X136 N122 g1
  have F137 := F125.same W136
  have F138 := F124.wr W136
  have F139 := F123.other W136 (Or.inr (slot_ne (a0 := a0) (t := .double) (t' := .double) (Or.inl (wd hw 25 _ rfl)) (Or.inl (wd hw 27 _ rfl)) (by decide) (by decide) (by decide)))
  have F140 := F126.other W136 (Or.inr (slot_ne (a0 := a0) (t := .double) (t' := .double) (Or.inl (wd hw 29 _ rfl)) (Or.inl (wd hw 27 _ rfl)) (by decide) (by decide) (by decide)))
  have F141 := F127.other W136 (Or.inr (slot_ne (a0 := a0) (t := .double) (t' := .double) (Or.inl (wd hw 16 _ rfl)) (Or.inl (wd hw 27 _ rfl)) (by decide) (by decide) (by decide)))
  have F142 := F128.other W136 (Or.inr (slot_ne (a0 := a0) (t := .double) (t' := .double) (Or.inl (wd hw 18 _ rfl)) (Or.inl (wd hw 27 _ rfl)) (by decide) (by decide) (by decide)))
  have F143 := F129.other W136 (Or.inr (slot_ne (a0 := a0) (t := .double) (t' := .double) (Or.inl (wd hw 31 _ rfl)) (Or.inl (wd hw 27 _ rfl)) (by decide) (by decide) (by decide)))
  have F144 := F130.other W136 (Or.inr (slot_ne (a0 := a0) (t := .double) (t' := .double) (Or.inl (wd hw 33 _ rfl)) (Or.inl (wd hw 27 _ rfl)) (by decide) (by decide) (by decide)))
  have Z145 : n0 ≤ h136.size := by rw [W136.size]; exact Z131
  have K146 := K132.wr W136 (Or.inl (by simp))
  refine Go.via st136 ?_
  show Go p e below _ (T136.setTop (mkF m 23 #[.val (.ref a1), .val (.double t), .second, .val (.double k), .second, .val (.double ks), .second, .val (.double kc), .second, .val (.double j), .second, .val (.double js), .second] []))
  refine s_aloadN X136 hx (hb hby d3_23) rfl rfl 24 rfl ?_
  refine s_dup X136 hx (hb hby d3_24) rfl 25 rfl ?_
  obtain ⟨T147, X147, e147, st147⟩ := getF X136 hx hZ hown (host := "") (Or.inl (wd hw 28 _ rfl)) Via.refl e136 F140 (g := (mkF m 25 #[.val (.ref a1), .val (.double t), .second, .val (.double k), .second, .val (.double ks), .second, .val (.double kc), .second, .val (.double j), .second, .val (.double js), .second] [.ref a1, .ref a1])) rfl rfl (hb hby d3_25)
  refine Go.via st147 ?_
  show Go p e below _ (T147.setTop (mkF m 28 #[.val (.ref a1), .val (.double t), .second, .val (.double k), .second, .val (.double ks), .second, .val (.double kc), .second, .val (.double j), .second, .val (.double js), .second] [.double f3, .ref a1]))
  refine s_dload X147 hx (hb hby d3_28) rfl 30 rfl ?_
  refine s_dload X147 hx (hb hby d3_30) rfl 32 rfl ?_
  refine s_dconst1 X147 hx (hb hby d3_32) (4607182418800017408 : UInt64) rfl 33 rfl ?_
  have Dd148 := Db.sub H_j dc_4607182418800017408 (by decide)
  obtain ⟨d148, h_d148⟩ : ∃ v, FP.dsub j (4607182418800017408 : UInt64) = v := ⟨_, rfl⟩
  rw [h_d148] at Dd148
  refine s_dsub X147 hx (hb hby d3_33) d148 h_d148 Dd148.nn 34 rfl ?_
  have Dd149 := Db.mul H_j Dd148 (by decide)
  obtain ⟨d149, h_d149⟩ : ∃ v, FP.dmul j d148 = v := ⟨_, rfl⟩
  rw [h_d149] at Dd149
  refine s_dmul X147 hx (hb hby d3_34) d149 h_d149 Dd149.nn 35 rfl ?_
  refine s_dload X147 hx (hb hby d3_35) rfl 37 rfl ?_
  have Dd150 := Db.add Dd149 H_js (by decide)
  obtain ⟨d150, h_d150⟩ : ∃ v, FP.dadd d149 js = v := ⟨_, rfl⟩
  rw [h_d150] at Dd150
  refine s_dadd X147 hx (hb hby d3_37) d150 h_d150 Dd150.nn 38 rfl ?_
  refine s_dloadN X147 hx (hb hby d3_38) rfl 39 rfl ?_
  have Dd151 := Db.mul Dd150 H_t (by decide)
  obtain ⟨d151, h_d151⟩ : ∃ v, FP.dmul d150 t = v := ⟨_, rfl⟩
  rw [h_d151] at Dd151
  refine s_dmul X147 hx (hb hby d3_39) d151 h_d151 Dd151.nn 40 rfl ?_
  have Dd152 := Db.add H_3 Dd151 (by decide)
  obtain ⟨d152, h_d152⟩ : ∃ v, FP.dadd f3 d151 = v := ⟨_, rfl⟩
  rw [h_d152] at Dd152
  refine s_dadd X147 hx (hb hby d3_40) d152 h_d152 Dd152.nn 41 rfl ?_
  obtain ⟨T153, h153, X153, e153, W153, st153⟩ := putF X147 hx hZ hown (host := "") (Or.inl (wd hw 28 _ rfl)) Via.refl e147 F140 F138 (Or.inl (wd hw 29 _ rfl)) (wd hw 1 _ rfl) (ty := .double) (by decide) rfl rfl (g := (mkF m 41 #[.val (.ref a1), .val (.double t), .second, .val (.double k), .second, .val (.double ks), .second, .val (.double kc), .second, .val (.double j), .second, .val (.double js), .second] [.double d152, .ref a1])) rfl rfl (hb hby d3_41)
  have N153 := Fr.snoc X153 N136 g1
  have F154 := F140.same W153
  have F155 := F138.wr W153
  have F156 := F139.other W153 (Or.inr (slot_ne (a0 := a0) (t := .double) (t' := .double) (Or.inl (wd hw 25 _ rfl)) (Or.inl (wd hw 29 _ rfl)) (by decide) (by decide) (by decide)))
  have F157 := F137.other W153 (Or.inr (slot_ne (a0 := a0) (t := .double) (t' := .double) (Or.inl (wd hw 27 _ rfl)) (Or.inl (wd hw 29 _ rfl)) (by decide) (by decide) (by decide)))
  have F158 := F141.other W153 (Or.inr (slot_ne (a0 := a0) (t := .double) (t' := .double) (Or.inl (wd hw 16 _ rfl)) (Or.inl (wd hw 29 _ rfl)) (by decide) (by decide) (by decide)))
  have F159 := F142.other W153 (Or.inr (slot_ne (a0 := a0) (t := .double) (t' := .double) (Or.inl (wd hw 18 _ rfl)) (Or.inl (wd hw 29 _ rfl)) (by decide) (by decide) (by decide)))
  have F160 := F143.other W153 (Or.inr (slot_ne (a0 := a0) (t := .double) (t' := .double) (Or.inl (wd hw 31 _ rfl)) (Or.inl (wd hw 29 _ rfl)) (by decide) (by decide) (by decide)))
  have F161 := F144.other W153 (Or.inr (slot_ne (a0 := a0) (t := .double) (t' := .double) (Or.inl (wd hw 33 _ rfl)) (Or.inl (wd hw 29 _ rfl)) (by decide) (by decide) (by decide)))
  have Z162 : n0 ≤ h153.size := by rw [W153.size]; exact Z145
  have K163 := K146.wr W153 (Or.inl (by simp))
  refine Go.via st153 ?_
  show Go p e below _ (T153.setTop (mkF m 44 #[.val (.ref a1), .val (.double t), .second, .val (.double k), .second, .val (.double ks), .second, .val (.double kc), .second, .val (.double j), .second, .val (.double js), .second] []))
  refine s_aloadN X153 hx (hb hby d3_44) rfl rfl 45 rfl ?_
  refine s_dup X153 hx (hb hby d3_45) rfl 46 rfl ?_
  obtain ⟨T164, X164, e164, st164⟩ := getF X153 hx hZ hown (host := "") (Or.inl (wd hw 15 _ rfl)) Via.refl e153 F158 (g := (mkF m 46 #[.val (.ref a1), .val (.double t), .second, .val (.double k), .second, .val (.double ks), .second, .val (.double kc), .second, .val (.double j), .second, .val (.double js), .second] [.ref a1, .ref a1])) rfl rfl (hb hby d3_46)
  refine Go.via st164 ?_
  show Go p e below _ (T164.setTop (mkF m 49 #[.val (.ref a1), .val (.double t), .second, .val (.double k), .second, .val (.double ks), .second, .val (.double kc), .second, .val (.double j), .second, .val (.double js), .second] [.double f4, .ref a1]))
  refine s_dloadN X164 hx (hb hby d3_49) rfl 50 rfl ?_
  refine s_dloadN X164 hx (hb hby d3_50) rfl 51 rfl ?_
  have Dd165 := Db.mul H_k H_t (by decide)
  obtain ⟨d165, h_d165⟩ : ∃ v, FP.dmul k t = v := ⟨_, rfl⟩
  rw [h_d165] at Dd165
  refine s_dmul X164 hx (hb hby d3_51) d165 h_d165 Dd165.nn 52 rfl ?_
  have Dd166 := Db.add H_4 Dd165 (by decide)
  obtain ⟨d166, h_d166⟩ : ∃ v, FP.dadd f4 d165 = v := ⟨_, rfl⟩
  rw [h_d166] at Dd166
  refine s_dadd X164 hx (hb hby d3_52) d166 h_d166 Dd166.nn 53 rfl ?_
  obtain ⟨T167, h167, X167, e167, W167, st167⟩ := putF X164 hx hZ hown (host := "") (Or.inl (wd hw 15 _ rfl)) Via.refl e164 F158 F155 (Or.inl (wd hw 16 _ rfl)) (wd hw 1 _ rfl) (ty := .double) (by decide) rfl rfl (g := (mkF m 53 #[.val (.ref a1), .val (.double t), .second, .val (.double k), .second, .val (.double ks), .second, .val (.double kc), .second, .val (.double j), .second, .val (.double js), .second] [.double d166, .ref a1])) rfl rfl (hb hby d3_53)
  have N167 := Fr.snoc X167 N153 g1
  have F168 := F158.same W167
  have F169 := F155.wr W167
  have F170 := F156.other W167 (Or.inr (slot_ne (a0 := a0) (t := .double) (t' := .double) (Or.inl (wd hw 25 _ rfl)) (Or.inl (wd hw 16 _ rfl)) (by decide) (by decide) (by decide)))
  have F171 := F157.other W167 (Or.inr (slot_ne (a0 := a0) (t := .double) (t' := .double) (Or.inl (wd hw 27 _ rfl)) (Or.inl (wd hw 16 _ rfl)) (by decide) (by decide) (by decide)))
  have F172 := F154.other W167 (Or.inr (slot_ne (a0 := a0) (t := .double) (t' := .double) (Or.inl (wd hw 29 _ rfl)) (Or.inl (wd hw 16 _ rfl)) (by decide) (by decide) (by decide)))
  have F173 := F159.other W167 (Or.inr (slot_ne (a0 := a0) (t := .double) (t' := .double) (Or.inl (wd hw 18 _ rfl)) (Or.inl (wd hw 16 _ rfl)) (by decide) (by decide) (by decide)))
  have F174 := F160.other W167 (Or.inr (slot_ne (a0 := a0) (t := .double) (t' := .double) (Or.inl (wd hw 31 _ rfl)) (Or.inl (wd hw 16 _ rfl)) (by decide) (by decide) (by decide)))
  have F175 := F161.other W167 (Or.inr (slot_ne (a0 := a0) (t := .double) (t' := .double) (Or.inl (wd hw 33 _ rfl)) (Or.inl (wd hw 16 _ rfl)) (by decide) (by decide) (by decide)))
  have Z176 : n0 ≤ h167.size := by rw [W167.size]; exact Z162
  have K177 := K163.wr W167 (Or.inl (by simp))
  refine Go.via st167 ?_
  show Go p e below _ (T167.setTop (mkF m 56 #[.val (.ref a1), .val (.double t), .second, .val (.double k), .second, .val (.double ks), .second, .val (.double kc), .second, .val (.double j), .second, .val (.double js), .second] []))
  refine s_aloadN X167 hx (hb hby d3_56) rfl rfl 57 rfl ?_
  refine s_dup X167 hx (hb hby d3_57) rfl 58 rfl ?_
  obtain ⟨T178, X178, e178, st178⟩ := getF X167 hx hZ hown (host := "") (Or.inl (wd hw 17 _ rfl)) Via.refl e167 F173 (g := (mkF m 58 #[.val (.ref a1), .val (.double t), .second, .val (.double k), .second, .val (.double ks), .second, .val (.double kc), .second, .val (.double j), .second, .val (.double js), .second] [.ref a1, .ref a1])) rfl rfl (hb hby d3_58)
  refine Go.via st178 ?_
  show Go p e below _ (T178.setTop (mkF m 61 #[.val (.ref a1), .val (.double t), .second, .val (.double k), .second, .val (.double ks), .second, .val (.double kc), .second, .val (.double j), .second, .val (.double js), .second] [.double f5, .ref a1]))
  refine s_dloadN X178 hx (hb hby d3_61) rfl 62 rfl ?_
  refine s_dloadN X178 hx (hb hby d3_62) rfl 63 rfl ?_
  refine s_dconst1 X178 hx (hb hby d3_63) (4607182418800017408 : UInt64) rfl 64 rfl ?_
  have Dd179 := Db.sub H_k dc_4607182418800017408 (by decide)
  obtain ⟨d179, h_d179⟩ : ∃ v, FP.dsub k (4607182418800017408 : UInt64) = v := ⟨_, rfl⟩
  rw [h_d179] at Dd179
  refine s_dsub X178 hx (hb hby d3_64) d179 h_d179 Dd179.nn 65 rfl ?_
  have Dd180 := Db.mul H_k Dd179 (by decide)
  obtain ⟨d180, h_d180⟩ : ∃ v, FP.dmul k d179 = v := ⟨_, rfl⟩
  rw [h_d180] at Dd180
  refine s_dmul X178 hx (hb hby d3_65) d180 h_d180 Dd180.nn 66 rfl ?_
  refine s_dload X178 hx (hb hby d3_66) rfl 68 rfl ?_
  have Dd181 := Db.add Dd180 H_ks (by decide)
  obtain ⟨d181, h_d181⟩ : ∃ v, FP.dadd d180 ks = v := ⟨_, rfl⟩
  rw [h_d181] at Dd181
  refine s_dadd X178 hx (hb hby d3_68) d181 h_d181 Dd181.nn 69 rfl ?_
  refine s_dloadN X178 hx (hb hby d3_69) rfl 70 rfl ?_
  have Dd182 := Db.mul Dd181 H_t (by decide)
  obtain ⟨d182, h_d182⟩ : ∃ v, FP.dmul d181 t = v := ⟨_, rfl⟩
  rw [h_d182] at Dd182
  refine s_dmul X178 hx (hb hby d3_70) d182 h_d182 Dd182.nn 71 rfl ?_
  have Dd183 := Db.add H_5 Dd182 (by decide)
  obtain ⟨d183, h_d183⟩ : ∃ v, FP.dadd f5 d182 = v := ⟨_, rfl⟩
  rw [h_d183] at Dd183
  refine s_dadd X178 hx (hb hby d3_71) d183 h_d183 Dd183.nn 72 rfl ?_
  obtain ⟨T184, h184, X184, e184, W184, st184⟩ := putF X178 hx hZ hown (host := "") (Or.inl (wd hw 17 _ rfl)) Via.refl e178 F173 F169 (Or.inl (wd hw 18 _ rfl)) (wd hw 1 _ rfl) (ty := .double) (by decide) rfl rfl (g := (mkF m 72 #[.val (.ref a1), .val (.double t), .second, .val (.double k), .second, .val (.double ks), .second, .val (.double kc), .second, .val (.double j), .second, .val (.double js), .second] [.double d183, .ref a1])) rfl rfl (hb hby d3_72)
  have N184 := Fr.snoc X184 N167 g1
  have F185 := F173.same W184
  have F186 := F169.wr W184
  have F187 := F170.other W184 (Or.inr (slot_ne (a0 := a0) (t := .double) (t' := .double) (Or.inl (wd hw 25 _ rfl)) (Or.inl (wd hw 18 _ rfl)) (by decide) (by decide) (by decide)))
  have F188 := F171.other W184 (Or.inr (slot_ne (a0 := a0) (t := .double) (t' := .double) (Or.inl (wd hw 27 _ rfl)) (Or.inl (wd hw 18 _ rfl)) (by decide) (by decide) (by decide)))
  have F189 := F172.other W184 (Or.inr (slot_ne (a0 := a0) (t := .double) (t' := .double) (Or.inl (wd hw 29 _ rfl)) (Or.inl (wd hw 18 _ rfl)) (by decide) (by decide) (by decide)))
  have F190 := F168.other W184 (Or.inr (slot_ne (a0 := a0) (t := .double) (t' := .double) (Or.inl (wd hw 16 _ rfl)) (Or.inl (wd hw 18 _ rfl)) (by decide) (by decide) (by decide)))
  have F191 := F174.other W184 (Or.inr (slot_ne (a0 := a0) (t := .double) (t' := .double) (Or.inl (wd hw 31 _ rfl)) (Or.inl (wd hw 18 _ rfl)) (by decide) (by decide) (by decide)))
  have F192 := F175.other W184 (Or.inr (slot_ne (a0 := a0) (t := .double) (t' := .double) (Or.inl (wd hw 33 _ rfl)) (Or.inl (wd hw 18 _ rfl)) (by decide) (by decide) (by decide)))
  have Z193 : n0 ≤ h184.size := by rw [W184.size]; exact Z176
  have K194 := K177.wr W184 (Or.inl (by simp))
  refine Go.via st184 ?_
  show Go p e below _ (T184.setTop (mkF m 75 #[.val (.ref a1), .val (.double t), .second, .val (.double k), .second, .val (.double ks), .second, .val (.double kc), .second, .val (.double j), .second, .val (.double js), .second] []))
  refine s_aloadN X184 hx (hb hby d3_75) rfl rfl 76 rfl ?_
  refine s_dup X184 hx (hb hby d3_76) rfl 77 rfl ?_
  obtain ⟨T195, X195, e195, st195⟩ := getF X184 hx hZ hown (host := "") (Or.inl (wd hw 30 _ rfl)) Via.refl e184 F191 (g := (mkF m 77 #[.val (.ref a1), .val (.double t), .second, .val (.double k), .second, .val (.double ks), .second, .val (.double kc), .second, .val (.double j), .second, .val (.double js), .second] [.ref a1, .ref a1])) rfl rfl (hb hby d3_77)
  refine Go.via st195 ?_
  show Go p e below _ (T195.setTop (mkF m 80 #[.val (.ref a1), .val (.double t), .second, .val (.double k), .second, .val (.double ks), .second, .val (.double kc), .second, .val (.double j), .second, .val (.double js), .second] [.double f6, .ref a1]))
  refine s_dload X195 hx (hb hby d3_80) rfl 82 rfl ?_
  refine s_dloadN X195 hx (hb hby d3_82) rfl 83 rfl ?_
  have Dd196 := Db.mul H_j H_k (by decide)
  obtain ⟨d196, h_d196⟩ : ∃ v, FP.dmul j k = v := ⟨_, rfl⟩
  rw [h_d196] at Dd196
  refine s_dmul X195 hx (hb hby d3_83) d196 h_d196 Dd196.nn 84 rfl ?_
  refine s_dloadN X195 hx (hb hby d3_84) rfl 85 rfl ?_
  have Dd197 := Db.mul Dd196 H_t (by decide)
  obtain ⟨d197, h_d197⟩ : ∃ v, FP.dmul d196 t = v := ⟨_, rfl⟩
  rw [h_d197] at Dd197
  refine s_dmul X195 hx (hb hby d3_85) d197 h_d197 Dd197.nn 86 rfl ?_
  have Dd198 := Db.add H_6 Dd197 (by decide)
  obtain ⟨d198, h_d198⟩ : ∃ v, FP.dadd f6 d197 = v := ⟨_, rfl⟩
  rw [h_d198] at Dd198
  refine s_dadd X195 hx (hb hby d3_86) d198 h_d198 Dd198.nn 87 rfl ?_
  obtain ⟨T199, h199, X199, e199, W199, st199⟩ := putF X195 hx hZ hown (host := "") (Or.inl (wd hw 30 _ rfl)) Via.refl e195 F191 F186 (Or.inl (wd hw 31 _ rfl)) (wd hw 1 _ rfl) (ty := .double) (by decide) rfl rfl (g := (mkF m 87 #[.val (.ref a1), .val (.double t), .second, .val (.double k), .second, .val (.double ks), .second, .val (.double kc), .second, .val (.double j), .second, .val (.double js), .second] [.double d198, .ref a1])) rfl rfl (hb hby d3_87)
  have N199 := Fr.snoc X199 N184 g1
  have F200 := F191.same W199
  have F201 := F186.wr W199
  have F202 := F187.other W199 (Or.inr (slot_ne (a0 := a0) (t := .double) (t' := .double) (Or.inl (wd hw 25 _ rfl)) (Or.inl (wd hw 31 _ rfl)) (by decide) (by decide) (by decide)))
  have F203 := F188.other W199 (Or.inr (slot_ne (a0 := a0) (t := .double) (t' := .double) (Or.inl (wd hw 27 _ rfl)) (Or.inl (wd hw 31 _ rfl)) (by decide) (by decide) (by decide)))
  have F204 := F189.other W199 (Or.inr (slot_ne (a0 := a0) (t := .double) (t' := .double) (Or.inl (wd hw 29 _ rfl)) (Or.inl (wd hw 31 _ rfl)) (by decide) (by decide) (by decide)))
  have F205 := F190.other W199 (Or.inr (slot_ne (a0 := a0) (t := .double) (t' := .double) (Or.inl (wd hw 16 _ rfl)) (Or.inl (wd hw 31 _ rfl)) (by decide) (by decide) (by decide)))
  have F206 := F185.other W199 (Or.inr (slot_ne (a0 := a0) (t := .double) (t' := .double) (Or.inl (wd hw 18 _ rfl)) (Or.inl (wd hw 31 _ rfl)) (by decide) (by decide) (by decide)))
  have F207 := F192.other W199 (Or.inr (slot_ne (a0 := a0) (t := .double) (t' := .double) (Or.inl (wd hw 33 _ rfl)) (Or.inl (wd hw 31 _ rfl)) (by decide) (by decide) (by decide)))
  have Z208 : n0 ≤ h199.size := by rw [W199.size]; exact Z193
  have K209 := K194.wr W199 (Or.inl (by simp))
  refine Go.via st199 ?_
  show Go p e below _ (T199.setTop (mkF m 90 #[.val (.ref a1), .val (.double t), .second, .val (.double k), .second, .val (.double ks), .second, .val (.double kc), .second, .val (.double j), .second, .val (.double js), .second] []))
  refine s_aloadN X199 hx (hb hby d3_90) rfl rfl 91 rfl ?_
  refine s_dup X199 hx (hb hby d3_91) rfl 92 rfl ?_
  obtain ⟨T210, X210, e210, st210⟩ := getF X199 hx hZ hown (host := "") (Or.inl (wd hw 32 _ rfl)) Via.refl e199 F207 (g := (mkF m 92 #[.val (.ref a1), .val (.double t), .second, .val (.double k), .second, .val (.double ks), .second, .val (.double kc), .second, .val (.double j), .second, .val (.double js), .second] [.ref a1, .ref a1])) rfl rfl (hb hby d3_92)
  refine Go.via st210 ?_
  show Go p e below _ (T210.setTop (mkF m 95 #[.val (.ref a1), .val (.double t), .second, .val (.double k), .second, .val (.double ks), .second, .val (.double kc), .second, .val (.double j), .second, .val (.double js), .second] [.double f7, .ref a1]))
  refine s_dloadN X210 hx (hb hby d3_95) rfl 96 rfl ?_
  refine s_dloadN X210 hx (hb hby d3_96) rfl 97 rfl ?_
  refine s_dconst1 X210 hx (hb hby d3_97) (4607182418800017408 : UInt64) rfl 98 rfl ?_
  have Dd211 := Db.sub H_k dc_4607182418800017408 (by decide)
  obtain ⟨d211, h_d211⟩ : ∃ v, FP.dsub k (4607182418800017408 : UInt64) = v := ⟨_, rfl⟩
  rw [h_d211] at Dd211
  refine s_dsub X210 hx (hb hby d3_98) d211 h_d211 Dd211.nn 99 rfl ?_
  have Dd212 := Db.mul H_k Dd211 (by decide)
  obtain ⟨d212, h_d212⟩ : ∃ v, FP.dmul k d211 = v := ⟨_, rfl⟩
  rw [h_d212] at Dd212
  refine s_dmul X210 hx (hb hby d3_99) d212 h_d212 Dd212.nn 100 rfl ?_
  refine s_dloadN X210 hx (hb hby d3_100) rfl 101 rfl ?_
  refine s_ldc2D X210 hx (hb hby d3_101) hZ hown (wd hw 14 _ rfl) 104 rfl ?_
  have Dd213 := Db.sub H_k dc_4611686018427387904 (by decide)
  obtain ⟨d213, h_d213⟩ : ∃ v, FP.dsub k (4611686018427387904 : UInt64) = v := ⟨_, rfl⟩
  rw [h_d213] at Dd213
  refine s_dsub X210 hx (hb hby d3_104) d213 h_d213 Dd213.nn 105 rfl ?_
  have Dd214 := Db.mul Dd212 Dd213 (by decide)
  obtain ⟨d214, h_d214⟩ : ∃ v, FP.dmul d212 d213 = v := ⟨_, rfl⟩
  rw [h_d214] at Dd214
  refine s_dmul X210 hx (hb hby d3_105) d214 h_d214 Dd214.nn 106 rfl ?_
  refine s_ldc2D X210 hx (hb hby d3_106) hZ hown (wd hw 34 _ rfl) 109 rfl ?_
  refine s_dloadN X210 hx (hb hby d3_109) rfl 110 rfl ?_
  refine s_dconst1 X210 hx (hb hby d3_110) (4607182418800017408 : UInt64) rfl 111 rfl ?_
  have Dd215 := Db.sub H_k dc_4607182418800017408 (by decide)
  obtain ⟨d215, h_d215⟩ : ∃ v, FP.dsub k (4607182418800017408 : UInt64) = v := ⟨_, rfl⟩
  rw [h_d215] at Dd215
  refine s_dsub X210 hx (hb hby d3_111) d215 h_d215 Dd215.nn 112 rfl ?_
  have Dd216 := Db.mul dc_4613937818241073152 Dd215 (by decide)
  obtain ⟨d216, h_d216⟩ : ∃ v, FP.dmul (4613937818241073152 : UInt64) d215 = v := ⟨_, rfl⟩
  rw [h_d216] at Dd216
  refine s_dmul X210 hx (hb hby d3_112) d216 h_d216 Dd216.nn 113 rfl ?_
  refine s_dload X210 hx (hb hby d3_113) rfl 115 rfl ?_
  have Dd217 := Db.mul Dd216 H_ks (by decide)
  obtain ⟨d217, h_d217⟩ : ∃ v, FP.dmul d216 ks = v := ⟨_, rfl⟩
  rw [h_d217] at Dd217
  refine s_dmul X210 hx (hb hby d3_115) d217 h_d217 Dd217.nn 116 rfl ?_
  have Dd218 := Db.add Dd214 Dd217 (by decide)
  obtain ⟨d218, h_d218⟩ : ∃ v, FP.dadd d214 d217 = v := ⟨_, rfl⟩
  rw [h_d218] at Dd218
  refine s_dadd X210 hx (hb hby d3_116) d218 h_d218 Dd218.nn 117 rfl ?_
  refine s_dload X210 hx (hb hby d3_117) rfl 119 rfl ?_
  have Dd219 := Db.add Dd218 H_kc (by decide)
  obtain ⟨d219, h_d219⟩ : ∃ v, FP.dadd d218 kc = v := ⟨_, rfl⟩
  rw [h_d219] at Dd219
  refine s_dadd X210 hx (hb hby d3_119) d219 h_d219 Dd219.nn 120 rfl ?_
  refine s_dloadN X210 hx (hb hby d3_120) rfl 121 rfl ?_
  have Dd220 := Db.mul Dd219 H_t (by decide)
  obtain ⟨d220, h_d220⟩ : ∃ v, FP.dmul d219 t = v := ⟨_, rfl⟩
  rw [h_d220] at Dd220
  refine s_dmul X210 hx (hb hby d3_121) d220 h_d220 Dd220.nn 122 rfl ?_
  have Dd221 := Db.add H_7 Dd220 (by decide)
  obtain ⟨d221, h_d221⟩ : ∃ v, FP.dadd f7 d220 = v := ⟨_, rfl⟩
  rw [h_d221] at Dd221
  refine s_dadd X210 hx (hb hby d3_122) d221 h_d221 Dd221.nn 123 rfl ?_
  obtain ⟨T222, h222, X222, e222, W222, st222⟩ := putF X210 hx hZ hown (host := "") (Or.inl (wd hw 32 _ rfl)) Via.refl e210 F207 F201 (Or.inl (wd hw 33 _ rfl)) (wd hw 1 _ rfl) (ty := .double) (by decide) rfl rfl (g := (mkF m 123 #[.val (.ref a1), .val (.double t), .second, .val (.double k), .second, .val (.double ks), .second, .val (.double kc), .second, .val (.double j), .second, .val (.double js), .second] [.double d221, .ref a1])) rfl rfl (hb hby d3_123)
  have N222 := Fr.snoc X222 N199 g1
  have F223 := F207.same W222
  have F224 := F201.wr W222
  have F225 := F202.other W222 (Or.inr (slot_ne (a0 := a0) (t := .double) (t' := .double) (Or.inl (wd hw 25 _ rfl)) (Or.inl (wd hw 33 _ rfl)) (by decide) (by decide) (by decide)))
  have F226 := F203.other W222 (Or.inr (slot_ne (a0 := a0) (t := .double) (t' := .double) (Or.inl (wd hw 27 _ rfl)) (Or.inl (wd hw 33 _ rfl)) (by decide) (by decide) (by decide)))
  have F227 := F204.other W222 (Or.inr (slot_ne (a0 := a0) (t := .double) (t' := .double) (Or.inl (wd hw 29 _ rfl)) (Or.inl (wd hw 33 _ rfl)) (by decide) (by decide) (by decide)))
  have F228 := F205.other W222 (Or.inr (slot_ne (a0 := a0) (t := .double) (t' := .double) (Or.inl (wd hw 16 _ rfl)) (Or.inl (wd hw 33 _ rfl)) (by decide) (by decide) (by decide)))
  have F229 := F206.other W222 (Or.inr (slot_ne (a0 := a0) (t := .double) (t' := .double) (Or.inl (wd hw 18 _ rfl)) (Or.inl (wd hw 33 _ rfl)) (by decide) (by decide) (by decide)))
  have F230 := F200.other W222 (Or.inr (slot_ne (a0 := a0) (t := .double) (t' := .double) (Or.inl (wd hw 31 _ rfl)) (Or.inl (wd hw 33 _ rfl)) (by decide) (by decide) (by decide)))
  have Z231 : n0 ≤ h222.size := by rw [W222.size]; exact Z208
  have K232 := K209.wr W222 (Or.inl (by simp))
  refine Go.via st222 ?_
  show Go p e below _ (T222.setTop (mkF m 126 #[.val (.ref a1), .val (.double t), .second, .val (.double k), .second, .val (.double ks), .second, .val (.double kc), .second, .val (.double j), .second, .val (.double js), .second] []))
  exact retV X222 hx hlk hret (hb hby d3_126) e222 ⟨rfl, N222, K232, d121, d135, d152, d166, d183, d198, d221, ⟨F225, Dd121.weak (by decide)⟩, ⟨F226, Dd135.weak (by decide)⟩, ⟨F227, Dd152.weak (by decide)⟩, ⟨F228, Dd166.weak (by decide)⟩, ⟨F229, Dd183.weak (by decide)⟩, ⟨F230, Dd198.weak (by decide)⟩, ⟨F223, Dd221.weak (by decide)⟩⟩ (by decide) (by decide)
theorem d4_0 : decode method_2_code 0 = .ok (.lload_n 0, 1) := by decide +kernel
theorem d4_1 : decode method_2_code 1 = .ok (.lload_n 2, 1) := by decide +kernel
theorem d4_2 : decode method_2_code 2 = .ok (.lload_n 2, 1) := by decide +kernel
theorem d4_3 : decode method_2_code 3 = .ok (.lmul, 1) := by decide +kernel
theorem d4_4 : decode method_2_code 4 = .ok (.lload_n 2, 1) := by decide +kernel
theorem d4_5 : decode method_2_code 5 = .ok (.ladd, 1) := by decide +kernel
theorem d4_6 : decode method_2_code 6 = .ok (.lload 4, 2) := by decide +kernel
theorem d4_8 : decode method_2_code 8 = .ok (.ladd, 1) := by decide +kernel
theorem d4_9 : decode method_2_code 9 = .ok (.lmul, 1) := by decide +kernel
theorem d4_10 : decode method_2_code 10 = .ok (.lreturn, 1) := by decide +kernel
theorem pd_4 : parseMethodDescriptor "(JJJ)J" = some ⟨[.long, .long, .long], some .long⟩ := by decide +kernel
theorem pn_4 : plainFor (⟨"com/example/entalpi/entalpi/fluids/DerivativesStiffnessPinLaw", "contribution", "(JJJ)J"⟩ : MethodName) = true := plainFor_of_name (by show plainName "com/example/entalpi/entalpi/fluids/DerivativesStiffnessPinLaw" = true; first | (simp [plainName, overriddenIn]; done) | decide +kernel)
set_option maxRecDepth 65536 in
set_option maxHeartbeats 40000000 in
theorem rm_con (l : Launch) (Z : State) (a0 : Array Value) (hw : ∀ d ∈ tables_1, d.before a0 Z = true) (ws : List Jvm.Cond) (t k s1 : Int64) (T K S1 : Int) (h0 : Heap) (n0 : Nat) (Z0 : n0 ≤ h0.size) (H_t : Lb 32768 T t) (H_k : Lb 128 K k) (H_s1 : Lb 32768 S1 s1) :
    Ct l Z (⟨"com/example/entalpi/entalpi/fluids/DerivativesStiffnessPinLaw", "contribution", "(JJJ)J"⟩ : MethodName) method_2_code 6 (some .long) ws ({ frames := 0, cells := 0, slots := 0, locals := 0 } : Room) #[.long t, .long k, .long s1] h0 (fun v h L => ∃ r, v = some (.long r) ∧ Fr n0 L ∧ h = h0 ∧ Lb 281474976710656 (T * (K * K + K + S1)) r) := by
  refine Ct.intro pn_4 #[.val (.long t), .second, .val (.long k), .second, .val (.long s1), .second] (fun _ => by first | (simp [entryFrame, mkF, argsToLocals, Value.category, maxLocals]; done) | rfl) ?_
  intro p e s m below meth c T0 X0 hx hZ hby hml hown hnm hret hlk e0
  have N0 := Fr.nil n0
  refine s_lloadN X0 hx (hb hby d4_0) rfl 1 rfl ?_
  refine s_lloadN X0 hx (hb hby d4_1) rfl 2 rfl ?_
  refine s_lloadN X0 hx (hb hby d4_2) rfl 3 rfl ?_
  have B233 := Lb.mul H_k H_k (by decide)
  refine s_lmul X0 hx (hb hby d4_3) (k * k) rfl 4 rfl ?_
  refine s_lloadN X0 hx (hb hby d4_4) rfl 5 rfl ?_
  have B234 := Lb.add B233 H_k (by decide)
  refine s_ladd X0 hx (hb hby d4_5) ((k * k) + k) rfl 6 rfl ?_
  refine s_lload X0 hx (hb hby d4_6) rfl 8 rfl ?_
  have B235 := Lb.add B234 H_s1 (by decide)
  refine s_ladd X0 hx (hb hby d4_8) (((k * k) + k) + s1) rfl 9 rfl ?_
  have B236 := Lb.mul H_t B235 (by decide)
  refine s_lmul X0 hx (hb hby d4_9) (t * (((k * k) + k) + s1)) rfl 10 rfl ?_
  exact retJ X0 hx hlk hret (hb hby d4_10) e0 ⟨_, rfl, N0, rfl, B236.weak (by decide)⟩ (by decide) (by decide)
set_option maxRecDepth 65536 in
set_option maxHeartbeats 40000000 in
theorem rm_law (l : Launch) (Z : State) (a0 : Array Value) (hw : ∀ d ∈ tables_1, d.before a0 Z = true) (ws : List Jvm.Cond) (i0 i1 i2 i3 i4 i5 : Int32) (h0 : Heap) (n0 : Nat) (Z0 : n0 ≤ h0.size)  :
    Ct l Z x code maxLocals ret ws room_1 #[.int i0, .int i1, .int i2, .int i3, .int i4, .int i5] h0 (fun v h L => v = some (.int 1) ∧ Fr n0 L) := by
  refine Ct.intro pn_law #[.val (.int i0), .val (.int i1), .val (.int i2), .val (.int i3), .val (.int i4), .val (.int i5), .unset, .unset, .unset, .unset, .unset, .unset, .unset, .unset, .unset, .unset, .unset, .unset, .unset, .unset, .unset, .unset, .unset, .unset, .unset, .unset, .unset, .unset, .unset] (fun _ => by first | (simp [entryFrame, mkF, argsToLocals, Value.category, maxLocals]; done) | rfl) ?_
  intro p e s m below meth c T0 X0 hx hZ hby hml hown hnm hret hlk e0
  have N0 := Fr.nil n0
  refine s_iloadN X0 hx (hb hby at_0) rfl 1 rfl ?_
  refine s_i2s X0 hx (hb hby at_1) i0.toInt16.toInt32 rfl 2 rfl ?_
  obtain ⟨t1, h_t1⟩ : ∃ v, v = i0.toInt16.toInt32 := ⟨_, rfl⟩
  have B_t1 : Ib 32768 t1.toInt t1 := by rw [h_t1]; exact own_i2s _
  refine s_istore X0 hx (hb hby at_2) #[.val (.int i0), .val (.int i1), .val (.int i2), .val (.int i3), .val (.int i4), .val (.int i5), .val (.int t1), .unset, .unset, .unset, .unset, .unset, .unset, .unset, .unset, .unset, .unset, .unset, .unset, .unset, .unset, .unset, .unset, .unset, .unset, .unset, .unset, .unset, .unset] (by rw [h_t1]; rfl) 4 rfl ?_
  refine s_iloadN X0 hx (hb hby at_4) rfl 5 rfl ?_
  refine s_bipush X0 hx (hb hby at_5) (16 : Int32) rfl 7 rfl ?_
  refine s_ishr X0 hx (hb hby at_7) (i0 >>> ((16 : Int32) &&& 31)) rfl 8 rfl ?_
  refine s_sipush X0 hx (hb hby at_8) (128 : Int32) rfl 11 rfl ?_
  refine s_irem X0 hx (hb hby at_11) (by decide) ((i0 >>> ((16 : Int32) &&& 31)) % (128 : Int32)) rfl 12 rfl ?_
  obtain ⟨k1, h_k1⟩ : ∃ v, v = ((i0 >>> ((16 : Int32) &&& 31)) % (128 : Int32)) := ⟨_, rfl⟩
  have B_k1 : Ib 128 k1.toInt k1 := by rw [h_k1]; exact own_rem _
  refine s_istore X0 hx (hb hby at_12) #[.val (.int i0), .val (.int i1), .val (.int i2), .val (.int i3), .val (.int i4), .val (.int i5), .val (.int t1), .val (.int k1), .unset, .unset, .unset, .unset, .unset, .unset, .unset, .unset, .unset, .unset, .unset, .unset, .unset, .unset, .unset, .unset, .unset, .unset, .unset, .unset, .unset] (by rw [h_k1]; rfl) 14 rfl ?_
  refine s_iloadN X0 hx (hb hby at_14) rfl 15 rfl ?_
  refine s_i2s X0 hx (hb hby at_15) i1.toInt16.toInt32 rfl 16 rfl ?_
  obtain ⟨s1, h_s1⟩ : ∃ v, v = i1.toInt16.toInt32 := ⟨_, rfl⟩
  have B_s1 : Ib 32768 s1.toInt s1 := by rw [h_s1]; exact own_i2s _
  refine s_istore X0 hx (hb hby at_16) #[.val (.int i0), .val (.int i1), .val (.int i2), .val (.int i3), .val (.int i4), .val (.int i5), .val (.int t1), .val (.int k1), .val (.int s1), .unset, .unset, .unset, .unset, .unset, .unset, .unset, .unset, .unset, .unset, .unset, .unset, .unset, .unset, .unset, .unset, .unset, .unset, .unset, .unset] (by rw [h_s1]; rfl) 18 rfl ?_
  refine s_iloadN X0 hx (hb hby at_18) rfl 19 rfl ?_
  refine s_bipush X0 hx (hb hby at_19) (16 : Int32) rfl 21 rfl ?_
  refine s_ishr X0 hx (hb hby at_21) (i1 >>> ((16 : Int32) &&& 31)) rfl 22 rfl ?_
  obtain ⟨j1, h_j1⟩ : ∃ v, v = (i1 >>> ((16 : Int32) &&& 31)) := ⟨_, rfl⟩
  have B_j1 : Ib 32768 j1.toInt j1 := by rw [h_j1]; exact own_sh _
  refine s_istore X0 hx (hb hby at_22) #[.val (.int i0), .val (.int i1), .val (.int i2), .val (.int i3), .val (.int i4), .val (.int i5), .val (.int t1), .val (.int k1), .val (.int s1), .val (.int j1), .unset, .unset, .unset, .unset, .unset, .unset, .unset, .unset, .unset, .unset, .unset, .unset, .unset, .unset, .unset, .unset, .unset, .unset, .unset] (by rw [h_j1]; rfl) 24 rfl ?_
  refine s_iload X0 hx (hb hby at_24) rfl 26 rfl ?_
  refine s_i2s X0 hx (hb hby at_26) i4.toInt16.toInt32 rfl 27 rfl ?_
  obtain ⟨t2, h_t2⟩ : ∃ v, v = i4.toInt16.toInt32 := ⟨_, rfl⟩
  have B_t2 : Ib 32768 t2.toInt t2 := by rw [h_t2]; exact own_i2s _
  refine s_istore X0 hx (hb hby at_27) #[.val (.int i0), .val (.int i1), .val (.int i2), .val (.int i3), .val (.int i4), .val (.int i5), .val (.int t1), .val (.int k1), .val (.int s1), .val (.int j1), .val (.int t2), .unset, .unset, .unset, .unset, .unset, .unset, .unset, .unset, .unset, .unset, .unset, .unset, .unset, .unset, .unset, .unset, .unset, .unset] (by rw [h_t2]; rfl) 29 rfl ?_
  refine s_iload X0 hx (hb hby at_29) rfl 31 rfl ?_
  refine s_bipush X0 hx (hb hby at_31) (16 : Int32) rfl 33 rfl ?_
  refine s_ishr X0 hx (hb hby at_33) (i4 >>> ((16 : Int32) &&& 31)) rfl 34 rfl ?_
  refine s_sipush X0 hx (hb hby at_34) (128 : Int32) rfl 37 rfl ?_
  refine s_irem X0 hx (hb hby at_37) (by decide) ((i4 >>> ((16 : Int32) &&& 31)) % (128 : Int32)) rfl 38 rfl ?_
  obtain ⟨k2, h_k2⟩ : ∃ v, v = ((i4 >>> ((16 : Int32) &&& 31)) % (128 : Int32)) := ⟨_, rfl⟩
  have B_k2 : Ib 128 k2.toInt k2 := by rw [h_k2]; exact own_rem _
  refine s_istore X0 hx (hb hby at_38) #[.val (.int i0), .val (.int i1), .val (.int i2), .val (.int i3), .val (.int i4), .val (.int i5), .val (.int t1), .val (.int k1), .val (.int s1), .val (.int j1), .val (.int t2), .val (.int k2), .unset, .unset, .unset, .unset, .unset, .unset, .unset, .unset, .unset, .unset, .unset, .unset, .unset, .unset, .unset, .unset, .unset] (by rw [h_k2]; rfl) 40 rfl ?_
  refine s_iload X0 hx (hb hby at_40) rfl 42 rfl ?_
  refine s_i2s X0 hx (hb hby at_42) i5.toInt16.toInt32 rfl 43 rfl ?_
  obtain ⟨s2, h_s2⟩ : ∃ v, v = i5.toInt16.toInt32 := ⟨_, rfl⟩
  have B_s2 : Ib 32768 s2.toInt s2 := by rw [h_s2]; exact own_i2s _
  refine s_istore X0 hx (hb hby at_43) #[.val (.int i0), .val (.int i1), .val (.int i2), .val (.int i3), .val (.int i4), .val (.int i5), .val (.int t1), .val (.int k1), .val (.int s1), .val (.int j1), .val (.int t2), .val (.int k2), .val (.int s2), .unset, .unset, .unset, .unset, .unset, .unset, .unset, .unset, .unset, .unset, .unset, .unset, .unset, .unset, .unset, .unset] (by rw [h_s2]; rfl) 45 rfl ?_
  refine s_iload X0 hx (hb hby at_45) rfl 47 rfl ?_
  refine s_bipush X0 hx (hb hby at_47) (16 : Int32) rfl 49 rfl ?_
  refine s_ishr X0 hx (hb hby at_49) (i5 >>> ((16 : Int32) &&& 31)) rfl 50 rfl ?_
  obtain ⟨j2, h_j2⟩ : ∃ v, v = (i5 >>> ((16 : Int32) &&& 31)) := ⟨_, rfl⟩
  have B_j2 : Ib 32768 j2.toInt j2 := by rw [h_j2]; exact own_sh _
  refine s_istore X0 hx (hb hby at_50) #[.val (.int i0), .val (.int i1), .val (.int i2), .val (.int i3), .val (.int i4), .val (.int i5), .val (.int t1), .val (.int k1), .val (.int s1), .val (.int j1), .val (.int t2), .val (.int k2), .val (.int s2), .val (.int j2), .unset, .unset, .unset, .unset, .unset, .unset, .unset, .unset, .unset, .unset, .unset, .unset, .unset, .unset, .unset] (by rw [h_j2]; rfl) 52 rfl ?_
  obtain ⟨T237, h237, X237, e237, E237, A237, D237, -, st237⟩ := newO X0 hx hZ hown (wd hw 0 _ rfl) (wd hw 1 _ rfl) (wd hw 2 _ rfl) e0 (g := (mkF m 52 #[.val (.int i0), .val (.int i1), .val (.int i2), .val (.int i3), .val (.int i4), .val (.int i5), .val (.int t1), .val (.int k1), .val (.int s1), .val (.int j1), .val (.int t2), .val (.int k2), .val (.int s2), .val (.int j2), .unset, .unset, .unset, .unset, .unset, .unset, .unset, .unset, .unset, .unset, .unset, .unset, .unset, .unset, .unset] [])) rfl (hb hby at_52) (by decide) (by decide)
  obtain ⟨a237, g237⟩ : ∃ z, z = h0.size := ⟨_, rfl⟩
  rw [← g237] at A237 D237 st237
  have q238 : n0 ≤ a237 := by rw [g237]; exact Z0
  have Z239 := Nat.le_trans Z0 E237.1
  have F240 : Fld Z h237 a237 "com/example/entalpi/entalpi/fluids/Derivatives" "deltaResidualDelta" "D" (.double (0 : UInt64)) := D237 (Or.inl (wd hw 16 _ rfl)) (ty := .double) (by decide)
  have F241 : Fld Z h237 a237 "com/example/entalpi/entalpi/fluids/Derivatives" "deltaDeltaResidualDeltaDelta" "D" (.double (0 : UInt64)) := D237 (Or.inl (wd hw 18 _ rfl)) (ty := .double) (by decide)
  have F242 : Fld Z h237 a237 "com/example/entalpi/entalpi/fluids/Derivatives" "alpha" "D" (.double (0 : UInt64)) := D237 (Or.inl (wd hw 25 _ rfl)) (ty := .double) (by decide)
  have F243 : Fld Z h237 a237 "com/example/entalpi/entalpi/fluids/Derivatives" "tauAlphaTau" "D" (.double (0 : UInt64)) := D237 (Or.inl (wd hw 27 _ rfl)) (ty := .double) (by decide)
  have F244 : Fld Z h237 a237 "com/example/entalpi/entalpi/fluids/Derivatives" "tauTauAlphaTauTau" "D" (.double (0 : UInt64)) := D237 (Or.inl (wd hw 29 _ rfl)) (ty := .double) (by decide)
  have F245 : Fld Z h237 a237 "com/example/entalpi/entalpi/fluids/Derivatives" "deltaTauResidualDeltaTau" "D" (.double (0 : UInt64)) := D237 (Or.inl (wd hw 31 _ rfl)) (ty := .double) (by decide)
  have F246 : Fld Z h237 a237 "com/example/entalpi/entalpi/fluids/Derivatives" "deltaDeltaDeltaResidualDeltaDeltaDelta" "D" (.double (0 : UInt64)) := D237 (Or.inl (wd hw 33 _ rfl)) (ty := .double) (by decide)
  refine Go.via st237 ?_
  show Go p e below _ (T237.setTop (mkF m 55 #[.val (.int i0), .val (.int i1), .val (.int i2), .val (.int i3), .val (.int i4), .val (.int i5), .val (.int t1), .val (.int k1), .val (.int s1), .val (.int j1), .val (.int t2), .val (.int k2), .val (.int s2), .val (.int j2), .unset, .unset, .unset, .unset, .unset, .unset, .unset, .unset, .unset, .unset, .unset, .unset, .unset, .unset, .unset] [.ref a237]))
  refine s_dup X237 hx (hb hby at_55) rfl 56 rfl ?_
  obtain ⟨v247, T247, L247, X247, hQ247, st247⟩ := callInit X237 hx hZ hown rfl (wd hw 3 _ rfl) (wd hw 4 _ rfl) (wd hw 2 _ rfl) (wd hw 5 _ rfl) (by decide) (rm_init l Z a0 hw [] a237 h237 n0 Z239) e237 (L := #[.val (.int i0), .val (.int i1), .val (.int i2), .val (.int i3), .val (.int i4), .val (.int i5), .val (.int t1), .val (.int k1), .val (.int s1), .val (.int j1), .val (.int t2), .val (.int k2), .val (.int s2), .val (.int j2), .unset, .unset, .unset, .unset, .unset, .unset, .unset, .unset, .unset, .unset, .unset, .unset, .unset, .unset, .unset]) (hb hby at_56) (by rw [hml]; rfl) a237 [] [.ref a237] rfl rfl pd_0 rfl 1 (by show 2 * 0 + _ ≤ _; exact Nat.le_of_eq rfl) (by decide) (by decide) (by decide) (by decide)
  obtain ⟨rfl, N247, hh247⟩ := hQ247
  have M247 := Fr.app N0 N247
  refine Go.via st247 ?_
  show Go p e below _ (T247.setTop (mkF m 59 #[.val (.int i0), .val (.int i1), .val (.int i2), .val (.int i3), .val (.int i4), .val (.int i5), .val (.int t1), .val (.int k1), .val (.int s1), .val (.int j1), .val (.int t2), .val (.int k2), .val (.int s2), .val (.int j2), .unset, .unset, .unset, .unset, .unset, .unset, .unset, .unset, .unset, .unset, .unset, .unset, .unset, .unset, .unset] [.ref a237]))
  refine s_astore X247 hx (hb hby at_59) rfl #[.val (.int i0), .val (.int i1), .val (.int i2), .val (.int i3), .val (.int i4), .val (.int i5), .val (.int t1), .val (.int k1), .val (.int s1), .val (.int j1), .val (.int t2), .val (.int k2), .val (.int s2), .val (.int j2), .val (.ref a237), .unset, .unset, .unset, .unset, .unset, .unset, .unset, .unset, .unset, .unset, .unset, .unset, .unset, .unset] rfl 61 rfl ?_
  refine s_aload X247 hx (hb hby at_61) rfl rfl 63 rfl ?_
  obtain ⟨v248, T248, L248, X248, hQ248, st248⟩ := callVirt X247 hx hZ hown (wd hw 9 _ rfl) (wd hw 10 _ rfl) (wd hw 12 _ rfl) (wd hw 11 _ rfl) (wd hw 2 _ rfl) (wd hw 13 _ rfl) (by decide) (rm_stiff l Z a0 hw [] a237 (0 : UInt64) (0 : UInt64) _ _ h237 n0 Z239 F240 F241 (Db.zero.weak (by decide)) (Db.zero.weak (by decide))) hh247 a237 A237 (L := #[.val (.int i0), .val (.int i1), .val (.int i2), .val (.int i3), .val (.int i4), .val (.int i5), .val (.int t1), .val (.int k1), .val (.int s1), .val (.int j1), .val (.int t2), .val (.int k2), .val (.int s2), .val (.int j2), .val (.ref a237), .unset, .unset, .unset, .unset, .unset, .unset, .unset, .unset, .unset, .unset, .unset, .unset, .unset, .unset]) (hb hby at_63) (by rw [hml]; rfl) [] [] rfl rfl pd_2 rfl 0 (by show 2 * 0 + _ ≤ _; exact Nat.le_of_eq rfl) (by decide) (by decide) (by decide) (by decide)
  obtain ⟨r248, rfl, N248, hh248, H248⟩ := hQ248
  have M248 := Fr.app M247 N248
  refine Go.via st248 ?_
  show Go p e below _ (T248.setTop (mkF m 66 #[.val (.int i0), .val (.int i1), .val (.int i2), .val (.int i3), .val (.int i4), .val (.int i5), .val (.int t1), .val (.int k1), .val (.int s1), .val (.int j1), .val (.int t2), .val (.int k2), .val (.int s2), .val (.int j2), .val (.ref a237), .unset, .unset, .unset, .unset, .unset, .unset, .unset, .unset, .unset, .unset, .unset, .unset, .unset, .unset] [.double r248]))
  refine s_dstore X248 hx (hb hby at_66) #[.val (.int i0), .val (.int i1), .val (.int i2), .val (.int i3), .val (.int i4), .val (.int i5), .val (.int t1), .val (.int k1), .val (.int s1), .val (.int j1), .val (.int t2), .val (.int k2), .val (.int s2), .val (.int j2), .val (.ref a237), .val (.double r248), .second, .unset, .unset, .unset, .unset, .unset, .unset, .unset, .unset, .unset, .unset, .unset, .unset] rfl 68 rfl ?_
  refine s_aload X248 hx (hb hby at_68) rfl rfl 70 rfl ?_
  refine s_iload X248 hx (hb hby at_70) rfl 72 rfl ?_
  have Dd249 := Ib.i2d B_t1
  obtain ⟨d249, h_d249⟩ : ∃ v, (FP.i2d t1) = v := ⟨_, rfl⟩
  rw [h_d249] at Dd249
  refine s_i2d X248 hx (hb hby at_72) d249 h_d249 73 rfl ?_
  refine s_iload X248 hx (hb hby at_73) rfl 75 rfl ?_
  have Dd250 := Ib.i2d B_k1
  obtain ⟨d250, h_d250⟩ : ∃ v, (FP.i2d k1) = v := ⟨_, rfl⟩
  rw [h_d250] at Dd250
  refine s_i2d X248 hx (hb hby at_75) d250 h_d250 76 rfl ?_
  refine s_iload X248 hx (hb hby at_76) rfl 78 rfl ?_
  have Dd251 := Ib.i2d B_s1
  obtain ⟨d251, h_d251⟩ : ∃ v, (FP.i2d s1) = v := ⟨_, rfl⟩
  rw [h_d251] at Dd251
  refine s_i2d X248 hx (hb hby at_78) d251 h_d251 79 rfl ?_
  refine s_iloadN X248 hx (hb hby at_79) rfl 80 rfl ?_
  have Dd252 := Ib.i2d (Ib.any i2)
  obtain ⟨d252, h_d252⟩ : ∃ v, (FP.i2d i2) = v := ⟨_, rfl⟩
  rw [h_d252] at Dd252
  refine s_i2d X248 hx (hb hby at_80) d252 h_d252 81 rfl ?_
  refine s_iload X248 hx (hb hby at_81) rfl 83 rfl ?_
  have Dd253 := Ib.i2d B_j1
  obtain ⟨d253, h_d253⟩ : ∃ v, (FP.i2d j1) = v := ⟨_, rfl⟩
  rw [h_d253] at Dd253
  refine s_i2d X248 hx (hb hby at_83) d253 h_d253 84 rfl ?_
  refine s_iloadN X248 hx (hb hby at_84) rfl 85 rfl ?_
  have Dd254 := Ib.i2d (Ib.any i3)
  obtain ⟨d254, h_d254⟩ : ∃ v, (FP.i2d i3) = v := ⟨_, rfl⟩
  rw [h_d254] at Dd254
  refine s_i2d X248 hx (hb hby at_85) d254 h_d254 86 rfl ?_
  obtain ⟨v255, T255, L255, X255, hQ255, st255⟩ := callVirt X248 hx hZ hown (wd hw 19 _ rfl) (wd hw 20 _ rfl) (wd hw 22 _ rfl) (wd hw 21 _ rfl) (wd hw 2 _ rfl) (wd hw 23 _ rfl) (by decide) (rm_add1 l Z a0 hw [] a237 d249 d250 d251 d252 d253 d254 _ _ _ _ _ _ (0 : UInt64) (0 : UInt64) (0 : UInt64) (0 : UInt64) (0 : UInt64) (0 : UInt64) (0 : UInt64) _ _ _ _ _ _ _ h237 n0 Z239 A237 q238 F242 F243 F244 F240 F241 F245 F246 (Db.zero.weak (by decide)) (Db.zero.weak (by decide)) (Db.zero.weak (by decide)) (Db.zero.weak (by decide)) (Db.zero.weak (by decide)) (Db.zero.weak (by decide)) (Db.zero.weak (by decide)) (Dd249.weak (by decide)) (Dd250.weak (by decide)) (Dd251.weak (by decide)) (Dd252.weak (by decide)) (Dd253.weak (by decide)) (Dd254.weak (by decide))) hh248 a237 A237 (L := #[.val (.int i0), .val (.int i1), .val (.int i2), .val (.int i3), .val (.int i4), .val (.int i5), .val (.int t1), .val (.int k1), .val (.int s1), .val (.int j1), .val (.int t2), .val (.int k2), .val (.int s2), .val (.int j2), .val (.ref a237), .val (.double r248), .second, .unset, .unset, .unset, .unset, .unset, .unset, .unset, .unset, .unset, .unset, .unset, .unset]) (hb hby at_86) (by rw [hml]; rfl) [.double d249, .double d250, .double d251, .double d252, .double d253, .double d254] [] rfl rfl pd_3 rfl 0 (by show 2 * 0 + _ ≤ _; exact Nat.le_of_eq rfl) (by decide) (by decide) (by decide) (by decide)
  obtain ⟨rfl, N255, K255, r255_1, r255_2, r255_3, r255_4, r255_5, r255_6, r255_7, ⟨G255_1, H255_1⟩, ⟨G255_2, H255_2⟩, ⟨G255_3, H255_3⟩, ⟨G255_4, H255_4⟩, ⟨G255_5, H255_5⟩, ⟨G255_6, H255_6⟩, ⟨G255_7, H255_7⟩⟩ := hQ255
  have M255 := Fr.app M248 N255
  have F256 := A237.keep K255
  have Z257 := Nat.le_trans Z239 K255.1
  have e255 : T255.heap = T255.heap := rfl
  refine Go.via st255 ?_
  show Go p e below _ (T255.setTop (mkF m 89 #[.val (.int i0), .val (.int i1), .val (.int i2), .val (.int i3), .val (.int i4), .val (.int i5), .val (.int t1), .val (.int k1), .val (.int s1), .val (.int j1), .val (.int t2), .val (.int k2), .val (.int s2), .val (.int j2), .val (.ref a237), .val (.double r248), .second, .unset, .unset, .unset, .unset, .unset, .unset, .unset, .unset, .unset, .unset, .unset, .unset] []))
  refine s_aload X255 hx (hb hby at_89) rfl rfl 91 rfl ?_
  obtain ⟨v258, T258, L258, X258, hQ258, st258⟩ := callVirt X255 hx hZ hown (wd hw 9 _ rfl) (wd hw 10 _ rfl) (wd hw 12 _ rfl) (wd hw 11 _ rfl) (wd hw 2 _ rfl) (wd hw 13 _ rfl) (by decide) (rm_stiff l Z a0 hw [] a237 r255_4 r255_5 _ _ T255.heap n0 Z257 G255_4 G255_5 (H255_4.weak (by decide)) (H255_5.weak (by decide))) e255 a237 F256 (L := #[.val (.int i0), .val (.int i1), .val (.int i2), .val (.int i3), .val (.int i4), .val (.int i5), .val (.int t1), .val (.int k1), .val (.int s1), .val (.int j1), .val (.int t2), .val (.int k2), .val (.int s2), .val (.int j2), .val (.ref a237), .val (.double r248), .second, .unset, .unset, .unset, .unset, .unset, .unset, .unset, .unset, .unset, .unset, .unset, .unset]) (hb hby at_91) (by rw [hml]; rfl) [] [] rfl rfl pd_2 rfl 0 (by show 2 * 0 + _ ≤ _; exact Nat.le_of_eq rfl) (by decide) (by decide) (by decide) (by decide)
  obtain ⟨r258, rfl, N258, hh258, H258⟩ := hQ258
  have M258 := Fr.app M255 N258
  refine Go.via st258 ?_
  show Go p e below _ (T258.setTop (mkF m 94 #[.val (.int i0), .val (.int i1), .val (.int i2), .val (.int i3), .val (.int i4), .val (.int i5), .val (.int t1), .val (.int k1), .val (.int s1), .val (.int j1), .val (.int t2), .val (.int k2), .val (.int s2), .val (.int j2), .val (.ref a237), .val (.double r248), .second, .unset, .unset, .unset, .unset, .unset, .unset, .unset, .unset, .unset, .unset, .unset, .unset] [.double r258]))
  refine s_dstore X258 hx (hb hby at_94) #[.val (.int i0), .val (.int i1), .val (.int i2), .val (.int i3), .val (.int i4), .val (.int i5), .val (.int t1), .val (.int k1), .val (.int s1), .val (.int j1), .val (.int t2), .val (.int k2), .val (.int s2), .val (.int j2), .val (.ref a237), .val (.double r248), .second, .val (.double r258), .second, .unset, .unset, .unset, .unset, .unset, .unset, .unset, .unset, .unset, .unset] rfl 96 rfl ?_
  refine s_aload X258 hx (hb hby at_96) rfl rfl 98 rfl ?_
  refine s_iload X258 hx (hb hby at_98) rfl 100 rfl ?_
  have Dd259 := Ib.i2d B_t2
  obtain ⟨d259, h_d259⟩ : ∃ v, (FP.i2d t2) = v := ⟨_, rfl⟩
  rw [h_d259] at Dd259
  refine s_i2d X258 hx (hb hby at_100) d259 h_d259 101 rfl ?_
  refine s_iload X258 hx (hb hby at_101) rfl 103 rfl ?_
  have Dd260 := Ib.i2d B_k2
  obtain ⟨d260, h_d260⟩ : ∃ v, (FP.i2d k2) = v := ⟨_, rfl⟩
  rw [h_d260] at Dd260
  refine s_i2d X258 hx (hb hby at_103) d260 h_d260 104 rfl ?_
  refine s_iload X258 hx (hb hby at_104) rfl 106 rfl ?_
  have Dd261 := Ib.i2d B_s2
  obtain ⟨d261, h_d261⟩ : ∃ v, (FP.i2d s2) = v := ⟨_, rfl⟩
  rw [h_d261] at Dd261
  refine s_i2d X258 hx (hb hby at_106) d261 h_d261 107 rfl ?_
  refine s_iloadN X258 hx (hb hby at_107) rfl 108 rfl ?_
  have Dd262 := Ib.i2d (Ib.any i3)
  obtain ⟨d262, h_d262⟩ : ∃ v, (FP.i2d i3) = v := ⟨_, rfl⟩
  rw [h_d262] at Dd262
  refine s_i2d X258 hx (hb hby at_108) d262 h_d262 109 rfl ?_
  refine s_iload X258 hx (hb hby at_109) rfl 111 rfl ?_
  have Dd263 := Ib.i2d B_j2
  obtain ⟨d263, h_d263⟩ : ∃ v, (FP.i2d j2) = v := ⟨_, rfl⟩
  rw [h_d263] at Dd263
  refine s_i2d X258 hx (hb hby at_111) d263 h_d263 112 rfl ?_
  refine s_iloadN X258 hx (hb hby at_112) rfl 113 rfl ?_
  have Dd264 := Ib.i2d (Ib.any i2)
  obtain ⟨d264, h_d264⟩ : ∃ v, (FP.i2d i2) = v := ⟨_, rfl⟩
  rw [h_d264] at Dd264
  refine s_i2d X258 hx (hb hby at_113) d264 h_d264 114 rfl ?_
  obtain ⟨v265, T265, L265, X265, hQ265, st265⟩ := callVirt X258 hx hZ hown (wd hw 19 _ rfl) (wd hw 20 _ rfl) (wd hw 22 _ rfl) (wd hw 21 _ rfl) (wd hw 2 _ rfl) (wd hw 23 _ rfl) (by decide) (rm_add2 l Z a0 hw [] a237 d259 d260 d261 d262 d263 d264 _ _ _ _ _ _ r255_1 r255_2 r255_3 r255_4 r255_5 r255_6 r255_7 _ _ _ _ _ _ _ T255.heap n0 Z257 F256 q238 G255_1 G255_2 G255_3 G255_4 G255_5 G255_6 G255_7 (H255_1.weak (by decide)) (H255_2.weak (by decide)) (H255_3.weak (by decide)) (H255_4.weak (by decide)) (H255_5.weak (by decide)) (H255_6.weak (by decide)) (H255_7.weak (by decide)) (Dd259.weak (by decide)) (Dd260.weak (by decide)) (Dd261.weak (by decide)) (Dd262.weak (by decide)) (Dd263.weak (by decide)) (Dd264.weak (by decide))) hh258 a237 F256 (L := #[.val (.int i0), .val (.int i1), .val (.int i2), .val (.int i3), .val (.int i4), .val (.int i5), .val (.int t1), .val (.int k1), .val (.int s1), .val (.int j1), .val (.int t2), .val (.int k2), .val (.int s2), .val (.int j2), .val (.ref a237), .val (.double r248), .second, .val (.double r258), .second, .unset, .unset, .unset, .unset, .unset, .unset, .unset, .unset, .unset, .unset]) (hb hby at_114) (by rw [hml]; rfl) [.double d259, .double d260, .double d261, .double d262, .double d263, .double d264] [] rfl rfl pd_3 rfl 0 (by show 2 * 0 + _ ≤ _; exact Nat.le_of_eq rfl) (by decide) (by decide) (by decide) (by decide)
  obtain ⟨rfl, N265, K265, r265_1, r265_2, r265_3, r265_4, r265_5, r265_6, r265_7, ⟨G265_1, H265_1⟩, ⟨G265_2, H265_2⟩, ⟨G265_3, H265_3⟩, ⟨G265_4, H265_4⟩, ⟨G265_5, H265_5⟩, ⟨G265_6, H265_6⟩, ⟨G265_7, H265_7⟩⟩ := hQ265
  have M265 := Fr.app M258 N265
  have F266 := F256.keep K265
  have Z267 := Nat.le_trans Z257 K265.1
  have e265 : T265.heap = T265.heap := rfl
  refine Go.via st265 ?_
  show Go p e below _ (T265.setTop (mkF m 117 #[.val (.int i0), .val (.int i1), .val (.int i2), .val (.int i3), .val (.int i4), .val (.int i5), .val (.int t1), .val (.int k1), .val (.int s1), .val (.int j1), .val (.int t2), .val (.int k2), .val (.int s2), .val (.int j2), .val (.ref a237), .val (.double r248), .second, .val (.double r258), .second, .unset, .unset, .unset, .unset, .unset, .unset, .unset, .unset, .unset, .unset] []))
  refine s_aload X265 hx (hb hby at_117) rfl rfl 119 rfl ?_
  obtain ⟨v268, T268, L268, X268, hQ268, st268⟩ := callVirt X265 hx hZ hown (wd hw 9 _ rfl) (wd hw 10 _ rfl) (wd hw 12 _ rfl) (wd hw 11 _ rfl) (wd hw 2 _ rfl) (wd hw 13 _ rfl) (by decide) (rm_stiff l Z a0 hw [] a237 r265_4 r265_5 _ _ T265.heap n0 Z267 G265_4 G265_5 (H265_4.weak (by decide)) (H265_5.weak (by decide))) e265 a237 F266 (L := #[.val (.int i0), .val (.int i1), .val (.int i2), .val (.int i3), .val (.int i4), .val (.int i5), .val (.int t1), .val (.int k1), .val (.int s1), .val (.int j1), .val (.int t2), .val (.int k2), .val (.int s2), .val (.int j2), .val (.ref a237), .val (.double r248), .second, .val (.double r258), .second, .unset, .unset, .unset, .unset, .unset, .unset, .unset, .unset, .unset, .unset]) (hb hby at_119) (by rw [hml]; rfl) [] [] rfl rfl pd_2 rfl 0 (by show 2 * 0 + _ ≤ _; exact Nat.le_of_eq rfl) (by decide) (by decide) (by decide) (by decide)
  obtain ⟨r268, rfl, N268, hh268, H268⟩ := hQ268
  have M268 := Fr.app M265 N268
  refine Go.via st268 ?_
  show Go p e below _ (T268.setTop (mkF m 122 #[.val (.int i0), .val (.int i1), .val (.int i2), .val (.int i3), .val (.int i4), .val (.int i5), .val (.int t1), .val (.int k1), .val (.int s1), .val (.int j1), .val (.int t2), .val (.int k2), .val (.int s2), .val (.int j2), .val (.ref a237), .val (.double r248), .second, .val (.double r258), .second, .unset, .unset, .unset, .unset, .unset, .unset, .unset, .unset, .unset, .unset] [.double r268]))
  refine s_dstore X268 hx (hb hby at_122) #[.val (.int i0), .val (.int i1), .val (.int i2), .val (.int i3), .val (.int i4), .val (.int i5), .val (.int t1), .val (.int k1), .val (.int s1), .val (.int j1), .val (.int t2), .val (.int k2), .val (.int s2), .val (.int j2), .val (.ref a237), .val (.double r248), .second, .val (.double r258), .second, .val (.double r268), .second, .unset, .unset, .unset, .unset, .unset, .unset, .unset, .unset] rfl 124 rfl ?_
  refine s_iload X268 hx (hb hby at_124) rfl 126 rfl ?_
  have B269 := Ib.i2l B_t1
  refine s_i2l X268 hx (hb hby at_126) t1.toInt64 rfl 127 rfl ?_
  refine s_iload X268 hx (hb hby at_127) rfl 129 rfl ?_
  have B270 := Ib.i2l B_k1
  refine s_i2l X268 hx (hb hby at_129) k1.toInt64 rfl 130 rfl ?_
  refine s_iload X268 hx (hb hby at_130) rfl 132 rfl ?_
  have B271 := Ib.i2l B_s1
  refine s_i2l X268 hx (hb hby at_132) s1.toInt64 rfl 133 rfl ?_
  obtain ⟨v272, T272, L272, X272, hQ272, st272⟩ := callStat X268 hx hZ hown (wd hw 35 _ rfl) (wd hw 36 _ rfl) (wd hw 37 _ rfl) (wd hw 38 _ rfl) (by decide) (rm_con l Z a0 hw [] t1.toInt64 k1.toInt64 s1.toInt64 _ _ _ T265.heap n0 Z267 (B269.weak (by decide)) (B270.weak (by decide)) (B271.weak (by decide))) hh268 (L := #[.val (.int i0), .val (.int i1), .val (.int i2), .val (.int i3), .val (.int i4), .val (.int i5), .val (.int t1), .val (.int k1), .val (.int s1), .val (.int j1), .val (.int t2), .val (.int k2), .val (.int s2), .val (.int j2), .val (.ref a237), .val (.double r248), .second, .val (.double r258), .second, .val (.double r268), .second, .unset, .unset, .unset, .unset, .unset, .unset, .unset, .unset]) (hb hby at_133) (by rw [hml]; rfl) [.long t1.toInt64, .long k1.toInt64, .long s1.toInt64] [] rfl rfl pd_4 rfl 0 (by show 2 * 0 + _ ≤ _; exact Nat.le_of_eq rfl) (by decide) (by decide) (by decide) (by decide)
  obtain ⟨r272, rfl, N272, hh272, H272⟩ := hQ272
  have M272 := Fr.app M268 N272
  refine Go.via st272 ?_
  show Go p e below _ (T272.setTop (mkF m 136 #[.val (.int i0), .val (.int i1), .val (.int i2), .val (.int i3), .val (.int i4), .val (.int i5), .val (.int t1), .val (.int k1), .val (.int s1), .val (.int j1), .val (.int t2), .val (.int k2), .val (.int s2), .val (.int j2), .val (.ref a237), .val (.double r248), .second, .val (.double r258), .second, .val (.double r268), .second, .unset, .unset, .unset, .unset, .unset, .unset, .unset, .unset] [.long r272]))
  refine s_lstore X272 hx (hb hby at_136) #[.val (.int i0), .val (.int i1), .val (.int i2), .val (.int i3), .val (.int i4), .val (.int i5), .val (.int t1), .val (.int k1), .val (.int s1), .val (.int j1), .val (.int t2), .val (.int k2), .val (.int s2), .val (.int j2), .val (.ref a237), .val (.double r248), .second, .val (.double r258), .second, .val (.double r268), .second, .val (.long r272), .second, .unset, .unset, .unset, .unset, .unset, .unset] rfl 138 rfl ?_
  refine s_iload X272 hx (hb hby at_138) rfl 140 rfl ?_
  have B273 := Ib.i2l B_t2
  refine s_i2l X272 hx (hb hby at_140) t2.toInt64 rfl 141 rfl ?_
  refine s_iload X272 hx (hb hby at_141) rfl 143 rfl ?_
  have B274 := Ib.i2l B_k2
  refine s_i2l X272 hx (hb hby at_143) k2.toInt64 rfl 144 rfl ?_
  refine s_iload X272 hx (hb hby at_144) rfl 146 rfl ?_
  have B275 := Ib.i2l B_s2
  refine s_i2l X272 hx (hb hby at_146) s2.toInt64 rfl 147 rfl ?_
  obtain ⟨v276, T276, L276, X276, hQ276, st276⟩ := callStat X272 hx hZ hown (wd hw 35 _ rfl) (wd hw 36 _ rfl) (wd hw 37 _ rfl) (wd hw 38 _ rfl) (by decide) (rm_con l Z a0 hw [] t2.toInt64 k2.toInt64 s2.toInt64 _ _ _ T265.heap n0 Z267 (B273.weak (by decide)) (B274.weak (by decide)) (B275.weak (by decide))) hh272 (L := #[.val (.int i0), .val (.int i1), .val (.int i2), .val (.int i3), .val (.int i4), .val (.int i5), .val (.int t1), .val (.int k1), .val (.int s1), .val (.int j1), .val (.int t2), .val (.int k2), .val (.int s2), .val (.int j2), .val (.ref a237), .val (.double r248), .second, .val (.double r258), .second, .val (.double r268), .second, .val (.long r272), .second, .unset, .unset, .unset, .unset, .unset, .unset]) (hb hby at_147) (by rw [hml]; rfl) [.long t2.toInt64, .long k2.toInt64, .long s2.toInt64] [] rfl rfl pd_4 rfl 0 (by show 2 * 0 + _ ≤ _; exact Nat.le_of_eq rfl) (by decide) (by decide) (by decide) (by decide)
  obtain ⟨r276, rfl, N276, hh276, H276⟩ := hQ276
  have M276 := Fr.app M272 N276
  refine Go.via st276 ?_
  show Go p e below _ (T276.setTop (mkF m 150 #[.val (.int i0), .val (.int i1), .val (.int i2), .val (.int i3), .val (.int i4), .val (.int i5), .val (.int t1), .val (.int k1), .val (.int s1), .val (.int j1), .val (.int t2), .val (.int k2), .val (.int s2), .val (.int j2), .val (.ref a237), .val (.double r248), .second, .val (.double r258), .second, .val (.double r268), .second, .val (.long r272), .second, .unset, .unset, .unset, .unset, .unset, .unset] [.long r276]))
  refine s_lstore X276 hx (hb hby at_150) #[.val (.int i0), .val (.int i1), .val (.int i2), .val (.int i3), .val (.int i4), .val (.int i5), .val (.int t1), .val (.int k1), .val (.int s1), .val (.int j1), .val (.int t2), .val (.int k2), .val (.int s2), .val (.int j2), .val (.ref a237), .val (.double r248), .second, .val (.double r258), .second, .val (.double r268), .second, .val (.long r272), .second, .val (.long r276), .second, .unset, .unset, .unset, .unset] rfl 152 rfl ?_
  refine s_lconst X276 hx (hb hby at_152) (1 : Int64) rfl 153 rfl ?_
  refine s_lload X276 hx (hb hby at_153) rfl 155 rfl ?_
  have B277 := Lb.add (Lb.lit 1 (1) (1 : Int64)) H272 (by decide)
  refine s_ladd X276 hx (hb hby at_155) ((1 : Int64) + r272) rfl 156 rfl ?_
  have Dd278 := Lb.l2d B277 (by decide)
  obtain ⟨d278, h_d278⟩ : ∃ v, (FP.l2d ((1 : Int64) + r272)) = v := ⟨_, rfl⟩
  rw [h_d278] at Dd278
  refine s_l2d X276 hx (hb hby at_156) d278 h_d278 157 rfl ?_
  refine s_dstore X276 hx (hb hby at_157) #[.val (.int i0), .val (.int i1), .val (.int i2), .val (.int i3), .val (.int i4), .val (.int i5), .val (.int t1), .val (.int k1), .val (.int s1), .val (.int j1), .val (.int t2), .val (.int k2), .val (.int s2), .val (.int j2), .val (.ref a237), .val (.double r248), .second, .val (.double r258), .second, .val (.double r268), .second, .val (.long r272), .second, .val (.long r276), .second, .val (.double d278), .second, .unset, .unset] rfl 159 rfl ?_
  refine s_lconst X276 hx (hb hby at_159) (1 : Int64) rfl 160 rfl ?_
  refine s_lload X276 hx (hb hby at_160) rfl 162 rfl ?_
  have B279 := Lb.add (Lb.lit 1 (1) (1 : Int64)) H272 (by decide)
  refine s_ladd X276 hx (hb hby at_162) ((1 : Int64) + r272) rfl 163 rfl ?_
  refine s_lload X276 hx (hb hby at_163) rfl 165 rfl ?_
  have B280 := Lb.add B279 H276 (by decide)
  refine s_ladd X276 hx (hb hby at_165) (((1 : Int64) + r272) + r276) rfl 166 rfl ?_
  have Dd281 := Lb.l2d B280 (by decide)
  obtain ⟨d281, h_d281⟩ : ∃ v, (FP.l2d (((1 : Int64) + r272) + r276)) = v := ⟨_, rfl⟩
  rw [h_d281] at Dd281
  refine s_l2d X276 hx (hb hby at_166) d281 h_d281 167 rfl ?_
  refine s_dstore X276 hx (hb hby at_167) #[.val (.int i0), .val (.int i1), .val (.int i2), .val (.int i3), .val (.int i4), .val (.int i5), .val (.int t1), .val (.int k1), .val (.int s1), .val (.int j1), .val (.int t2), .val (.int k2), .val (.int s2), .val (.int j2), .val (.ref a237), .val (.double r248), .second, .val (.double r258), .second, .val (.double r268), .second, .val (.long r272), .second, .val (.long r276), .second, .val (.double d278), .second, .val (.double d281), .second] rfl 169 rfl ?_
  refine s_dload X276 hx (hb hby at_169) rfl 171 rfl ?_
  refine s_dconst1 X276 hx (hb hby at_171) (4607182418800017408 : UInt64) rfl 172 rfl ?_
  refine s_dcmp X276 hx (hb hby at_172) (0 : Int32) (by rw [show FP.dcmp r248 (4607182418800017408 : UInt64) = some .eq from (Db.eq H248 dc_4607182418800017408 (by grind))]; rfl) 173 rfl ?_
  refine s_ifN X276 hx (hb hby at_173) (by decide) 176 rfl ?_
  refine s_dload X276 hx (hb hby at_176) rfl 178 rfl ?_
  refine s_dload X276 hx (hb hby at_178) rfl 180 rfl ?_
  refine s_dcmp X276 hx (hb hby at_180) (0 : Int32) (by rw [show FP.dcmp r258 d278 = some .eq from (Db.eq H258 Dd278 (by grind))]; rfl) 181 rfl ?_
  refine s_ifN X276 hx (hb hby at_181) (by decide) 184 rfl ?_
  refine s_dload X276 hx (hb hby at_184) rfl 186 rfl ?_
  refine s_dload X276 hx (hb hby at_186) rfl 188 rfl ?_
  refine s_dcmp X276 hx (hb hby at_188) (0 : Int32) (by rw [show FP.dcmp r268 d281 = some .eq from (Db.eq H268 Dd281 (by grind))]; rfl) 189 rfl ?_
  refine s_ifN X276 hx (hb hby at_189) (by decide) 192 rfl ?_
  refine s_iconst X276 hx (hb hby at_192) (1 : Int32) rfl 193 rfl ?_
  refine s_goto X276 hx (hb hby at_193) 197 (by decide) (by decide) ?_
  exact retZ X276 hx hlk hret (hb hby at_197) (by decide) hh276 ⟨rfl, M276⟩ (by decide) (by decide)
set_option maxRecDepth 65536 in
set_option maxHeartbeats 40000000 in
theorem comes_1 {Post : Tables → Env → Array Value → State → Outcome → State → Prop} (hpost : ∀ tb e args s v u, (limb_1_1.after args s (.returned v) u = true ∧ limb_1_2.after args s (.returned v) u = true ∧ True) → FrameEnd s (.returned v) u (Jvm.fieldLocs frame_1_writes args s ++ Jvm.arrayLocs frame_1_arrays args s ++ Jvm.staticLocs frame_1_statics s) 16 128 → Post tb e args s (.returned v) u) :
    ArmFor flags0 classFile x code maxLocals ret World_1 tables_1 room_1 Calls_1 rest_1 Pre_1 Post := by
  intro l hfl _ _ p e ha hc hk s m args below hf hA hF happ hP
  obtain ⟨hcalls, hrest, hpre⟩ := hP
  obtain ⟨-, -, -, hnamed, -, -, -, hat⟩ := (Spec.applies_iff hf).mp happ
  obtain ⟨hg, hn⟩ := and_e (Cond.before_iff.mp (show (Jvm.Cond.and given_1 narrow_1).before args s = true from hpre))
  obtain ⟨hg0, hg1⟩ := and_e hg
  obtain ⟨w0, w1, w2, w3, w4, w5, rfl⟩ : ∃ w0 w1 w2 w3 w4 w5 : Value, args = #[w0, w1, w2, w3, w4, w5] := by
    have hs : args.size = 6 := by simpa [Cond.value, given_1] using hg0
    obtain ⟨L⟩ := args
    match L, hs with
    | [w0, w1, w2, w3, w4, w5], _ => exact ⟨w0, w1, w2, w3, w4, w5, rfl⟩
  have hw := fun d (hd : d ∈ tables_1) => atoms_spec (ws := Jvm.Cond.code x code maxLocals ret :: tables_1) hat d (List.mem_cons_of_mem _ hd)
  obtain ⟨ga0, hg2⟩ := and_e hg1
  obtain ⟨ga1, hg3⟩ := and_e hg2
  obtain ⟨ga2, hg4⟩ := and_e hg3
  obtain ⟨ga3, hg5⟩ := and_e hg4
  obtain ⟨ga4, hg6⟩ := and_e hg5
  have ga5 := hg6
  obtain ⟨i0, ei0⟩ := is_v ga0
  obtain rfl : w0 = .int i0 := Option.some.inj ei0
  obtain ⟨i1, ei1⟩ := is_v ga1
  obtain rfl : w1 = .int i1 := Option.some.inj ei1
  obtain ⟨i2, ei2⟩ := is_v ga2
  obtain rfl : w2 = .int i2 := Option.some.inj ei2
  obtain ⟨i3, ei3⟩ := is_v ga3
  obtain rfl : w3 = .int i3 := Option.some.inj ei3
  obtain ⟨i4, ei4⟩ := is_v ga4
  obtain rfl : w4 = .int i4 := Option.some.inj ei4
  obtain ⟨i5, ei5⟩ := is_v ga5
  obtain rfl : w5 = .int i5 := Option.some.inj ei5
  obtain ⟨n, o, h1, h2, h3, _, L, rfl, ⟨rfl, N⟩, hq⟩ := rm_law l s _ hw tables_1 i0 i1 i2 i3 i4 i5 s.heap s.heap.size (Nat.le_refl _) p e ha hc hk s m _ below hf ((Spec.applies_iff_loose hf).mp happ).1 ⟨rfl, State.Warmed39.refl s, rfl⟩ trivial
  refine ⟨n, _, h1, h2, h3, hpost _ _ _ _ _ _ ⟨Cond.after_iff.mpr rfl, Cond.after_iff.mpr (eq_i res_at (Term.int_eval (1)) rfl), trivial⟩ ⟨hq.1, hq.2.1, (hq.2.2.sift fun y hy => Or.inr (N y hy)).mono (by decide) (by decide)⟩⟩
theorem main_1_1 : Claimed_1_1 := comes_1 fun _ _ _ _ _ _ h hF => ⟨h.1, hF⟩
theorem main_1_2 : Claimed_1_2 := comes_1 fun _ _ _ _ _ _ h hF => ⟨h.2.1, hF⟩
end Jvm.Pilot.@@N@@
namespace Jvm.Pilot.@@N@@
open Jvm Jvm.ClassFile Sem Op Lib Jvm.Free Jvm.Stand Jvm.Pilot.@@N@@.Jvm.D
/-! MADE BY PROGRAM (witnessworld.py) out of the Statement's table words and the real class files: 9 classes; the members and pool entries that the words name. The judged class is class 1, her method 2. -/
namespace start1
open Jvm.ClassFile
def u (s : String) : CpInfo := .utf8 (stringToUtf16 s)
/-- a pool by its gaps: so many unusable entries, then the entry; so many at the end -/
def gap : Nat → List CpInfo → List CpInfo
  | 0, r => r
  | n + 1, r => .unusable :: gap n r
def poolList (es : List (Nat × CpInfo)) (last : Nat) : List CpInfo := es.foldr (fun e r => gap e.1 (e.2 :: r)) (gap last [])
def pool (es : List (Nat × CpInfo)) (last : Nat) : Array CpInfo := ⟨poolList es last⟩
def fileOf (pool : Array CpInfo) (this : Nat) (attrs : Array Attribute := #[]) (ms : Array MethodInfo := #[]) (fl : Nat := 33) (sup : Nat := 0) (ifs : Array Nat := #[]) (fds : Array FieldInfo := #[]) : ClassFile where
  minorVersion := 0
  majorVersion := 65
  constantPool := pool
  accessFlags := fl
  thisClass := this
  superClass := sup
  interfaces := ifs
  fields := fds
  methods := ms
  attributes := attrs
def plain (name : String) (sup : Option ClassId) : Class where
  name := name
  kind := .ordinary
  loader := none
  accessFlags := 33
  super := sup
  interfaces := #[]
  cf := none
  fields := #[]
  methods := #[]
  instanceTypes := #[]
  staticTypes := #[]
  resolved := #[]
  callSites := []
  init := .initialized
  statics := none
  mirror := none

def pool0 : Array CpInfo := pool [(5, u "<init>"), (0, u "()V"), (1, .class_ 10), (1, u "java/lang/Object")] 113

def k0c0 : Code := { maxStack := 0, maxLocals := 1, code := object_method_1_code, exceptionTable := #[], attributes := #[] }
def k0m0 : Method := { name := "<init>", desc := "()V", sig := { parameters := [], returnType := none }, accessFlags := 1, code := some k0c0 }
/-- java/lang/Object -/
def k0 : Class := { plain "java/lang/Object" none with
  accessFlags := 33
  interfaces := #[]
  cf := some (fileOf pool0 8 #[] #[{ accessFlags := 1, nameIndex := 5, descriptorIndex := 6, attributes := #[] }] 33 0 #[] #[])
  fields := #[]
  methods := #[k0m0]
  instanceTypes := #[]
  staticTypes := #[]
  resolved := Array.replicate 124 none
  statics := none }

def pool1 : Array CpInfo := pool [(2, .class_ 4), (0, .nameAndType 5 6), (0, u "java/lang/Object"), (0, u "<init>"), (0, u "()V"), (0, .class_ 8), (0, u "com/example/entalpi/entalpi/fluids/Derivatives"), (0, .methodref 7 3), (0, .methodref 7 11), (0, .nameAndType 12 13), (0, u "stiffness"), (0, u "()D"), (0, .methodref 7 15), (0, .nameAndType 16 17), (0, u "addSeparable"), (0, u "(DDDDDD)V"), (0, .methodref 19 20), (0, .class_ 21), (0, .nameAndType 22 23), (0, u "com/example/entalpi/entalpi/fluids/DerivativesStiffnessPinLaw"), (0, u "contribution"), (0, u "(JJJ)J"), (2, u "law"), (0, u "(IIIIII)Z")] 3

def k1m0 : Method := { name := "<init>", desc := "()V", sig := { parameters := [], returnType := none }, accessFlags := 2, code := none }
def k1c1 : Code := { maxStack := 6, maxLocals := 6, code := method_2_code, exceptionTable := #[], attributes := #[] }
def k1m1 : Method := { name := "contribution", desc := "(JJJ)J", sig := { parameters := [.long, .long, .long], returnType := some .long }, accessFlags := 10, code := some k1c1 }
def k1c2 : Code := { maxStack := 13, maxLocals := 29, code := code, exceptionTable := #[], attributes := #[] }
def k1m2 : Method := { name := "law", desc := "(IIIIII)Z", sig := { parameters := [.int, .int, .int, .int, .int, .int], returnType := some .boolean }, accessFlags := 9, code := some k1c2 }
/-- com/example/entalpi/entalpi/fluids/DerivativesStiffnessPinLaw -/
def k1 : Class := { plain "com/example/entalpi/entalpi/fluids/DerivativesStiffnessPinLaw" (some 0) with
  accessFlags := 49
  interfaces := #[]
  cf := some (fileOf pool1 19 #[] #[{ accessFlags := 2, nameIndex := 5, descriptorIndex := 6, attributes := #[] }, { accessFlags := 10, nameIndex := 22, descriptorIndex := 23, attributes := #[] }, { accessFlags := 9, nameIndex := 26, descriptorIndex := 27, attributes := #[] }] 49 2 #[] #[])
  fields := #[]
  methods := #[k1m0, k1m1, k1m2]
  instanceTypes := #[]
  staticTypes := #[]
  resolved := Array.replicate 31 none
  statics := none }

def pool2 : Array CpInfo := pool [(1, .methodref 2 3), (0, .class_ 4), (0, .nameAndType 5 6), (0, u "java/lang/Object"), (0, u "<init>"), (0, u "()V"), (0, .fieldref 8 9), (0, .class_ 10), (0, .nameAndType 11 12), (0, u "com/example/entalpi/entalpi/fluids/Derivatives"), (0, u "alpha"), (0, u "D"), (0, .fieldref 8 14), (0, .nameAndType 15 12), (0, u "tauAlphaTau"), (0, .fieldref 8 17), (0, .nameAndType 18 12), (0, u "tauTauAlphaTauTau"), (0, .fieldref 8 20), (0, .nameAndType 21 12), (0, u "deltaResidualDelta"), (0, .fieldref 8 23), (0, .nameAndType 24 12), (0, u "deltaDeltaResidualDeltaDelta"), (0, .fieldref 8 26), (0, .nameAndType 27 12), (0, u "deltaTauResidualDeltaTau"), (0, .fieldref 8 29), (0, .nameAndType 30 12), (0, u "deltaDeltaDeltaResidualDeltaDeltaDelta"), (0, .double 4611686018427387904), (1, .double 4613937818241073152), (6, u "()D"), (2, u "stiffness"), (2, u "addSeparable"), (0, u "(DDDDDD)V")] 5

def k2c0 : Code := { maxStack := 1, maxLocals := 1, code := prog_7_method_1_code, exceptionTable := #[], attributes := #[] }
def k2m0 : Method := { name := "<init>", desc := "()V", sig := { parameters := [], returnType := none }, accessFlags := 0, code := some k2c0 }
def k2c1 : Code := { maxStack := 11, maxLocals := 13, code := prog_7_method_2_code, exceptionTable := #[], attributes := #[] }
def k2m1 : Method := { name := "addSeparable", desc := "(DDDDDD)V", sig := { parameters := [.double, .double, .double, .double, .double, .double], returnType := none }, accessFlags := 0, code := some k2c1 }
def k2c2 : Code := { maxStack := 6, maxLocals := 1, code := prog_7_method_4_code, exceptionTable := #[], attributes := #[] }
def k2m2 : Method := { name := "stiffness", desc := "()D", sig := { parameters := [], returnType := some .double }, accessFlags := 0, code := some k2c2 }
/-- com/example/entalpi/entalpi/fluids/Derivatives -/
def k2 : Class := { plain "com/example/entalpi/entalpi/fluids/Derivatives" (some 0) with
  accessFlags := 48
  interfaces := #[]
  cf := some (fileOf pool2 8 #[] #[{ accessFlags := 0, nameIndex := 5, descriptorIndex := 6, attributes := #[] }, { accessFlags := 0, nameIndex := 46, descriptorIndex := 47, attributes := #[] }, { accessFlags := 0, nameIndex := 43, descriptorIndex := 40, attributes := #[] }] 48 2 #[] #[{ accessFlags := 0, nameIndex := 11, descriptorIndex := 12, attributes := #[] }, { accessFlags := 0, nameIndex := 15, descriptorIndex := 12, attributes := #[] }, { accessFlags := 0, nameIndex := 18, descriptorIndex := 12, attributes := #[] }, { accessFlags := 0, nameIndex := 21, descriptorIndex := 12, attributes := #[] }, { accessFlags := 0, nameIndex := 24, descriptorIndex := 12, attributes := #[] }, { accessFlags := 0, nameIndex := 27, descriptorIndex := 12, attributes := #[] }, { accessFlags := 0, nameIndex := 30, descriptorIndex := 12, attributes := #[] }])
  fields := #[{ name := "alpha", type := .double, accessFlags := 0, slot := 0, constantValue := 0 }, { name := "tauAlphaTau", type := .double, accessFlags := 0, slot := 1, constantValue := 0 }, { name := "tauTauAlphaTauTau", type := .double, accessFlags := 0, slot := 2, constantValue := 0 }, { name := "deltaResidualDelta", type := .double, accessFlags := 0, slot := 3, constantValue := 0 }, { name := "deltaDeltaResidualDeltaDelta", type := .double, accessFlags := 0, slot := 4, constantValue := 0 }, { name := "deltaTauResidualDeltaTau", type := .double, accessFlags := 0, slot := 5, constantValue := 0 }, { name := "deltaDeltaDeltaResidualDeltaDeltaDelta", type := .double, accessFlags := 0, slot := 6, constantValue := 0 }]
  methods := #[k2m0, k2m1, k2m2]
  instanceTypes := #[.double, .double, .double, .double, .double, .double, .double]
  staticTypes := #[]
  resolved := Array.replicate 53 none
  statics := none }

def pool3 : Array CpInfo := pool [(1, u "java/lang/Cloneable"), (0, .class_ 1), (0, u "java/lang/Object"), (0, .class_ 3)] 3

/-- java/lang/Cloneable -/
def k3 : Class := { plain "java/lang/Cloneable" (some 0) with
  accessFlags := 1537
  interfaces := #[]
  cf := some (fileOf pool3 2 #[] #[] 1537 4 #[] #[])
  fields := #[]
  methods := #[]
  instanceTypes := #[]
  staticTypes := #[]
  resolved := Array.replicate 8 none
  statics := none }

def pool4 : Array CpInfo := pool [(1, u "java/io/Serializable"), (0, .class_ 1), (0, u "java/lang/Object"), (0, .class_ 3)] 3

/-- java/io/Serializable -/
def k4 : Class := { plain "java/io/Serializable" (some 0) with
  accessFlags := 1537
  interfaces := #[]
  cf := some (fileOf pool4 2 #[] #[] 1537 4 #[] #[])
  fields := #[]
  methods := #[]
  instanceTypes := #[]
  staticTypes := #[]
  resolved := Array.replicate 8 none
  statics := none }

/-- the primitive byte -/
def k5 : Class := { plain "byte" none with kind := .primitive 'B', accessFlags := 0x411 }
/-- [B -/
def k6 : Class := { plain "[B" (some 0) with kind := .array 5 .byte, interfaces := #[3, 4], accessFlags := 1041 }

/-- the primitive int -/
def k7 : Class := { plain "int" none with kind := .primitive 'I', accessFlags := 0x411 }
/-- [I -/
def k8 : Class := { plain "[I" (some 0) with kind := .array 7 .int, interfaces := #[3, 4], accessFlags := 1041 }

def heap : Heap := #[]
def classes : Array Class := #[k0, k1, k2, k3, k4, k5, k6, k7, k8]
def interned : List (Array UInt16 × Addr) := []
def slotsUsed : Nat := 0
def theMethod : MethodId := ⟨1, 2⟩
def args0 : Array Value := #[.int 3, .int 2, .int 5, .int 1, .int 2, .int 4]
def aboutOver (below : List Frame) : State where
  vm := { classes := classes, interned := interned.toArray }
  heap := heap
  slotsUsed := slotsUsed
  threads := #[{ frames := .invoking theMethod args0 :: below }]
def below0 : List Frame := [.native { method := ⟨0, 0⟩, args := #[] }]
def about1 : State := aboutOver below0
def p0 : Program := .bare "" "" ""
def e0 : Env := launch0.env 0 0 0
theorem w_frames : about1.frames = Frame.invoking theMethod args0 :: below0 := rfl
set_option maxRecDepth 65536 in
theorem w_args : argsFit about1.vm theMethod args0 = true := by decide +kernel
set_option maxRecDepth 65536 in
theorem w_heap : heapFits about1 = true := by decide +kernel
set_option maxRecDepth 65536 in
theorem w_runnable : about1.curStatus? = some .runnable := by decide +kernel
set_option maxRecDepth 65536 in
theorem w_alone : about1.alone = true := by decide +kernel
set_option maxRecDepth 65536 in
theorem w_named : about1.methodNamed? x = some theMethod := by decide +kernel
set_option maxRecDepth 65536 in
theorem w_hears : about1.hears theMethod below0 = true := by decide +kernel
set_option maxRecDepth 65536 in
theorem w_ripe : about1.ripe theMethod args0 below0 = true := by decide +kernel
theorem w_running : about1.status = .running := rfl
set_option maxRecDepth 65536 in
theorem w_room : about1.hasRoom e0.platform room_1 = true :=
  launch0.hasRoom_least _ room_1 (by decide +kernel) (by decide +kernel) (by decide +kernel) (by decide +kernel) (by decide +kernel) (by decide +kernel)
theorem allAtoms_all (ts : List Jvm.Cond) (a : Array Jvm.Value) (st : Jvm.State) : (allAtoms ts).before a st = ts.all (fun c => c.before a st) := by
  induction ts with
  | nil => rfl
  | cons c t ih =>
    show (Jvm.Cond.and c (allAtoms t)).before a st = _
    rw [Jvm.Cond.before_and, ih, List.all_cons]
def words1 : List Jvm.Cond := Jvm.Cond.code x code maxLocals ret :: tables_1
/-- a 'code' word, met by the world's own term for the bytes: nothing is compared byte by byte -/
theorem code_word {y : MethodName} {bytes : ByteArray} {mx : Nat} {rt : Option FieldType} {a : Array Value} {s : State} {m : MethodId} {meth : Method} {c : Code} (h1 : s.methodNamed? y = some m) (h2 : s.vm.method? m = some meth) (h3 : meth.code = some c) (h4 : c.code = bytes)
    (h5 : (c.maxLocals == mx && c.exceptionTable.isEmpty && decide (c.maxStack ≤ mostOperands) && decide (meth.sig.returnType = rt) && !meth.locks && decide (parseMethodDescriptor y.desc = some meth.sig)) = true) : (Jvm.Cond.code y bytes mx rt).before a s = true := by
  simp only [Bool.and_eq_true, beq_iff_eq, Bool.not_eq_true', decide_eq_true_eq] at h5
  obtain ⟨⟨⟨⟨⟨g1, g2⟩, g3⟩, g4⟩, g5⟩, g6⟩ := h5
  simp [Cond.before, Cond.holds, Cond.value, h1, h2, h3, h4, g1, g2, g3, g4, g5, g6]
def isCode : Jvm.Cond → Bool
  | .code _ _ _ _ => true
  | _ => false
theorem all_split {L : List Jvm.Cond} {P : Jvm.Cond → Bool} (h1 : L.all (fun c => isCode c || P c) = true) (h2 : ∀ c ∈ L.filter isCode, P c = true) : L.all P = true := by
  refine List.all_eq_true.mpr fun c hc => ?_
  have h := List.all_eq_true.mp h1 c hc
  rcases Bool.eq_false_or_eq_true (isCode c) with hi | hi
  · exact h2 c (List.mem_filter.mpr ⟨hc, hi⟩)
  · simpa [hi] using h
set_option maxRecDepth 65536 in
theorem w_c0 : (Jvm.Cond.code x code maxLocals ret).before args0 about1 = true := code_word (m := ⟨1, 2⟩) (meth := k1m2) (c := k1c2) (by decide +kernel) rfl rfl rfl (by decide +kernel)
set_option maxRecDepth 65536 in
theorem w_c1 : (Jvm.Cond.code ({ cls := "com/example/entalpi/entalpi/fluids/Derivatives", name := "<init>", desc := "()V" } : Jvm.MethodName) prog_7_method_1_code (1 : Nat) (Option.none : Option Jvm.ClassFile.FieldType)).before args0 about1 = true := code_word (m := ⟨2, 0⟩) (meth := k2m0) (c := k2c0) (by decide +kernel) rfl rfl rfl (by decide +kernel)
set_option maxRecDepth 65536 in
theorem w_c2 : (Jvm.Cond.code ({ cls := "java/lang/Object", name := "<init>", desc := "()V" } : Jvm.MethodName) object_method_1_code (1 : Nat) (Option.none : Option Jvm.ClassFile.FieldType)).before args0 about1 = true := code_word (m := ⟨0, 0⟩) (meth := k0m0) (c := k0c0) (by decide +kernel) rfl rfl rfl (by decide +kernel)
set_option maxRecDepth 65536 in
theorem w_c3 : (Jvm.Cond.code ({ cls := "com/example/entalpi/entalpi/fluids/Derivatives", name := "stiffness", desc := "()D" } : Jvm.MethodName) prog_7_method_4_code (1 : Nat) (Option.some Jvm.ClassFile.FieldType.double)).before args0 about1 = true := code_word (m := ⟨2, 2⟩) (meth := k2m2) (c := k2c2) (by decide +kernel) rfl rfl rfl (by decide +kernel)
set_option maxRecDepth 65536 in
theorem w_c4 : (Jvm.Cond.code ({ cls := "com/example/entalpi/entalpi/fluids/Derivatives", name := "addSeparable", desc := "(DDDDDD)V" } : Jvm.MethodName) prog_7_method_2_code (13 : Nat) (Option.none : Option Jvm.ClassFile.FieldType)).before args0 about1 = true := code_word (m := ⟨2, 1⟩) (meth := k2m1) (c := k2c1) (by decide +kernel) rfl rfl rfl (by decide +kernel)
set_option maxRecDepth 65536 in
theorem w_c5 : (Jvm.Cond.code ({ cls := "com/example/entalpi/entalpi/fluids/DerivativesStiffnessPinLaw", name := "contribution", desc := "(JJJ)J" } : Jvm.MethodName) method_2_code (6 : Nat) (Option.some Jvm.ClassFile.FieldType.long)).before args0 about1 = true := code_word (m := ⟨1, 1⟩) (meth := k1m1) (c := k1c1) (by decide +kernel) rfl rfl rfl (by decide +kernel)
def codes1 : List Jvm.Cond := [Jvm.Cond.code x code maxLocals ret, Jvm.Cond.code ({ cls := "com/example/entalpi/entalpi/fluids/Derivatives", name := "<init>", desc := "()V" } : Jvm.MethodName) prog_7_method_1_code (1 : Nat) (Option.none : Option Jvm.ClassFile.FieldType), Jvm.Cond.code ({ cls := "java/lang/Object", name := "<init>", desc := "()V" } : Jvm.MethodName) object_method_1_code (1 : Nat) (Option.none : Option Jvm.ClassFile.FieldType), Jvm.Cond.code ({ cls := "com/example/entalpi/entalpi/fluids/Derivatives", name := "stiffness", desc := "()D" } : Jvm.MethodName) prog_7_method_4_code (1 : Nat) (Option.some Jvm.ClassFile.FieldType.double), Jvm.Cond.code ({ cls := "com/example/entalpi/entalpi/fluids/Derivatives", name := "addSeparable", desc := "(DDDDDD)V" } : Jvm.MethodName) prog_7_method_2_code (13 : Nat) (Option.none : Option Jvm.ClassFile.FieldType), Jvm.Cond.code ({ cls := "com/example/entalpi/entalpi/fluids/DerivativesStiffnessPinLaw", name := "contribution", desc := "(JJJ)J" } : Jvm.MethodName) method_2_code (6 : Nat) (Option.some Jvm.ClassFile.FieldType.long)]
set_option maxRecDepth 65536 in
theorem codes_eq : words1.filter isCode = codes1 := rfl
theorem w_codes : ∀ c ∈ words1.filter isCode, c.before args0 about1 = true := by
  rw [codes_eq]
  intro c hc
  simp only [codes1, List.mem_cons, List.not_mem_nil, or_false] at hc
  rcases hc with rfl | rfl | rfl | rfl | rfl | rfl
  · exact w_c0
  · exact w_c1
  · exact w_c2
  · exact w_c3
  · exact w_c4
  · exact w_c5
set_option maxRecDepth 65536 in
theorem w_t1 : (words1.take 24).all (fun c => isCode c || c.before args0 about1) = true := by decide +kernel
set_option maxRecDepth 65536 in
theorem w_t2 : (words1.drop 24).all (fun c => isCode c || c.before args0 about1) = true := by decide +kernel
theorem w_tables : (allAtoms (Jvm.Cond.code x code maxLocals ret :: tables_1)).before args0 about1 = true := by
  rw [allAtoms_all]
  show words1.all (fun c => c.before args0 about1) = true
  refine all_split ?_ w_codes
  rw [← List.take_append_drop 24 words1, List.all_append, w_t1, w_t2]
  rfl
set_option maxRecDepth 65536 in
theorem w_case : (Jvm.Cond.and given_1 narrow_1).before args0 about1 = true := by decide +kernel
theorem w_applies : (headSpec (Jvm.Cond.code x code maxLocals ret :: tables_1) room_1).applies x e0.platform about1 = true :=
  (Spec.applies_iff w_frames).mpr ⟨w_running, w_runnable, w_alone, w_named, w_hears, w_ripe, w_room, w_tables⟩
theorem atStart : AtStart classFile x code maxLocals ret World_1 tables_1 room_1 Calls_1 rest_1 Pre_1 launch0 p0 e0 about1 theMethod args0 below0 :=
  ⟨lists_1, trivial, launch0.admits_env _ _ _, launch0.least_env, fairChoices_fair.cas, fairChoices_fair.clock, w_frames, w_args, w_heap, w_applies, trivial, trivial, w_case⟩
end start1
theorem witness_1 : WitnessClaimed_1 := ⟨start1.p0, start1.e0, start1.about1, start1.theMethod, start1.args0, start1.below0, start1.atStart⟩
end Jvm.Pilot.@@N@@
