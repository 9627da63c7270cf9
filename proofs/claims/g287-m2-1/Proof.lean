import JvmDerived
import JvmDerived.Pilot.@@N@@Statement
import JvmDerived.Pilot.@@N@@Code
set_option linter.unusedVariables false
set_option linter.unusedSimpArgs false
namespace Jvm.OwnGo
open Sem ClassFile Op Lib Jvm.Stand Jvm.Free Jvm.LawKit Jvm.RoadKit Jvm.Free.Fl
/-- from S the run comes to an end of which P speaks -/
def Go (p : Program) (e : Env) (below : List Frame) (P : Outcome → State → Prop) (S : State) : Prop := ∃ s₂ o, Steps p.tables e below S s₂ ∧ s₂.status = .running ∧ Ended s₂ below o ∧ P o s₂
/-- what a body's end says -/
def EndsAt (s : State) (Q : Option Value → Heap → List Loc → Prop) (rm : Room) : Outcome → State → Prop := fun o U' => ∃ v L, o = .returned v ∧ Q v U'.heap L ∧ FrameEnd s o U' L rm.cells rm.slots
/-- a body's contract -/
def Ct (l : Launch) (Z : State) (y : MethodName) (bytes : ByteArray) (ml : Nat) (ret : Option FieldType) (ws : List Jvm.Cond) (rm : Room) (as : Array Value) (h0 : Heap) (Q : Option Value → Heap → List Loc → Prop) : Prop :=
  MetFree l y (head1 (Jvm.Cond.code y bytes ml ret :: ws) rm) (fun a U => a = as ∧ Z.Warmed39 U.vm ∧ U.heap = h0) (fun _ _ _ _ _ => True) (fun _ U o U' => EndsAt U Q rm o U')
section Steps1
variable {p : Program} {l : Launch} {e : Env} {R : Room} {s : State} {m : MethodId} {args : Array Value} {below : List Frame} {meth : Method} {c : Code} {T : State} {locs : List Loc} {cells slots : Nat} {P : Outcome → State → Prop} {pc : Nat} {L L' : Array Slot} {st : List Value} {Z : State} {h h' : Heap} {a0 : Array Value} {rm : Room} {Q : Option Value → Heap → List Loc → Prop}
theorem Go.via {S S' : State} (k : ∀ t, Steps p.tables e below S' t → Steps p.tables e below S t) (g : Go p e below P S') : Go p e below P S := by
  obtain ⟨s2, o, h1, h2⟩ := g; exact ⟨s2, o, k _ h1, h2⟩
theorem Go.tr {S S' : State} (k : Steps p.tables e below S S') (g : Go p e below P S') : Go p e below P S := by
  obtain ⟨s2, o, h1, h2⟩ := g; exact ⟨s2, o, k.trans h1, h2⟩
theorem Ct.intro {y : MethodName} {bytes : ByteArray} {ml : Nat} {ret : Option FieldType} {ws : List Jvm.Cond} {as : Array Value} {h0 : Heap} (hpn : plainFor y = true) (L0 : Array Slot) (hef : ∀ m, entryFrame m as ml = mkF m 0 L0 [])
    (k : ∀ (p : Program) (e : Env) (s : State) (m : MethodId) (below : List Frame) (meth : Method) (c : Code) (T : State), Stand p l e rm s m as below meth c T [] 0 0 → p.tables.exec = Jvm.exec → Z.Warmed39 s.vm → c.code = bytes → c.maxLocals = ml → s.vm.findClass y.cls = some m.cls → meth.name = y.name → meth.sig.returnType = ret → meth.locks = false → T.heap = h0 → Go p e below (EndsAt s Q rm) (T.setTop (mkF m 0 L0 []))) :
    Ct l Z y bytes ml ret ws rm as h0 Q := by
  refine MetFree.of_bodySF hpn hisR ?_
  intro p e s m args below meth c s₁ Bd hml0 hP hK
  obtain ⟨rfl, hZ, hh⟩ := hP
  obtain ⟨s2, o, h1, h2, h3, h4⟩ := k p e s m below meth c s₁ (Stand.of_body Bd) Bd.exec hZ Bd.bytes hml0 (findClass_of_methodNamed Bd.named) (name_of_methodNamed Bd.named Bd.method).1 Bd.returns (BodyLoose.notSynchronized Bd) (by rw [← hh, Bd.state]; rfl)
  exact ⟨s2, o, castTop (hef m) h1, h2, h3, h4⟩
theorem retW (X : Stand p l e R s m args below meth c T locs cells slots) (hx : p.tables.exec = Jvm.exec) (hlk : meth.locks = false) {w : Value} {t : FieldType} {i : Instr} {rest : List Value} (hret : meth.sig.returnType = some t) (hn : narrow t w = w)
    (hi : (i = .ireturn ∧ (t = .int ∨ t = .boolean ∨ t = .byte ∨ t = .char ∨ t = .short) ∧ ∃ z, w = .int z) ∨ (i = .lreturn ∧ t = .long ∧ ∃ z, w = .long z) ∨ (i = .dreturn ∧ t = .double ∧ ∃ z, w = .double z) ∨ (i = .freturn ∧ t = .float ∧ ∃ z, w = .float z) ∨ (i = .areturn ∧ t.isReference = true ∧ w.isRef = true))
    (hd : decode c.code pc = .ok (i, 1)) (eT : T.heap = h) (hq : Q (some w) h locs) (hc : cells ≤ rm.cells) (hs : slots ≤ rm.slots) : Go p e below (EndsAt s Q rm) (T.setTop (mkF m pc L (w :: rest))) := by
  obtain ⟨fs, hr, hrun, hended, hW, hsame⟩ := X.leave (v := some w) (fun q => by rw [hret] at q; cases q) hlk
  refine ⟨_, _, retOut X hx hret hn hi hd hr, hrun, hended, _, _, rfl, ?_, ⟨_, rfl⟩, hW, hsame.mono hc hs⟩
  show Q (some w) T.heap locs
  rw [eT]; exact hq
theorem retI (X : Stand p l e R s m args below meth c T locs cells slots) (hx : p.tables.exec = Jvm.exec) (hlk : meth.locks = false) {z : Int32} {rest : List Value} (hret : meth.sig.returnType = some .int) (hd : decode c.code pc = .ok (.ireturn, 1)) (eT : T.heap = h) (hq : Q (some (.int z)) h locs) (hc : cells ≤ rm.cells) (hs : slots ≤ rm.slots) : Go p e below (EndsAt s Q rm) (T.setTop (mkF m pc L (.int z :: rest))) :=
  retW X hx hlk hret rfl (Or.inl ⟨rfl, Or.inl rfl, z, rfl⟩) hd eT hq hc hs
theorem retZ (X : Stand p l e R s m args below meth c T locs cells slots) (hx : p.tables.exec = Jvm.exec) (hlk : meth.locks = false) {z : Int32} {rest : List Value} (hret : meth.sig.returnType = some .boolean) (hd : decode c.code pc = .ok (.ireturn, 1)) (hn : narrow .boolean (.int z) = .int z) (eT : T.heap = h) (hq : Q (some (.int z)) h locs) (hc : cells ≤ rm.cells) (hs : slots ≤ rm.slots) : Go p e below (EndsAt s Q rm) (T.setTop (mkF m pc L (.int z :: rest))) :=
  retW X hx hlk hret hn (Or.inl ⟨rfl, Or.inr (Or.inl rfl), z, rfl⟩) hd eT hq hc hs
theorem retJ (X : Stand p l e R s m args below meth c T locs cells slots) (hx : p.tables.exec = Jvm.exec) (hlk : meth.locks = false) {z : Int64} {rest : List Value} (hret : meth.sig.returnType = some .long) (hd : decode c.code pc = .ok (.lreturn, 1)) (eT : T.heap = h) (hq : Q (some (.long z)) h locs) (hc : cells ≤ rm.cells) (hs : slots ≤ rm.slots) : Go p e below (EndsAt s Q rm) (T.setTop (mkF m pc L (.long z :: rest))) :=
  retW X hx hlk hret rfl (Or.inr (Or.inl ⟨rfl, rfl, z, rfl⟩)) hd eT hq hc hs
theorem retD (X : Stand p l e R s m args below meth c T locs cells slots) (hx : p.tables.exec = Jvm.exec) (hlk : meth.locks = false) {z : UInt64} {rest : List Value} (hret : meth.sig.returnType = some .double) (hd : decode c.code pc = .ok (.dreturn, 1)) (eT : T.heap = h) (hq : Q (some (.double z)) h locs) (hc : cells ≤ rm.cells) (hs : slots ≤ rm.slots) : Go p e below (EndsAt s Q rm) (T.setTop (mkF m pc L (.double z :: rest))) :=
  retW X hx hlk hret rfl (Or.inr (Or.inr (Or.inl ⟨rfl, rfl, z, rfl⟩))) hd eT hq hc hs
theorem retA (X : Stand p l e R s m args below meth c T locs cells slots) (hx : p.tables.exec = Jvm.exec) (hlk : meth.locks = false) {t : FieldType} {z : Addr} {rest : List Value} (hret : meth.sig.returnType = some t) (ht : t.isReference = true) (hn : narrow t (.ref z) = .ref z) (hd : decode c.code pc = .ok (.areturn, 1)) (eT : T.heap = h) (hq : Q (some (.ref z)) h locs) (hc : cells ≤ rm.cells) (hs : slots ≤ rm.slots) : Go p e below (EndsAt s Q rm) (T.setTop (mkF m pc L (.ref z :: rest))) :=
  retW X hx hlk hret hn (Or.inr (Or.inr (Or.inr (Or.inr ⟨rfl, ht, rfl⟩)))) hd eT hq hc hs
theorem retV (X : Stand p l e R s m args below meth c T locs cells slots) (hx : p.tables.exec = Jvm.exec) (hlk : meth.locks = false) (hret : meth.sig.returnType = none) (hd : decode c.code pc = .ok (.return_, 1)) (eT : T.heap = h) (hq : Q none h locs) (hc : cells ≤ rm.cells) (hs : slots ≤ rm.slots) : Go p e below (EndsAt s Q rm) (T.setTop (mkF m pc L [])) := by
  obtain ⟨fs, hr, hrun, hended, hW, hsame⟩ := X.leave (v := none) (fun _ => rfl) hlk
  refine ⟨_, _, X.returnOut hx hret hd hr, hrun, hended, _, _, rfl, ?_, ⟨_, rfl⟩, hW, hsame.mono hc hs⟩
  show Q none T.heap locs
  rw [eT]; exact hq
theorem s_iload (X : Stand p l e R s m args below meth c T locs cells slots) (hx : p.tables.exec = Jvm.exec) {k : Nat} {v : Int32} (hd : decode c.code pc = .ok (.iload k, 2)) (hl : L[k]? = some (.val (.int v))) (pc' : Nat) (hp : pc + 2 = pc') (g : Go p e below P (T.setTop (mkF m pc' L (.int v :: st)))) : Go p e below P (T.setTop (mkF m pc L (st))) := by
  subst hp; exact Go.via (fun _ k => XS.iload X.here hx rfl hd hl k) g
theorem s_iloadN (X : Stand p l e R s m args below meth c T locs cells slots) (hx : p.tables.exec = Jvm.exec) {k : Fin 4} {v : Int32} (hd : decode c.code pc = .ok (.iload_n k, 1)) (hl : L[k.val]? = some (.val (.int v))) (pc' : Nat) (hp : pc + 1 = pc') (g : Go p e below P (T.setTop (mkF m pc' L (.int v :: st)))) : Go p e below P (T.setTop (mkF m pc L (st))) := by
  subst hp; exact Go.via (fun _ k => XS.iloadN X.here hx rfl hd hl k) g
theorem s_istore (X : Stand p l e R s m args below meth c T locs cells slots) (hx : p.tables.exec = Jvm.exec) {k : Nat} {v : Int32} (hd : decode c.code pc = .ok (.istore k, 2)) (L' : Array Slot) (hl : storeLocals L k (.int v) = some L') (pc' : Nat) (hp : pc + 2 = pc') (g : Go p e below P (T.setTop (mkF m pc' L' (st)))) : Go p e below P (T.setTop (mkF m pc L (.int v :: st))) := by
  subst hp; exact Go.via (fun _ k => XS.istore X.here hx rfl hd rfl hl k) g
theorem s_istoreN (X : Stand p l e R s m args below meth c T locs cells slots) (hx : p.tables.exec = Jvm.exec) {k : Fin 4} {v : Int32} (hd : decode c.code pc = .ok (.istore_n k, 1)) (L' : Array Slot) (hl : storeLocals L k.val (.int v) = some L') (pc' : Nat) (hp : pc + 1 = pc') (g : Go p e below P (T.setTop (mkF m pc' L' (st)))) : Go p e below P (T.setTop (mkF m pc L (.int v :: st))) := by
  subst hp; exact Go.via (fun _ k => XS.istoreN X.here hx rfl hd rfl hl k) g
theorem s_lload (X : Stand p l e R s m args below meth c T locs cells slots) (hx : p.tables.exec = Jvm.exec) {k : Nat} {v : Int64} (hd : decode c.code pc = .ok (.lload k, 2)) (hl : L[k]? = some (.val (.long v))) (pc' : Nat) (hp : pc + 2 = pc') (g : Go p e below P (T.setTop (mkF m pc' L (.long v :: st)))) : Go p e below P (T.setTop (mkF m pc L (st))) := by
  subst hp; exact Go.via (fun _ k => XT.lload X.here hx rfl hd hl k) g
theorem s_lloadN (X : Stand p l e R s m args below meth c T locs cells slots) (hx : p.tables.exec = Jvm.exec) {k : Fin 4} {v : Int64} (hd : decode c.code pc = .ok (.lload_n k, 1)) (hl : L[k.val]? = some (.val (.long v))) (pc' : Nat) (hp : pc + 1 = pc') (g : Go p e below P (T.setTop (mkF m pc' L (.long v :: st)))) : Go p e below P (T.setTop (mkF m pc L (st))) := by
  subst hp; exact Go.via (fun _ k => XT.lloadN X.here hx rfl hd hl k) g
theorem s_lstore (X : Stand p l e R s m args below meth c T locs cells slots) (hx : p.tables.exec = Jvm.exec) {k : Nat} {v : Int64} (hd : decode c.code pc = .ok (.lstore k, 2)) (L' : Array Slot) (hl : storeLocals L k (.long v) = some L') (pc' : Nat) (hp : pc + 2 = pc') (g : Go p e below P (T.setTop (mkF m pc' L' (st)))) : Go p e below P (T.setTop (mkF m pc L (.long v :: st))) := by
  subst hp; exact Go.via (fun _ k => XT.lstore X.here hx rfl hd rfl hl k) g
theorem s_lstoreN (X : Stand p l e R s m args below meth c T locs cells slots) (hx : p.tables.exec = Jvm.exec) {k : Fin 4} {v : Int64} (hd : decode c.code pc = .ok (.lstore_n k, 1)) (L' : Array Slot) (hl : storeLocals L k.val (.long v) = some L') (pc' : Nat) (hp : pc + 1 = pc') (g : Go p e below P (T.setTop (mkF m pc' L' (st)))) : Go p e below P (T.setTop (mkF m pc L (.long v :: st))) := by
  subst hp; exact Go.via (fun _ k => XT.lstoreN X.here hx rfl hd rfl hl k) g
theorem s_dload (X : Stand p l e R s m args below meth c T locs cells slots) (hx : p.tables.exec = Jvm.exec) {k : Nat} {v : UInt64} (hd : decode c.code pc = .ok (.dload k, 2)) (hl : L[k]? = some (.val (.double v))) (pc' : Nat) (hp : pc + 2 = pc') (g : Go p e below P (T.setTop (mkF m pc' L (.double v :: st)))) : Go p e below P (T.setTop (mkF m pc L (st))) := by
  subst hp; exact Go.via (fun _ k => XS.dload X.here hx rfl hd hl k) g
theorem s_dloadN (X : Stand p l e R s m args below meth c T locs cells slots) (hx : p.tables.exec = Jvm.exec) {k : Fin 4} {v : UInt64} (hd : decode c.code pc = .ok (.dload_n k, 1)) (hl : L[k.val]? = some (.val (.double v))) (pc' : Nat) (hp : pc + 1 = pc') (g : Go p e below P (T.setTop (mkF m pc' L (.double v :: st)))) : Go p e below P (T.setTop (mkF m pc L (st))) := by
  subst hp; exact Go.via (fun _ k => XS.dloadN X.here hx rfl hd hl k) g
theorem s_dstore (X : Stand p l e R s m args below meth c T locs cells slots) (hx : p.tables.exec = Jvm.exec) {k : Nat} {v : UInt64} (hd : decode c.code pc = .ok (.dstore k, 2)) (L' : Array Slot) (hl : storeLocals L k (.double v) = some L') (pc' : Nat) (hp : pc + 2 = pc') (g : Go p e below P (T.setTop (mkF m pc' L' (st)))) : Go p e below P (T.setTop (mkF m pc L (.double v :: st))) := by
  subst hp; exact Go.via (fun _ k => XS.dstore X.here hx rfl hd rfl hl k) g
theorem s_dstoreN (X : Stand p l e R s m args below meth c T locs cells slots) (hx : p.tables.exec = Jvm.exec) {k : Fin 4} {v : UInt64} (hd : decode c.code pc = .ok (.dstore_n k, 1)) (L' : Array Slot) (hl : storeLocals L k.val (.double v) = some L') (pc' : Nat) (hp : pc + 1 = pc') (g : Go p e below P (T.setTop (mkF m pc' L' (st)))) : Go p e below P (T.setTop (mkF m pc L (.double v :: st))) := by
  subst hp; exact Go.via (fun _ k => XS.dstoreN X.here hx rfl hd rfl hl k) g
theorem s_aload (X : Stand p l e R s m args below meth c T locs cells slots) (hx : p.tables.exec = Jvm.exec) {k : Nat} {v : Value} (hd : decode c.code pc = .ok (.aload k, 2)) (hl : L[k]? = some (.val v)) (hv : v.isRef = true) (pc' : Nat) (hp : pc + 2 = pc') (g : Go p e below P (T.setTop (mkF m pc' L (v :: st)))) : Go p e below P (T.setTop (mkF m pc L (st))) := by
  subst hp; exact Go.via (fun _ k => XS.aload X.here hx rfl hd hl hv k) g
theorem s_aloadN (X : Stand p l e R s m args below meth c T locs cells slots) (hx : p.tables.exec = Jvm.exec) {k : Fin 4} {v : Value} (hd : decode c.code pc = .ok (.aload_n k, 1)) (hl : L[k.val]? = some (.val v)) (hv : v.isRef = true) (pc' : Nat) (hp : pc + 1 = pc') (g : Go p e below P (T.setTop (mkF m pc' L (v :: st)))) : Go p e below P (T.setTop (mkF m pc L (st))) := by
  subst hp; exact Go.via (fun _ k => XS.aloadN X.here hx rfl hd hl hv k) g
theorem s_astore (X : Stand p l e R s m args below meth c T locs cells slots) (hx : p.tables.exec = Jvm.exec) {k : Nat} {v : Value} (hd : decode c.code pc = .ok (.astore k, 2)) (hv : v.isRef = true) (L' : Array Slot) (hl : storeLocals L k v = some L') (pc' : Nat) (hp : pc + 2 = pc') (g : Go p e below P (T.setTop (mkF m pc' L' (st)))) : Go p e below P (T.setTop (mkF m pc L (v :: st))) := by
  subst hp; exact Go.via (fun _ k => XS.astore X.here hx rfl hd rfl hv hl k) g
theorem s_astoreN (X : Stand p l e R s m args below meth c T locs cells slots) (hx : p.tables.exec = Jvm.exec) {k : Fin 4} {v : Value} (hd : decode c.code pc = .ok (.astore_n k, 1)) (hv : v.isRef = true) (L' : Array Slot) (hl : storeLocals L k.val v = some L') (pc' : Nat) (hp : pc + 1 = pc') (g : Go p e below P (T.setTop (mkF m pc' L' (st)))) : Go p e below P (T.setTop (mkF m pc L (v :: st))) := by
  subst hp; exact Go.via (fun _ k => XS.astoreN X.here hx rfl hd rfl hv hl k) g
theorem s_iconst (X : Stand p l e R s m args below meth c T locs cells slots) (hx : p.tables.exec = Jvm.exec) {i : Int} (hd : decode c.code pc = .ok (.iconst i, 1)) (v : Int32) (hv : Int32.ofInt i = v) (pc' : Nat) (hp : pc + 1 = pc') (g : Go p e below P (T.setTop (mkF m pc' L (.int v :: st)))) : Go p e below P (T.setTop (mkF m pc L (st))) := by
  subst hp hv; exact Go.via (fun _ k => XS.iconst X.here hx rfl hd k) g
theorem s_bipush (X : Stand p l e R s m args below meth c T locs cells slots) (hx : p.tables.exec = Jvm.exec) {i : Int} (hd : decode c.code pc = .ok (.bipush i, 2)) (v : Int32) (hv : (Int8.ofInt i).toInt32 = v) (pc' : Nat) (hp : pc + 2 = pc') (g : Go p e below P (T.setTop (mkF m pc' L (.int v :: st)))) : Go p e below P (T.setTop (mkF m pc L (st))) := by
  subst hp hv; exact Go.via (fun _ k => XS.bipush X.here hx rfl hd k) g
theorem s_sipush (X : Stand p l e R s m args below meth c T locs cells slots) (hx : p.tables.exec = Jvm.exec) {i : Int} (hd : decode c.code pc = .ok (.sipush i, 3)) (v : Int32) (hv : (Int16.ofInt i).toInt32 = v) (pc' : Nat) (hp : pc + 3 = pc') (g : Go p e below P (T.setTop (mkF m pc' L (.int v :: st)))) : Go p e below P (T.setTop (mkF m pc L (st))) := by
  subst hp hv; exact Go.via (fun _ k => XS.sipush X.here hx rfl hd k) g
theorem s_lconst (X : Stand p l e R s m args below meth c T locs cells slots) (hx : p.tables.exec = Jvm.exec) {i : Fin 2} (hd : decode c.code pc = .ok (.lconst i, 1)) (v : Int64) (hv : Int64.ofNat i = v) (pc' : Nat) (hp : pc + 1 = pc') (g : Go p e below P (T.setTop (mkF m pc' L (.long v :: st)))) : Go p e below P (T.setTop (mkF m pc L (st))) := by
  subst hp; exact Go.via (fun _ k => XT.lconstV X.here hx rfl v hd hv k) g
theorem s_null (X : Stand p l e R s m args below meth c T locs cells slots) (hx : p.tables.exec = Jvm.exec)  (hd : decode c.code pc = .ok (.aconst_null, 1))  (pc' : Nat) (hp : pc + 1 = pc') (g : Go p e below P (T.setTop (mkF m pc' L (.null :: st)))) : Go p e below P (T.setTop (mkF m pc L (st))) := by
  subst hp; exact Go.via (fun _ k => XS.aconstNull X.here hx rfl hd k) g
theorem s_dconst0 (X : Stand p l e R s m args below meth c T locs cells slots) (hx : p.tables.exec = Jvm.exec)  (hd : decode c.code pc = .ok (.dconst 0, 1)) (v : UInt64) (hv : FP.dconst0 = v) (pc' : Nat) (hp : pc + 1 = pc') (g : Go p e below P (T.setTop (mkF m pc' L (.double v :: st)))) : Go p e below P (T.setTop (mkF m pc L (st))) := by
  subst hp; exact Go.via (fun _ k => XS.dconst0 X.here hx rfl hd hv k) g
theorem s_dconst1 (X : Stand p l e R s m args below meth c T locs cells slots) (hx : p.tables.exec = Jvm.exec)  (hd : decode c.code pc = .ok (.dconst 1, 1)) (v : UInt64) (hv : FP.dconst1 = v) (pc' : Nat) (hp : pc + 1 = pc') (g : Go p e below P (T.setTop (mkF m pc' L (.double v :: st)))) : Go p e below P (T.setTop (mkF m pc L (st))) := by
  subst hp; exact Go.via (fun _ k => XS.dconst1 X.here hx rfl hd hv k) g
theorem s_ldcI (X : Stand p l e R s m args below meth c T locs cells slots) (hx : p.tables.exec = Jvm.exec) {i : Nat} {v : Int32} (hd : decode c.code pc = .ok (.ldc i, 2)) (hZ : Z.Warmed39 s.vm) {own : String} (hown : s.vm.findClass own = some m.cls) (w : (Cond.constant own i v).before a0 Z = true) (pc' : Nat) (hp : pc + 2 = pc') (g : Go p e below P (T.setTop (mkF m pc' L (.int v :: st)))) : Go p e below P (T.setTop (mkF m pc L (st))) := by
  subst hp; exact Go.via (fun _ k => X.ldcI hx hown (mvT hZ w) rfl hd k) g
theorem s_ldc2J (X : Stand p l e R s m args below meth c T locs cells slots) (hx : p.tables.exec = Jvm.exec) {i : Nat} {v : Int64} (hd : decode c.code pc = .ok (.ldc2_w i, 3)) (hZ : Z.Warmed39 s.vm) {own : String} (hown : s.vm.findClass own = some m.cls) (w : (Cond.constantLong own i v).before a0 Z = true) (pc' : Nat) (hp : pc + 3 = pc') (g : Go p e below P (T.setTop (mkF m pc' L (.long v :: st)))) : Go p e below P (T.setTop (mkF m pc L (st))) := by
  subst hp; exact Go.via (fun _ k => X.ldc2J hx hown (mvT hZ w) rfl hd k) g
theorem s_ldc2D (X : Stand p l e R s m args below meth c T locs cells slots) (hx : p.tables.exec = Jvm.exec) {i : Nat} {v : UInt64} (hd : decode c.code pc = .ok (.ldc2_w i, 3)) (hZ : Z.Warmed39 s.vm) {own : String} (hown : s.vm.findClass own = some m.cls) (w : (Cond.constantDouble own i v).before a0 Z = true) (pc' : Nat) (hp : pc + 3 = pc') (g : Go p e below P (T.setTop (mkF m pc' L (.double v :: st)))) : Go p e below P (T.setTop (mkF m pc L (st))) := by
  subst hp; exact Go.via (fun _ k => X.ldc2DoubleC hx hown (mvT hZ w) (g := mkF m pc L st) rfl hd _ k) g
theorem s_iadd (X : Stand p l e R s m args below meth c T locs cells slots) (hx : p.tables.exec = Jvm.exec) {x y : Int32} (hd : decode c.code pc = .ok (.iadd, 1)) (v : Int32) (hv : x + y = v) (pc' : Nat) (hp : pc + 1 = pc') (g : Go p e below P (T.setTop (mkF m pc' L (.int v :: st)))) : Go p e below P (T.setTop (mkF m pc L (.int y :: .int x :: st))) := by
  subst hp hv; exact Go.via (fun _ k => XS.iadd X.here hx rfl hd rfl k) g
theorem s_isub (X : Stand p l e R s m args below meth c T locs cells slots) (hx : p.tables.exec = Jvm.exec) {x y : Int32} (hd : decode c.code pc = .ok (.isub, 1)) (v : Int32) (hv : x - y = v) (pc' : Nat) (hp : pc + 1 = pc') (g : Go p e below P (T.setTop (mkF m pc' L (.int v :: st)))) : Go p e below P (T.setTop (mkF m pc L (.int y :: .int x :: st))) := by
  subst hp hv; exact Go.via (fun _ k => XS.isub X.here hx rfl hd rfl k) g
theorem s_imul (X : Stand p l e R s m args below meth c T locs cells slots) (hx : p.tables.exec = Jvm.exec) {x y : Int32} (hd : decode c.code pc = .ok (.imul, 1)) (v : Int32) (hv : x * y = v) (pc' : Nat) (hp : pc + 1 = pc') (g : Go p e below P (T.setTop (mkF m pc' L (.int v :: st)))) : Go p e below P (T.setTop (mkF m pc L (.int y :: .int x :: st))) := by
  subst hp hv; exact Go.via (fun _ k => XS.imul X.here hx rfl hd rfl k) g
theorem s_iand (X : Stand p l e R s m args below meth c T locs cells slots) (hx : p.tables.exec = Jvm.exec) {x y : Int32} (hd : decode c.code pc = .ok (.iand, 1)) (v : Int32) (hv : x &&& y = v) (pc' : Nat) (hp : pc + 1 = pc') (g : Go p e below P (T.setTop (mkF m pc' L (.int v :: st)))) : Go p e below P (T.setTop (mkF m pc L (.int y :: .int x :: st))) := by
  subst hp hv; exact Go.via (fun _ k => XS.iand X.here hx rfl hd rfl k) g
theorem s_ixor (X : Stand p l e R s m args below meth c T locs cells slots) (hx : p.tables.exec = Jvm.exec) {x y : Int32} (hd : decode c.code pc = .ok (.ixor, 1)) (v : Int32) (hv : x ^^^ y = v) (pc' : Nat) (hp : pc + 1 = pc') (g : Go p e below P (T.setTop (mkF m pc' L (.int v :: st)))) : Go p e below P (T.setTop (mkF m pc L (.int y :: .int x :: st))) := by
  subst hp hv; exact Go.via (fun _ k => XT.ixor X.here hx rfl hd rfl k) g
theorem s_ior (X : Stand p l e R s m args below meth c T locs cells slots) (hx : p.tables.exec = Jvm.exec) {x y : Int32} (hd : decode c.code pc = .ok (.ior, 1)) (v : Int32) (hv : x ||| y = v) (pc' : Nat) (hp : pc + 1 = pc') (g : Go p e below P (T.setTop (mkF m pc' L (.int v :: st)))) : Go p e below P (T.setTop (mkF m pc L (.int y :: .int x :: st))) := by
  subst hp hv; exact Go.via (fun _ k => XT.ior X.here hx rfl hd rfl k) g
theorem s_ishl (X : Stand p l e R s m args below meth c T locs cells slots) (hx : p.tables.exec = Jvm.exec) {x y : Int32} (hd : decode c.code pc = .ok (.ishl, 1)) (v : Int32) (hv : x <<< (y &&& 31) = v) (pc' : Nat) (hp : pc + 1 = pc') (g : Go p e below P (T.setTop (mkF m pc' L (.int v :: st)))) : Go p e below P (T.setTop (mkF m pc L (.int y :: .int x :: st))) := by
  subst hp hv; exact Go.via (fun _ k => XT.ishl X.here hx rfl hd rfl k) g
theorem s_ishr (X : Stand p l e R s m args below meth c T locs cells slots) (hx : p.tables.exec = Jvm.exec) {x y : Int32} (hd : decode c.code pc = .ok (.ishr, 1)) (v : Int32) (hv : x >>> (y &&& 31) = v) (pc' : Nat) (hp : pc + 1 = pc') (g : Go p e below P (T.setTop (mkF m pc' L (.int v :: st)))) : Go p e below P (T.setTop (mkF m pc L (.int y :: .int x :: st))) := by
  subst hp hv; exact Go.via (fun _ k => XT.ishr X.here hx rfl hd rfl k) g
theorem s_iushr (X : Stand p l e R s m args below meth c T locs cells slots) (hx : p.tables.exec = Jvm.exec) {x y : Int32} (hd : decode c.code pc = .ok (.iushr, 1)) (v : Int32) (hv : XT.ushr x y = v) (pc' : Nat) (hp : pc + 1 = pc') (g : Go p e below P (T.setTop (mkF m pc' L (.int v :: st)))) : Go p e below P (T.setTop (mkF m pc L (.int y :: .int x :: st))) := by
  subst hp hv; exact Go.via (fun _ k => XT.iushr X.here hx rfl hd rfl k) g
theorem s_idiv (X : Stand p l e R s m args below meth c T locs cells slots) (hx : p.tables.exec = Jvm.exec) {x y : Int32} (hd : decode c.code pc = .ok (.idiv, 1)) (hy : y ≠ 0) (v : Int32) (hv : x / y = v) (pc' : Nat) (hp : pc + 1 = pc') (g : Go p e below P (T.setTop (mkF m pc' L (.int v :: st)))) : Go p e below P (T.setTop (mkF m pc L (.int y :: .int x :: st))) := by
  subst hp hv; exact Go.via (fun _ k => XS.idiv X.here hx rfl hd rfl hy k) g
theorem s_irem (X : Stand p l e R s m args below meth c T locs cells slots) (hx : p.tables.exec = Jvm.exec) {x y : Int32} (hd : decode c.code pc = .ok (.irem, 1)) (hy : y ≠ 0) (v : Int32) (hv : x % y = v) (pc' : Nat) (hp : pc + 1 = pc') (g : Go p e below P (T.setTop (mkF m pc' L (.int v :: st)))) : Go p e below P (T.setTop (mkF m pc L (.int y :: .int x :: st))) := by
  subst hp hv; exact Go.via (fun _ k => RoadKit.iremM X hx rfl hd rfl hy k) g
theorem s_ineg (X : Stand p l e R s m args below meth c T locs cells slots) (hx : p.tables.exec = Jvm.exec) {x : Int32} (hd : decode c.code pc = .ok (.ineg, 1)) (v : Int32) (hv : -x = v) (pc' : Nat) (hp : pc + 1 = pc') (g : Go p e below P (T.setTop (mkF m pc' L (.int v :: st)))) : Go p e below P (T.setTop (mkF m pc L (.int x :: st))) := by
  subst hp hv; exact Go.via (fun _ k => XS.ineg X.here hx rfl hd rfl k) g
theorem s_ladd (X : Stand p l e R s m args below meth c T locs cells slots) (hx : p.tables.exec = Jvm.exec) {x y : Int64} (hd : decode c.code pc = .ok (.ladd, 1)) (v : Int64) (hv : x + y = v) (pc' : Nat) (hp : pc + 1 = pc') (g : Go p e below P (T.setTop (mkF m pc' L (.long v :: st)))) : Go p e below P (T.setTop (mkF m pc L (.long y :: .long x :: st))) := by
  subst hp hv; exact Go.via (fun _ k => XT.ladd X.here hx rfl hd rfl k) g
theorem s_lsub (X : Stand p l e R s m args below meth c T locs cells slots) (hx : p.tables.exec = Jvm.exec) {x y : Int64} (hd : decode c.code pc = .ok (.lsub, 1)) (v : Int64) (hv : x - y = v) (pc' : Nat) (hp : pc + 1 = pc') (g : Go p e below P (T.setTop (mkF m pc' L (.long v :: st)))) : Go p e below P (T.setTop (mkF m pc L (.long y :: .long x :: st))) := by
  subst hp hv; exact Go.via (fun _ k => XT.lsub X.here hx rfl hd rfl k) g
theorem s_lmul (X : Stand p l e R s m args below meth c T locs cells slots) (hx : p.tables.exec = Jvm.exec) {x y : Int64} (hd : decode c.code pc = .ok (.lmul, 1)) (v : Int64) (hv : x * y = v) (pc' : Nat) (hp : pc + 1 = pc') (g : Go p e below P (T.setTop (mkF m pc' L (.long v :: st)))) : Go p e below P (T.setTop (mkF m pc L (.long y :: .long x :: st))) := by
  subst hp hv; exact Go.via (fun _ k => XT.lmul X.here hx rfl hd rfl k) g
theorem s_land (X : Stand p l e R s m args below meth c T locs cells slots) (hx : p.tables.exec = Jvm.exec) {x y : Int64} (hd : decode c.code pc = .ok (.land, 1)) (v : Int64) (hv : x &&& y = v) (pc' : Nat) (hp : pc + 1 = pc') (g : Go p e below P (T.setTop (mkF m pc' L (.long v :: st)))) : Go p e below P (T.setTop (mkF m pc L (.long y :: .long x :: st))) := by
  subst hp hv; exact Go.via (fun _ k => XT.land X.here hx rfl hd rfl k) g
theorem s_lor (X : Stand p l e R s m args below meth c T locs cells slots) (hx : p.tables.exec = Jvm.exec) {x y : Int64} (hd : decode c.code pc = .ok (.lor, 1)) (v : Int64) (hv : x ||| y = v) (pc' : Nat) (hp : pc + 1 = pc') (g : Go p e below P (T.setTop (mkF m pc' L (.long v :: st)))) : Go p e below P (T.setTop (mkF m pc L (.long y :: .long x :: st))) := by
  subst hp hv; exact Go.via (fun _ k => XT.lor X.here hx rfl hd rfl k) g
theorem s_lxor (X : Stand p l e R s m args below meth c T locs cells slots) (hx : p.tables.exec = Jvm.exec) {x y : Int64} (hd : decode c.code pc = .ok (.lxor, 1)) (v : Int64) (hv : x ^^^ y = v) (pc' : Nat) (hp : pc + 1 = pc') (g : Go p e below P (T.setTop (mkF m pc' L (.long v :: st)))) : Go p e below P (T.setTop (mkF m pc L (.long y :: .long x :: st))) := by
  subst hp hv; exact Go.via (fun _ k => XT.lxor X.here hx rfl hd rfl k) g
theorem s_ldiv (X : Stand p l e R s m args below meth c T locs cells slots) (hx : p.tables.exec = Jvm.exec) {x y : Int64} (hd : decode c.code pc = .ok (.ldiv, 1)) (hy : y ≠ 0) (v : Int64) (hv : x / y = v) (pc' : Nat) (hp : pc + 1 = pc') (g : Go p e below P (T.setTop (mkF m pc' L (.long v :: st)))) : Go p e below P (T.setTop (mkF m pc L (.long y :: .long x :: st))) := by
  subst hp hv; exact Go.via (fun _ k => XT.ldiv X.here hx rfl hd rfl hy k) g
theorem s_lrem (X : Stand p l e R s m args below meth c T locs cells slots) (hx : p.tables.exec = Jvm.exec) {x y : Int64} (hd : decode c.code pc = .ok (.lrem, 1)) (hy : y ≠ 0) (v : Int64) (hv : x - (x / y) * y = v) (pc' : Nat) (hp : pc + 1 = pc') (g : Go p e below P (T.setTop (mkF m pc' L (.long v :: st)))) : Go p e below P (T.setTop (mkF m pc L (.long y :: .long x :: st))) := by
  subst hp hv; exact Go.via (fun _ k => XT.lrem X.here hx rfl hd rfl hy k) g
theorem s_lneg (X : Stand p l e R s m args below meth c T locs cells slots) (hx : p.tables.exec = Jvm.exec) {x : Int64} (hd : decode c.code pc = .ok (.lneg, 1)) (v : Int64) (hv : -x = v) (pc' : Nat) (hp : pc + 1 = pc') (g : Go p e below P (T.setTop (mkF m pc' L (.long v :: st)))) : Go p e below P (T.setTop (mkF m pc L (.long x :: st))) := by
  subst hp hv; exact Go.via (fun _ k => XT.lneg X.here hx rfl hd rfl k) g
theorem sh64 (y : Int32) : (y.toInt64 &&& 63) = (y &&& 0x3f).toInt64 := by rw [Int32.toInt64_and]; rfl
theorem s_lshl (X : Stand p l e R s m args below meth c T locs cells slots) (hx : p.tables.exec = Jvm.exec) {x : Int64} {y : Int32} (hd : decode c.code pc = .ok (.lshl, 1)) (v : Int64) (hv : x <<< (y &&& 0x3f).toInt64 = v) (pc' : Nat) (hp : pc + 1 = pc') (g : Go p e below P (T.setTop (mkF m pc' L (.long v :: st)))) : Go p e below P (T.setTop (mkF m pc L (.int y :: .long x :: st))) := by
  subst hp hv; exact Go.via (fun _ k => XT.lshl X.here hx rfl hd rfl (by rw [sh64]; exact k)) g
theorem s_lshr (X : Stand p l e R s m args below meth c T locs cells slots) (hx : p.tables.exec = Jvm.exec) {x : Int64} {y : Int32} (hd : decode c.code pc = .ok (.lshr, 1)) (v : Int64) (hv : x >>> (y &&& 0x3f).toInt64 = v) (pc' : Nat) (hp : pc + 1 = pc') (g : Go p e below P (T.setTop (mkF m pc' L (.long v :: st)))) : Go p e below P (T.setTop (mkF m pc L (.int y :: .long x :: st))) := by
  subst hp hv; exact Go.via (fun _ k => XT.lshr X.here hx rfl hd rfl (by rw [sh64]; exact k)) g
theorem s_lushr (X : Stand p l e R s m args below meth c T locs cells slots) (hx : p.tables.exec = Jvm.exec) {x : Int64} {y : Int32} (hd : decode c.code pc = .ok (.lushr, 1)) (v : Int64) (hv : XT.ushrL x y = v) (pc' : Nat) (hp : pc + 1 = pc') (g : Go p e below P (T.setTop (mkF m pc' L (.long v :: st)))) : Go p e below P (T.setTop (mkF m pc L (.int y :: .long x :: st))) := by
  subst hp hv; exact Go.via (fun _ k => XT.lushr X.here hx rfl hd rfl k) g
theorem s_i2l (X : Stand p l e R s m args below meth c T locs cells slots) (hx : p.tables.exec = Jvm.exec) {x : Int32} (hd : decode c.code pc = .ok (.i2l, 1)) (v : Int64) (hv : x.toInt64 = v) (pc' : Nat) (hp : pc + 1 = pc') (g : Go p e below P (T.setTop (mkF m pc' L (.long v :: st)))) : Go p e below P (T.setTop (mkF m pc L (.int x :: st))) := by
  subst hp hv; exact Go.via (fun _ k => XT.i2l X.here hx rfl hd rfl k) g
theorem s_l2i (X : Stand p l e R s m args below meth c T locs cells slots) (hx : p.tables.exec = Jvm.exec) {x : Int64} (hd : decode c.code pc = .ok (.l2i, 1)) (v : Int32) (hv : x.toInt32 = v) (pc' : Nat) (hp : pc + 1 = pc') (g : Go p e below P (T.setTop (mkF m pc' L (.int v :: st)))) : Go p e below P (T.setTop (mkF m pc L (.long x :: st))) := by
  subst hp hv; exact Go.via (fun _ k => XT.l2i X.here hx rfl hd rfl k) g
theorem s_i2b (X : Stand p l e R s m args below meth c T locs cells slots) (hx : p.tables.exec = Jvm.exec) {x : Int32} (hd : decode c.code pc = .ok (.i2b, 1)) (v : Int32) (hv : x.toInt8.toInt32 = v) (pc' : Nat) (hp : pc + 1 = pc') (g : Go p e below P (T.setTop (mkF m pc' L (.int v :: st)))) : Go p e below P (T.setTop (mkF m pc L (.int x :: st))) := by
  subst hp hv; exact Go.via (fun _ k => XT.i2b X.here hx rfl hd rfl k) g
theorem s_i2s (X : Stand p l e R s m args below meth c T locs cells slots) (hx : p.tables.exec = Jvm.exec) {x : Int32} (hd : decode c.code pc = .ok (.i2s, 1)) (v : Int32) (hv : x.toInt16.toInt32 = v) (pc' : Nat) (hp : pc + 1 = pc') (g : Go p e below P (T.setTop (mkF m pc' L (.int v :: st)))) : Go p e below P (T.setTop (mkF m pc L (.int x :: st))) := by
  subst hp hv; exact Go.via (fun _ k => XT.i2s X.here hx rfl hd rfl k) g
theorem s_i2d (X : Stand p l e R s m args below meth c T locs cells slots) (hx : p.tables.exec = Jvm.exec) {x : Int32} (hd : decode c.code pc = .ok (.i2d, 1)) (v : UInt64) (hv : FP.i2d x = v) (pc' : Nat) (hp : pc + 1 = pc') (g : Go p e below P (T.setTop (mkF m pc' L (.double v :: st)))) : Go p e below P (T.setTop (mkF m pc L (.int x :: st))) := by
  subst hp; exact Go.via (fun _ k => XS.i2dS X.here hx rfl hd rfl hv k) g
theorem s_l2d (X : Stand p l e R s m args below meth c T locs cells slots) (hx : p.tables.exec = Jvm.exec) {x : Int64} (hd : decode c.code pc = .ok (.l2d, 1)) (v : UInt64) (hv : FP.l2d x = v) (pc' : Nat) (hp : pc + 1 = pc') (g : Go p e below P (T.setTop (mkF m pc' L (.double v :: st)))) : Go p e below P (T.setTop (mkF m pc L (.long x :: st))) := by
  subst hp; exact Go.via (fun _ k => XS.l2dS X.here hx rfl hd rfl hv k) g
theorem s_dneg (X : Stand p l e R s m args below meth c T locs cells slots) (hx : p.tables.exec = Jvm.exec) {x : UInt64} (hd : decode c.code pc = .ok (.dneg, 1)) (v : UInt64) (hv : FP.dneg x = v) (pc' : Nat) (hp : pc + 1 = pc') (g : Go p e below P (T.setTop (mkF m pc' L (.double v :: st)))) : Go p e below P (T.setTop (mkF m pc L (.double x :: st))) := by
  subst hp; exact Go.via (fun _ k => XS.dnegS X.here hx rfl hd rfl hv k) g
theorem s_dadd (X : Stand p l e R s m args below meth c T locs cells slots) (hx : p.tables.exec = Jvm.exec) {x y : UInt64} (hd : decode c.code pc = .ok (.dadd, 1)) (v : UInt64) (hv : FP.dadd x y = v) (hn : NoNaN64 v) (pc' : Nat) (hp : pc + 1 = pc') (g : Go p e below P (T.setTop (mkF m pc' L (.double v :: st)))) : Go p e below P (T.setTop (mkF m pc L (.double y :: .double x :: st))) := by
  subst hp hv; exact Go.via (fun _ k => XS.daddS X.here hx rfl hd rfl hn rfl k) g
theorem s_dsub (X : Stand p l e R s m args below meth c T locs cells slots) (hx : p.tables.exec = Jvm.exec) {x y : UInt64} (hd : decode c.code pc = .ok (.dsub, 1)) (v : UInt64) (hv : FP.dsub x y = v) (hn : NoNaN64 v) (pc' : Nat) (hp : pc + 1 = pc') (g : Go p e below P (T.setTop (mkF m pc' L (.double v :: st)))) : Go p e below P (T.setTop (mkF m pc L (.double y :: .double x :: st))) := by
  subst hp hv; exact Go.via (fun _ k => XS.dsubS X.here hx rfl hd rfl hn rfl k) g
theorem s_dmul (X : Stand p l e R s m args below meth c T locs cells slots) (hx : p.tables.exec = Jvm.exec) {x y : UInt64} (hd : decode c.code pc = .ok (.dmul, 1)) (v : UInt64) (hv : FP.dmul x y = v) (hn : NoNaN64 v) (pc' : Nat) (hp : pc + 1 = pc') (g : Go p e below P (T.setTop (mkF m pc' L (.double v :: st)))) : Go p e below P (T.setTop (mkF m pc L (.double y :: .double x :: st))) := by
  subst hp hv; exact Go.via (fun _ k => XS.dmulS X.here hx rfl hd rfl hn rfl k) g
theorem s_ddiv (X : Stand p l e R s m args below meth c T locs cells slots) (hx : p.tables.exec = Jvm.exec) {x y : UInt64} (hd : decode c.code pc = .ok (.ddiv, 1)) (v : UInt64) (hv : FP.ddiv x y = v) (hn : NoNaN64 v) (pc' : Nat) (hp : pc + 1 = pc') (g : Go p e below P (T.setTop (mkF m pc' L (.double v :: st)))) : Go p e below P (T.setTop (mkF m pc L (.double y :: .double x :: st))) := by
  subst hp hv; exact Go.via (fun _ k => XS.ddivS X.here hx rfl hd rfl hn rfl k) g
theorem s_dcmp (X : Stand p l e R s m args below meth c T locs cells slots) (hx : p.tables.exec = Jvm.exec) {x y : UInt64} {o : CmpOp} (hd : decode c.code pc = .ok (.dcmp o, 1)) (v : Int32) (hv : cmpValue (FP.dcmp x y) o = v) (pc' : Nat) (hp : pc + 1 = pc') (g : Go p e below P (T.setTop (mkF m pc' L (.int v :: st)))) : Go p e below P (T.setTop (mkF m pc L (.double y :: .double x :: st))) := by
  subst hp; exact Go.via (fun _ k => XS.dcmpS X.here hx rfl hd rfl hv k) g
theorem s_lcmp (X : Stand p l e R s m args below meth c T locs cells slots) (hx : p.tables.exec = Jvm.exec) {x y : Int64} (hd : decode c.code pc = .ok (.lcmp, 1)) (v : Int32) (hv : XT.cmpL x y = v) (pc' : Nat) (hp : pc + 1 = pc') (g : Go p e below P (T.setTop (mkF m pc' L (.int v :: st)))) : Go p e below P (T.setTop (mkF m pc L (.long y :: .long x :: st))) := by
  subst hp hv; exact Go.via (fun _ k => XT.lcmp X.here hx rfl hd rfl k) g
theorem s_dup (X : Stand p l e R s m args below meth c T locs cells slots) (hx : p.tables.exec = Jvm.exec) {x : Value} (hd : decode c.code pc = .ok (.dup, 1)) (hc : x.category = 1) (pc' : Nat) (hp : pc + 1 = pc') (g : Go p e below P (T.setTop (mkF m pc' L (x :: x :: st)))) : Go p e below P (T.setTop (mkF m pc L (x :: st))) := by
  subst hp; exact Go.via (fun _ k => XS.dup X.here hx rfl hd rfl hc k) g
theorem s_pop (X : Stand p l e R s m args below meth c T locs cells slots) (hx : p.tables.exec = Jvm.exec) {x : Value} (hd : decode c.code pc = .ok (.pop, 1)) (hc : x.category = 1) (pc' : Nat) (hp : pc + 1 = pc') (g : Go p e below P (T.setTop (mkF m pc' L (st)))) : Go p e below P (T.setTop (mkF m pc L (x :: st))) := by
  subst hp; exact Go.via (fun _ k => XT.pop X.here hx rfl hd rfl hc k) g
theorem s_dupX1 (X : Stand p l e R s m args below meth c T locs cells slots) (hx : p.tables.exec = Jvm.exec) {x y : Value} (hd : decode c.code pc = .ok (.dup_x1, 1)) (hc : x.category = 1) (hc' : y.category = 1) (pc' : Nat) (hp : pc + 1 = pc') (g : Go p e below P (T.setTop (mkF m pc' L (x :: y :: x :: st)))) : Go p e below P (T.setTop (mkF m pc L (x :: y :: st))) := by
  subst hp; exact Go.via (fun _ k => XT.dupX1 X.here hx rfl hd rfl hc hc' k) g
theorem s_dup2 (X : Stand p l e R s m args below meth c T locs cells slots) (hx : p.tables.exec = Jvm.exec) {x y : Value} (hd : decode c.code pc = .ok (.dup2, 1)) (hc : x.category = 1) (hc' : y.category = 1) (pc' : Nat) (hp : pc + 1 = pc') (g : Go p e below P (T.setTop (mkF m pc' L (x :: y :: x :: y :: st)))) : Go p e below P (T.setTop (mkF m pc L (x :: y :: st))) := by
  subst hp; exact Go.via (fun _ k => XT.dup2 X.here hx rfl hd rfl hc hc' k) g
theorem s_iinc (X : Stand p l e R s m args below meth c T locs cells slots) (hx : p.tables.exec = Jvm.exec) {k : Nat} {cst : Int} {x : Int32} (hd : decode c.code pc = .ok (.iinc k cst, 3)) (v : Int32) (hv : x + Int32.ofInt cst = v) (hl : L[k]? = some (.val (.int x))) (L' : Array Slot) (hl' : storeLocals L k (.int v) = some L') (pc' : Nat) (hp : pc + 3 = pc') (g : Go p e below P (T.setTop (mkF m pc' L' (st)))) : Go p e below P (T.setTop (mkF m pc L (st))) := by
  subst hp hv; exact Go.via (fun _ k => XS.iinc X.here hx rfl hd hl hl' k) g
theorem s_goto (X : Stand p l e R s m args below meth c T locs cells slots) (hx : p.tables.exec = Jvm.exec) {o : Int} (hd : decode c.code pc = .ok (.goto o, 3)) (pc' : Nat) (ho : 0 ≤ (pc : Int) + o) (hp : ((pc : Int) + o).toNat = pc') (g : Go p e below P (T.setTop (mkF m pc' L st))) : Go p e below P (T.setTop (mkF m pc L st)) := Go.via (fun _ k => XS.goto X.here hx rfl rfl hd ho hp k) g
theorem s_ifY (X : Stand p l e R s m args below meth c T locs cells slots) (hx : p.tables.exec = Jvm.exec) {cd : ClassFile.Cond} {o : Int} {x : Int32} (hd : decode c.code pc = .ok (.ifCond cd o, 3)) (hc : ifCond.holds cd x = true) (pc' : Nat) (ho : 0 ≤ (pc : Int) + o) (hp : ((pc : Int) + o).toNat = pc') (g : Go p e below P (T.setTop (mkF m pc' L st))) : Go p e below P (T.setTop (mkF m pc L (.int x :: st))) := Go.via (fun _ k => XS.ifYes X.here hx rfl rfl hd rfl hc ho hp k) g
theorem s_ifN (X : Stand p l e R s m args below meth c T locs cells slots) (hx : p.tables.exec = Jvm.exec) {cd : ClassFile.Cond} {o : Int} {x : Int32} (hd : decode c.code pc = .ok (.ifCond cd o, 3)) (hc : ifCond.holds cd x = false) (pc' : Nat) (hp : pc + 3 = pc') (g : Go p e below P (T.setTop (mkF m pc' L (st)))) : Go p e below P (T.setTop (mkF m pc L (.int x :: st))) := by
  subst hp; exact Go.via (fun _ k => XS.ifNo X.here hx rfl hd rfl hc k) g
theorem s_icmpY (X : Stand p l e R s m args below meth c T locs cells slots) (hx : p.tables.exec = Jvm.exec) {cd : ClassFile.Cond} {o : Int} {x y : Int32} (hd : decode c.code pc = .ok (.if_icmp cd o, 3)) (hc : if_icmp.holds cd x y = true) (pc' : Nat) (ho : 0 ≤ (pc : Int) + o) (hp : ((pc : Int) + o).toNat = pc') (g : Go p e below P (T.setTop (mkF m pc' L st))) : Go p e below P (T.setTop (mkF m pc L (.int y :: .int x :: st))) := Go.via (fun _ k => XS.icmpYes X.here hx rfl rfl hd rfl hc ho hp k) g
theorem s_icmpN (X : Stand p l e R s m args below meth c T locs cells slots) (hx : p.tables.exec = Jvm.exec) {cd : ClassFile.Cond} {o : Int} {x y : Int32} (hd : decode c.code pc = .ok (.if_icmp cd o, 3)) (hc : if_icmp.holds cd x y = false) (pc' : Nat) (hp : pc + 3 = pc') (g : Go p e below P (T.setTop (mkF m pc' L (st)))) : Go p e below P (T.setTop (mkF m pc L (.int y :: .int x :: st))) := by
  subst hp; exact Go.via (fun _ k => XS.icmpNo X.here hx rfl hd rfl hc k) g
theorem s_acmpY (X : Stand p l e R s m args below meth c T locs cells slots) (hx : p.tables.exec = Jvm.exec) {cd : ClassFile.ACond} {o : Int} {x y : Value} (hd : decode c.code pc = .ok (.if_acmp cd o, 3)) (h1 : x.isRef = true) (h2 : y.isRef = true) (hc : XT.acmp cd x y = true) (pc' : Nat) (ho : 0 ≤ (pc : Int) + o) (hp : ((pc : Int) + o).toNat = pc') (g : Go p e below P (T.setTop (mkF m pc' L st))) : Go p e below P (T.setTop (mkF m pc L (y :: x :: st))) := Go.via (fun _ k => XT.acmpYes X.here hx rfl rfl hd rfl h1 h2 hc ho hp k) g
theorem s_acmpN (X : Stand p l e R s m args below meth c T locs cells slots) (hx : p.tables.exec = Jvm.exec) {cd : ClassFile.ACond} {o : Int} {x y : Value} (hd : decode c.code pc = .ok (.if_acmp cd o, 3)) (h1 : x.isRef = true) (h2 : y.isRef = true) (hc : XT.acmp cd x y = false) (pc' : Nat) (hp : pc + 3 = pc') (g : Go p e below P (T.setTop (mkF m pc' L (st)))) : Go p e below P (T.setTop (mkF m pc L (y :: x :: st))) := by
  subst hp; exact Go.via (fun _ k => XT.acmpNo X.here hx rfl hd rfl h1 h2 hc k) g
theorem s_ifnullN (X : Stand p l e R s m args below meth c T locs cells slots) (hx : p.tables.exec = Jvm.exec) {o : Int} {b : Addr} (hd : decode c.code pc = .ok (.ifnull o, 3))  (pc' : Nat) (hp : pc + 3 = pc') (g : Go p e below P (T.setTop (mkF m pc' L (st)))) : Go p e below P (T.setTop (mkF m pc L (.ref b :: st))) := by
  subst hp; exact Go.via (fun _ k => XS.ifnullNo X.here hx rfl hd rfl k) g
theorem s_ifnullY (X : Stand p l e R s m args below meth c T locs cells slots) (hx : p.tables.exec = Jvm.exec) {o : Int} (hd : decode c.code pc = .ok (.ifnull o, 3)) (pc' : Nat) (ho : 0 ≤ (pc : Int) + o) (hp : ((pc : Int) + o).toNat = pc') (g : Go p e below P (T.setTop (mkF m pc' L st))) : Go p e below P (T.setTop (mkF m pc L (.null :: st))) := Go.via (fun _ k => XS.ifnullYes X.here hx rfl rfl hd rfl ho hp k) g
theorem s_ifnonnullN (X : Stand p l e R s m args below meth c T locs cells slots) (hx : p.tables.exec = Jvm.exec) {o : Int} (hd : decode c.code pc = .ok (.ifnonnull o, 3))  (pc' : Nat) (hp : pc + 3 = pc') (g : Go p e below P (T.setTop (mkF m pc' L (st)))) : Go p e below P (T.setTop (mkF m pc L (.null :: st))) := by
  subst hp; exact Go.via (fun _ k => XT.ifnonnullNo X.here hx rfl hd rfl k) g
theorem s_ifnonnullY (X : Stand p l e R s m args below meth c T locs cells slots) (hx : p.tables.exec = Jvm.exec) {o : Int} {b : Addr} (hd : decode c.code pc = .ok (.ifnonnull o, 3)) (pc' : Nat) (ho : 0 ≤ (pc : Int) + o) (hp : ((pc : Int) + o).toNat = pc') (g : Go p e below P (T.setTop (mkF m pc' L st))) : Go p e below P (T.setTop (mkF m pc L (.ref b :: st))) := Go.via (fun _ k => XT.ifnonnullYes X.here hx rfl rfl hd rfl ho hp k) g
section Cmp
variable {r : Option Ordering} {o : CmpOp}
theorem dd_ne_t (h : r ≠ some .eq) : ifCond.holds .ne (cmpValue r o) = true := by rcases r with _ | (_ | _ | _) <;> cases o <;> first | rfl | exact absurd rfl h
theorem dd_ne_f (h : r = some .eq) : ifCond.holds .ne (cmpValue r o) = false := by subst h; cases o <;> rfl
theorem dd_eq_t (h : r = some .eq) : ifCond.holds .eq (cmpValue r o) = true := by subst h; cases o <;> rfl
theorem dd_eq_f (h : r ≠ some .eq) : ifCond.holds .eq (cmpValue r o) = false := by rcases r with _ | (_ | _ | _) <;> cases o <;> first | rfl | exact absurd rfl h
theorem dd_ge_t (h : r ≠ some .lt) : ifCond.holds .ge (cmpValue r .g) = true := by rcases r with _ | (_ | _ | _) <;> first | rfl | exact absurd rfl h
theorem dd_ge_f (h : r = some .lt) : ifCond.holds .ge (cmpValue r .g) = false := by subst h; rfl
theorem dd_le_t (h : r ≠ some .gt) : ifCond.holds .le (cmpValue r .l) = true := by rcases r with _ | (_ | _ | _) <;> first | rfl | exact absurd rfl h
theorem dd_le_f (h : r = some .gt) : ifCond.holds .le (cmpValue r .l) = false := by subst h; rfl
theorem dd_gt_f (h : r = some .lt ∨ r = some .eq) : ifCond.holds .gt (cmpValue r .g) = false := by rcases h with h | h <;> (subst h; rfl)
theorem dd_lt_f (h : r = some .gt ∨ r = some .eq) : ifCond.holds .lt (cmpValue r .l) = false := by rcases h with h | h <;> (subst h; rfl)
theorem dd_lt_t (h : r = some .lt) : ifCond.holds .lt (cmpValue r o) = true := by subst h; cases o <;> rfl
end Cmp
end Steps1
/-! ## arrays, by the list of what they hold -/
section Arrays
variable {p : Program} {l : Launch} {e : Env} {R : Room} {s : State} {m : MethodId} {args : Array Value} {below : List Frame} {meth : Method} {c : Code} {T : State} {locs : List Loc} {cells slots : Nat} {P : Outcome → State → Prop} {pc : Nat} {L : Array Slot} {st : List Value} {Z : State} {h h' : Heap} {a b : Addr} {a0 : Array Value} {k : ClassId} {ty : FieldType} {vs : List Value} {v : Value} {sl : Nat} {ws : List Addr}
/-- at a lies an array of components ty, of the class numbered k, that holds vs -/
def AR (Z : State) (h : Heap) (a : Addr) (k : ClassId) (ty : FieldType) (vs : List Value) : Prop := ∃ c : Cell, Arr Z h a c ty ∧ c.cls = k ∧ c.slots = vs.toArray
theorem AR.lt (F : AR Z h a k ty vs) : a < h.size := by obtain ⟨c, A, -⟩ := F; exact A.lt
theorem AR.ext (F : AR Z h a k ty vs) (E : Ext h h') : AR Z h' a k ty vs := by obtain ⟨c, A, r⟩ := F; exact ⟨c, A.ext E, r⟩
theorem AR.other (F : AR Z h b k ty vs) (W : Wr h h' a sl v) (q : b ≠ a) : AR Z h' b k ty vs := by obtain ⟨c, A, r⟩ := F; exact ⟨c, A.other W q, r⟩
theorem AR.keep (F : AR Z h a k ty vs) (K : Keep h h' ws) (q : a ∉ ws) : AR Z h' a k ty vs := by obtain ⟨c, A, r⟩ := F; exact ⟨c, ⟨K.2.1 a c A.1 q, A.2⟩, r⟩
theorem AR.same (F : AR Z h a k ty vs) (W : Wr h h' a sl v) : AR Z h' a k ty (vs.set sl v) := by
  obtain ⟨c, A, r1, r2⟩ := F
  exact ⟨c.setSlot sl v, A.same W, r1, by simp [Cell.setSlot, r2]⟩
theorem ar_len {c : Cell} (r : c.slots = vs.toArray) : c.slots.size = vs.length := by rw [r]; simp
theorem ar_in {c : Cell} (r : c.slots = vs.toArray) {j : Int32} {i : Nat} (hj : ¬ j < 0 ∧ j.toNatClampNeg = i) (hv : vs[i]? = some v) : ¬ (j < 0 ∨ c.slots.size ≤ j.toNatClampNeg) ∧ c.slots[j.toNatClampNeg]? = some v := by
  obtain ⟨h1, rfl⟩ := hj
  have h2 : j.toNatClampNeg < vs.length := (List.getElem?_eq_some_iff.mp hv).1
  refine ⟨?_, by rw [r]; simpa using hv⟩
  rintro (q | q)
  · exact h1 q
  · rw [ar_len r] at q; omega
theorem s_len (X : Stand p l e R s m args below meth c T locs cells slots) (hx : p.tables.exec = Jvm.exec) (hZ : Z.Warmed39 s.vm) (eT : T.heap = h) (F : AR Z h a k ty vs) (hd : decode c.code pc = .ok (.arraylength, 1)) (n : Int32) (hn : vs.length.toInt32 = n) (pc' : Nat) (hp : pc + 1 = pc') (g : Go p e below P (T.setTop (mkF m pc' L (.int n :: st)))) : Go p e below P (T.setTop (mkF m pc L (.ref a :: st))) := by
  obtain ⟨cl, A, r1, r2⟩ := F
  subst hp hn
  rw [← ar_len r2] at g
  exact Go.via (fun _ k => X.arraylength hx (by rw [eT]; exact A.1) (State.isArrayOf_alike hZ.alike A.2.1) (g := mkF m pc L (.ref a :: st)) rfl rfl hd _ k) g
theorem s_iaload (X : Stand p l e R s m args below meth c T locs cells slots) (hx : p.tables.exec = Jvm.exec) (hZ : Z.Warmed39 s.vm) (eT : T.heap = h) (F : AR Z h a k .int vs) (hd : decode c.code pc = .ok (.iaload, 1)) {j : Int32} (i : Nat) (hj : ¬ j < 0 ∧ j.toNatClampNeg = i) (v : Value) (hv : vs[i]? = some v) (pc' : Nat) (hp : pc + 1 = pc') (g : Go p e below P (T.setTop (mkF m pc' L (v :: st)))) : Go p e below P (T.setTop (mkF m pc L (.int j :: .ref a :: st))) := by
  obtain ⟨cl, A, r1, r2⟩ := F
  obtain ⟨q1, q2⟩ := ar_in r2 hj hv
  subst hp
  exact Go.via (fun _ k => X.iaload hx (by rw [eT]; exact A.1) (State.isArrayOf_alike hZ.alike A.2.1) A.2.2 q1 q2 (g := mkF m pc L (.int j :: .ref a :: st)) rfl rfl hd _ k) g
theorem s_laload (X : Stand p l e R s m args below meth c T locs cells slots) (hx : p.tables.exec = Jvm.exec) (hZ : Z.Warmed39 s.vm) (eT : T.heap = h) (F : AR Z h a k .long vs) (hd : decode c.code pc = .ok (.laload, 1)) {j : Int32} (i : Nat) (hj : ¬ j < 0 ∧ j.toNatClampNeg = i) (v : Value) (hv : vs[i]? = some v) (pc' : Nat) (hp : pc + 1 = pc') (g : Go p e below P (T.setTop (mkF m pc' L (v :: st)))) : Go p e below P (T.setTop (mkF m pc L (.int j :: .ref a :: st))) := by
  obtain ⟨cl, A, r1, r2⟩ := F
  obtain ⟨q1, q2⟩ := ar_in r2 hj hv
  subst hp
  exact Go.via (fun _ k => X.laload hx (by rw [eT]; exact A.1) (State.isArrayOf_alike hZ.alike A.2.1) A.2.2 q1 q2 (g := mkF m pc L (.int j :: .ref a :: st)) rfl rfl hd _ k) g
theorem s_daload (X : Stand p l e R s m args below meth c T locs cells slots) (hx : p.tables.exec = Jvm.exec) (hZ : Z.Warmed39 s.vm) (eT : T.heap = h) (F : AR Z h a k .double vs) (hd : decode c.code pc = .ok (.daload, 1)) {j : Int32} (i : Nat) (hj : ¬ j < 0 ∧ j.toNatClampNeg = i) (v : Value) (hv : vs[i]? = some v) (pc' : Nat) (hp : pc + 1 = pc') (g : Go p e below P (T.setTop (mkF m pc' L (v :: st)))) : Go p e below P (T.setTop (mkF m pc L (.int j :: .ref a :: st))) := by
  obtain ⟨cl, A, r1, r2⟩ := F
  obtain ⟨q1, q2⟩ := ar_in r2 hj hv
  subst hp
  exact Go.via (fun _ k => X.daload hx (by rw [eT]; exact A.1) (State.isArrayOf_alike hZ.alike A.2.1) A.2.2 q1 q2 (g := mkF m pc L (.int j :: .ref a :: st)) rfl rfl hd _ k) g
theorem s_aaload (X : Stand p l e R s m args below meth c T locs cells slots) (hx : p.tables.exec = Jvm.exec) (hZ : Z.Warmed39 s.vm) (eT : T.heap = h) (F : AR Z h a k ty vs) (ht : ty.isReference = true) (hd : decode c.code pc = .ok (.aaload, 1)) {j : Int32} (i : Nat) (hj : ¬ j < 0 ∧ j.toNatClampNeg = i) (v : Value) (hv : vs[i]? = some v) (pc' : Nat) (hp : pc + 1 = pc') (g : Go p e below P (T.setTop (mkF m pc' L (v :: st)))) : Go p e below P (T.setTop (mkF m pc L (.int j :: .ref a :: st))) := by
  obtain ⟨cl, A, r1, r2⟩ := F
  obtain ⟨q1, q2⟩ := ar_in r2 hj hv
  subst hp
  exact Go.via (fun _ k => X.aaload hx (by rw [eT]; exact A.1) (State.isArrayOf_alike hZ.alike A.2.1) ht A.2.2 q1 q2 (g := mkF m pc L (.int j :: .ref a :: st)) rfl rfl hd _ k) g
theorem s_iastore (X : Stand p l e R s m args below meth c T locs cells slots) (hx : p.tables.exec = Jvm.exec) (hZ : Z.Warmed39 s.vm) (eT : T.heap = h) (F : AR Z h a k .int vs) (hd : decode c.code pc = .ok (.iastore, 1)) (L : Array Slot) (st : List Value) {j : Int32} (i : Nat) (hj : ¬ j < 0 ∧ j.toNatClampNeg = i) (hi : i < vs.length) (x : Int32) (vs' : List Value) (hvs : vs.set i (.int x) = vs') (pc' : Nat) (hp : pc + 1 = pc') :
    ∃ T' h', Stand p l e R s m args below meth c T' (locs ++ [⟨a, i⟩]) cells slots ∧ T'.heap = h' ∧ Wr h h' a i (.int x) ∧ AR Z h' a k .int vs' ∧ ∀ t, Steps p.tables e below (T'.setTop (mkF m pc' L st)) t → Steps p.tables e below (T.setTop (mkF m pc L (.int x :: .int j :: .ref a :: st))) t := by
  obtain ⟨cl, A, r1, r2⟩ := F
  obtain ⟨q1, -⟩ := ar_in r2 hj (List.getElem?_eq_getElem hi)
  obtain ⟨hj1, rfl⟩ := hj
  subst hp hvs
  obtain ⟨T', h', X', e', W, st'⟩ := stI X hx hZ eT A q1 (g := mkF m pc L (.int x :: .int j :: .ref a :: st)) rfl rfl hd
  exact ⟨T', h', X', e', W, AR.same ⟨cl, A, r1, r2⟩ W, st'⟩
theorem s_lastore (X : Stand p l e R s m args below meth c T locs cells slots) (hx : p.tables.exec = Jvm.exec) (hZ : Z.Warmed39 s.vm) (eT : T.heap = h) (F : AR Z h a k .long vs) (hd : decode c.code pc = .ok (.lastore, 1)) (L : Array Slot) (st : List Value) {j : Int32} (i : Nat) (hj : ¬ j < 0 ∧ j.toNatClampNeg = i) (hi : i < vs.length) (x : Int64) (vs' : List Value) (hvs : vs.set i (.long x) = vs') (pc' : Nat) (hp : pc + 1 = pc') :
    ∃ T' h', Stand p l e R s m args below meth c T' (locs ++ [⟨a, i⟩]) cells slots ∧ T'.heap = h' ∧ Wr h h' a i (.long x) ∧ AR Z h' a k .long vs' ∧ ∀ t, Steps p.tables e below (T'.setTop (mkF m pc' L st)) t → Steps p.tables e below (T.setTop (mkF m pc L (.long x :: .int j :: .ref a :: st))) t := by
  obtain ⟨cl, A, r1, r2⟩ := F
  obtain ⟨q1, -⟩ := ar_in r2 hj (List.getElem?_eq_getElem hi)
  obtain ⟨hj1, rfl⟩ := hj
  subst hp hvs
  obtain ⟨T', h', X', e', W, st'⟩ := stJ X hx hZ eT A q1 (g := mkF m pc L (.long x :: .int j :: .ref a :: st)) rfl rfl hd
  exact ⟨T', h', X', e', W, AR.same ⟨cl, A, r1, r2⟩ W, st'⟩
theorem s_dastore (X : Stand p l e R s m args below meth c T locs cells slots) (hx : p.tables.exec = Jvm.exec) (hZ : Z.Warmed39 s.vm) (eT : T.heap = h) (F : AR Z h a k .double vs) (hd : decode c.code pc = .ok (.dastore, 1)) (L : Array Slot) (st : List Value) {j : Int32} (i : Nat) (hj : ¬ j < 0 ∧ j.toNatClampNeg = i) (hi : i < vs.length) (x : UInt64) (vs' : List Value) (hvs : vs.set i (.double x) = vs') (pc' : Nat) (hp : pc + 1 = pc') :
    ∃ T' h', Stand p l e R s m args below meth c T' (locs ++ [⟨a, i⟩]) cells slots ∧ T'.heap = h' ∧ Wr h h' a i (.double x) ∧ AR Z h' a k .double vs' ∧ ∀ t, Steps p.tables e below (T'.setTop (mkF m pc' L st)) t → Steps p.tables e below (T.setTop (mkF m pc L (.double x :: .int j :: .ref a :: st))) t := by
  obtain ⟨cl, A, r1, r2⟩ := F
  obtain ⟨q1, -⟩ := ar_in r2 hj (List.getElem?_eq_getElem hi)
  obtain ⟨hj1, rfl⟩ := hj
  subst hp hvs
  obtain ⟨T', h', X', e', W, st'⟩ := stD X hx hZ eT A q1 (g := mkF m pc L (.double x :: .int j :: .ref a :: st)) rfl rfl hd
  exact ⟨T', h', X', e', W, AR.same ⟨cl, A, r1, r2⟩ W, st'⟩
theorem s_aastore (X : Stand p l e R s m args below meth c T locs cells slots) (hx : p.tables.exec = Jvm.exec) (hZ : Z.Warmed39 s.vm) (eT : T.heap = h) (F : AR Z h a k ty vs) (ht : ty.isReference = true) (hd : decode c.code pc = .ok (.aastore, 1)) (L : Array Slot) (st : List Value) {j : Int32} (i : Nat) (hj : ¬ j < 0 ∧ j.toNatClampNeg = i) (hi : i < vs.length) (x : Value) (S : Sto Z h a x) (vs' : List Value) (hvs : vs.set i x = vs') (pc' : Nat) (hp : pc + 1 = pc') :
    ∃ T' h', Stand p l e R s m args below meth c T' (locs ++ [⟨a, i⟩]) cells slots ∧ T'.heap = h' ∧ Wr h h' a i x ∧ AR Z h' a k ty vs' ∧ ∀ t, Steps p.tables e below (T'.setTop (mkF m pc' L st)) t → Steps p.tables e below (T.setTop (mkF m pc L (x :: .int j :: .ref a :: st))) t := by
  obtain ⟨cl, A, r1, r2⟩ := F
  obtain ⟨q1, -⟩ := ar_in r2 hj (List.getElem?_eq_getElem hi)
  obtain ⟨hj1, rfl⟩ := hj
  subst hp hvs
  obtain ⟨T', h', X', e', W, st'⟩ := stR X hx hZ eT A q1 ht S (g := mkF m pc L (x :: .int j :: .ref a :: st)) rfl rfl hd
  exact ⟨T', h', X', e', W, AR.same ⟨cl, A, r1, r2⟩ W, st'⟩
theorem s_newarray (X : Stand p l e R s m args below meth c T locs cells slots) (hx : p.tables.exec = Jvm.exec) (hZ : Z.Warmed39 s.vm) {aty : ArrayType} (w : (Cond.arrayClass (newarray.typeOf aty)).before a0 Z = true) (eT : T.heap = h) (hd : decode c.code pc = .ok (.newarray aty, 2)) (L : Array Slot) (st : List Value) {n : Int32} (cap : Nat) (hn : ¬ n < 0 ∧ n.toNatClampNeg = cap) (vs : List Value) (hvs : List.replicate cap (defaultValue (newarray.typeOf aty)) = vs) (hb : cap * 8 ≤ 536870912) (hc : cells + 1 ≤ R.cells) (hl : slots + cap ≤ R.slots) (pc' : Nat) (hp : pc + 2 = pc') :
    ∃ T' h' cA, Stand p l e R s m args below meth c T' locs (cells + 1) (slots + cap) ∧ T'.heap = h' ∧ Ext h h' ∧ AR Z h' h.size cA (newarray.typeOf aty) vs ∧ ∀ t, Steps p.tables e below (T'.setTop (mkF m pc' L (.ref h.size :: st))) t → Steps p.tables e below (T.setTop (mkF m pc L (.int n :: st))) t := by
  obtain ⟨n1, n2⟩ := hn
  obtain ⟨T', h', cA, X', e', E, A, st'⟩ := newP X hx hZ w eT (g := mkF m pc L (.int n :: st)) rfl hd rfl n1 (cap := cap) (Nat.le_of_eq n2) hb hc hl
  subst hp hvs
  exact ⟨T', h', cA, X', e', E, ⟨_, A, rfl, by simp [newA, n2]⟩, st'⟩
end Arrays
/-! ## calls by contract -/
section Calls
variable {p : Program} {l : Launch} {e : Env} {R : Room} {s : State} {m : MethodId} {args : Array Value} {below : List Frame} {meth : Method} {c : Code} {T : State} {locs : List Loc} {cells slots : Nat} {P : Outcome → State → Prop} {pc : Nat} {L : Array Slot} {st : List Value} {Z : State} {h h' : Heap} {a0 : Array Value} {own : String} {index : Nat} {y : MethodName} {bytes : ByteArray} {ml : Nat} {rm : Room} {as : Array Value} {Q : Option Value → Heap → List Loc → Prop}
theorem ct_back {ret : Option FieldType} {len W : Nat} (C : Ct l Z y bytes ml ret [] rm as h Q) (hZ : Z.Warmed39 s.vm) (wc : (Cond.code y bytes ml ret).before a0 Z = true) (wz : (Cond.initialized y.cls).before a0 Z = true) (hf : rm.frames + 1 ≤ R.frames) (hl : W + (ml + 11) + rm.locals ≤ R.locals) :
    Back l R p e below s args y len W (fun A a => a = as ∧ A.U.heap = h ∧ A.cells + rm.cells ≤ R.cells ∧ A.slots + rm.slots ≤ R.slots)
      (fun A _ v B => ∃ L, Q v B.U.heap L ∧ B.locs = A.locs ++ L ∧ B.cells = A.cells + rm.cells ∧ B.slots = A.slots + rm.slots) := backOf C hZ wc wz hf hl
theorem callStat {ret : Option FieldType} (X : Stand p l e R s m args below meth c T locs cells slots) (hx : p.tables.exec = Jvm.exec) (hZ : Z.Warmed39 s.vm) (hown : s.vm.findClass own = some m.cls) (w1 : (Cond.methodLink own index y).before a0 Z = true) (w2 : (Cond.static y).before a0 Z = true) (w3 : (Cond.initialized y.cls).before a0 Z = true) (w4 : (Cond.code y bytes ml ret).before a0 Z = true) (hy : y.cls ≠ "java/lang/invoke/MethodHandle" ∧ y.cls ≠ "java/lang/invoke/VarHandle") (C : Ct l Z y bytes ml ret [] rm as h Q) (eT : T.heap = h) (hd : decode c.code pc = .ok (.invokestatic index, 3)) (hml : L.size = c.maxLocals) (argsL rest : List Value) (hst : st = argsL.reverse ++ rest) (has : argsL.toArray = as) {ps : List FieldType} {r : Option FieldType} (hpd : parseMethodDescriptor y.desc = some ⟨ps, r⟩) (hln : argsL.length = ps.length) (W : Nat) (hW : 2 * 0 + (rest.map fun v => v.category).sum ≤ W) (hfr : rm.frames + 1 ≤ R.frames) (hlo : W + (ml + 11) + rm.locals ≤ R.locals) (hc : cells + rm.cells ≤ R.cells) (hs : slots + rm.slots ≤ R.slots) :
    ∃ v T' L', Stand p l e R s m args below meth c T' (locs ++ L') (cells + rm.cells) (slots + rm.slots) ∧ Q v T'.heap L' ∧ ∀ t, Steps p.tables e below (T'.setTop (mkF m (pc + 3) L (v.toList ++ rest))) t → Steps p.tables e below (T.setTop (mkF m pc L st)) t := by
  obtain ⟨v, _, ⟨T', L1, k1, n1⟩, -, X', ⟨L', hQ, l1, y1, z1⟩, st'⟩ := Jvm.LawKit.callS X hx (y := y) hown (mvT hZ w1) (mvT hZ w2) (mvT hZ w3) (mvT hZ w4) hy (ct_back (W := W) C hZ w4 w3 hfr hlo) (g := mkF m pc L st) rfl hml (argsL := argsL) (rest := rest) (lenOf hpd hln) hst hW hd (fun _ _ => ⟨has, eT, hc, hs⟩)
  dsimp only [Pt.U, Pt.locs, Pt.cells, Pt.slots] at X' l1 y1 z1 st' hQ
  subst l1 y1 z1
  exact ⟨v, T', L', X', hQ, st'⟩
theorem callInit (X : Stand p l e R s m args below meth c T locs cells slots) (hx : p.tables.exec = Jvm.exec) (hZ : Z.Warmed39 s.vm) (hown : s.vm.findClass own = some m.cls) (hin : y.name = "<init>") (w1 : (Cond.methodLink own index y).before a0 Z = true) (w2 : (Cond.instanceMethod y).before a0 Z = true) (w3 : (Cond.initialized y.cls).before a0 Z = true) (w4 : (Cond.code y bytes ml none).before a0 Z = true) (hy : y.cls ≠ "java/lang/invoke/MethodHandle" ∧ y.cls ≠ "java/lang/invoke/VarHandle") (C : Ct l Z y bytes ml none [] rm as h Q) (eT : T.heap = h) (hd : decode c.code pc = .ok (.invokespecial index, 3)) (hml : L.size = c.maxLocals) (a : Addr) (argsL rest : List Value) (hst : st = argsL.reverse ++ .ref a :: rest) (has : (.ref a :: argsL).toArray = as) {ps : List FieldType} {r : Option FieldType} (hpd : parseMethodDescriptor y.desc = some ⟨ps, r⟩) (hln : argsL.length = ps.length) (W : Nat) (hW : 2 * 0 + (rest.map fun v => v.category).sum ≤ W) (hfr : rm.frames + 1 ≤ R.frames) (hlo : W + (ml + 11) + rm.locals ≤ R.locals) (hc : cells + rm.cells ≤ R.cells) (hs : slots + rm.slots ≤ R.slots) :
    ∃ v T' L', Stand p l e R s m args below meth c T' (locs ++ L') (cells + rm.cells) (slots + rm.slots) ∧ Q v T'.heap L' ∧ ∀ t, Steps p.tables e below (T'.setTop (mkF m (pc + 3) L (v.toList ++ rest))) t → Steps p.tables e below (T.setTop (mkF m pc L st)) t := by
  obtain ⟨v, _, ⟨T', L1, k1, n1⟩, -, X', ⟨L', hQ, l1, y1, z1⟩, st'⟩ := X.specialBack hx (y := y) hin hown (mvT hZ w1) (mvT hZ w2) (mvT hZ w4) hy (ct_back (W := W) C hZ w4 w3 hfr hlo) (g := mkF m pc L st) rfl hml (Steps.refl _) (a := a) (argsL := argsL) (rest := rest) (lenOf hpd hln) hst hW hd (fun _ _ => ⟨has, eT, hc, hs⟩)
  dsimp only [Pt.U, Pt.locs, Pt.cells, Pt.slots] at X' l1 y1 z1 st' hQ
  subst l1 y1 z1
  exact ⟨v, T', L', X', hQ, fun t k => st'.trans k⟩
theorem callVirt {ret : Option FieldType} {C0 : String} (X : Stand p l e R s m args below meth c T locs cells slots) (hx : p.tables.exec = Jvm.exec) (hZ : Z.Warmed39 s.vm) (hown : s.vm.findClass own = some m.cls) (w1 : (Cond.methodLink own index y).before a0 Z = true) (w2 : (Cond.declares y).before a0 Z = true) (w3 : (Cond.selects C0 y y).before a0 Z = true) (w4 : (Cond.instanceMethod y).before a0 Z = true) (w5 : (Cond.initialized y.cls).before a0 Z = true) (w6 : (Cond.code y bytes ml ret).before a0 Z = true) (hy : y.cls ≠ "java/lang/invoke/MethodHandle" ∧ y.cls ≠ "java/lang/invoke/VarHandle") (C : Ct l Z y bytes ml ret [] rm as h Q) (eT : T.heap = h) (a : Addr) (E : Exa Z h a C0) (hd : decode c.code pc = .ok (.invokevirtual index, 3)) (hml : L.size = c.maxLocals) (argsL rest : List Value) (hst : st = argsL.reverse ++ .ref a :: rest) (has : (.ref a :: argsL).toArray = as) {ps : List FieldType} {r : Option FieldType} (hpd : parseMethodDescriptor y.desc = some ⟨ps, r⟩) (hln : argsL.length = ps.length) (W : Nat) (hW : 2 * 0 + (rest.map fun v => v.category).sum ≤ W) (hfr : rm.frames + 1 ≤ R.frames) (hlo : W + (ml + 11) + rm.locals ≤ R.locals) (hc : cells + rm.cells ≤ R.cells) (hs : slots + rm.slots ≤ R.slots) :
    ∃ v T' L', Stand p l e R s m args below meth c T' (locs ++ L') (cells + rm.cells) (slots + rm.slots) ∧ Q v T'.heap L' ∧ ∀ t, Steps p.tables e below (T'.setTop (mkF m (pc + 3) L (v.toList ++ rest))) t → Steps p.tables e below (T.setTop (mkF m pc L st)) t := by
  obtain ⟨cq, kq, qa, qb, qc⟩ := isOf hZ eT E
  obtain ⟨v, _, ⟨T', L1, k1, n1⟩, -, X', ⟨L', hQ, l1, y1, z1⟩, st'⟩ := X.virtualBack hx (y := y) (z := y) hown (mvT hZ w1) (mvT hZ w2) (notFace_of_selects (args := #[]) (mvT hZ w3)) (mvT hZ w3) (mvT hZ w4) hy (ct_back (W := W) C hZ w6 w5 hfr hlo) qa qc (g := mkF m pc L st) rfl hml (Steps.refl _) (argsL := argsL) (rest := rest) (lenOf hpd hln) hst hW hd (fun _ _ => ⟨has, eT, hc, hs⟩)
  dsimp only [Pt.U, Pt.locs, Pt.cells, Pt.slots] at X' l1 y1 z1 st' hQ
  subst l1 y1 z1
  exact ⟨v, T', L', X', hQ, fun t k => st'.trans k⟩
end Calls
end Jvm.OwnGo
namespace Jvm.OwnFP
open Jvm.FP Jvm.FP.Core Jvm.Free.Fl
/-- a * 2^x = b -/
def PE (a b : Nat) (x : Int) : Prop := a * 2 ^ x.toNat = b * 2 ^ (-x).toNat
theorem pe_iff {a b : Nat} {x : Int} (y z : Nat) (h : x = (y : Int) - z) : PE a b x ↔ a * 2 ^ y = b * 2 ^ z := by
  unfold PE
  obtain ⟨d, rfl, rfl⟩ : ∃ d, y = x.toNat + d ∧ z = (-x).toNat + d := ⟨min y z, by omega, by omega⟩
  have p1 : 0 < 2 ^ d := Nat.two_pow_pos _
  rw [Nat.pow_add, Nat.pow_add, ← Nat.mul_assoc, ← Nat.mul_assoc]
  exact ⟨fun q => by rw [q], fun q => Nat.eq_of_mul_eq_mul_right p1 q⟩
theorem PE.symm {a b : Nat} {x : Int} (h : PE a b x) : PE b a (-x) := by
  unfold PE at h ⊢; rw [Int.neg_neg]; exact h.symm
theorem PE.trans {a b c : Nat} {x y : Int} (h : PE a b x) (g : PE b c y) : PE a c (x + y) := by
  rw [pe_iff (x.toNat + y.toNat) ((-x).toNat + (-y).toNat) (by omega)]
  unfold PE at h g
  rw [Nat.pow_add, Nat.pow_add, ← Nat.mul_assoc, h, Nat.mul_right_comm, g, Nat.mul_assoc, Nat.mul_comm (2 ^ (-y).toNat)]
theorem PE.mul {a b : Nat} {x : Int} (h : PE a b x) (c : Nat) : PE (c * a) (c * b) x := by
  unfold PE at h ⊢; rw [Nat.mul_assoc, Nat.mul_assoc, h]
theorem PE.of {a b : Nat} {y z : Nat} (h : a * 2 ^ y = b * 2 ^ z) : PE a b ((y : Int) - z) := (pe_iff y z rfl).mpr h
theorem PE.cast {a b : Nat} {x y : Int} (h : PE a b x) (e : x = y) : PE a b y := e ▸ h
/-- the datum times 2^k -/
def sh (k : Int) : Datum → Datum
  | .fin s c q => .fin s c (q + k)
  | d => d
/-- the double a is i / 2^k, just so -/
def Dy (i : Int) (k : Nat) (a : UInt64) : Prop := Whole i (sh k (val64 a))
theorem Dy.fin {i : Int} {k : Nat} {a : UInt64} (h : Dy i k a) : ∃ s c q, val64 a = .fin s c q := by
  unfold Dy at h
  cases hv : val64 a with
  | nan => rw [hv] at h; exact h.elim
  | inf s => rw [hv] at h; exact h.elim
  | fin s c q => exact ⟨s, c, q, rfl⟩
theorem Dy.dfin {i : Int} {k : Nat} {a : UInt64} (h : Dy i k a) : DFin a := h.fin
theorem Dy.fin64 {i : Int} {k : Nat} {a : UInt64} (h : Dy i k a) : Fin64 a := fin64_core.mpr h.fin
theorem Dy.nn {i : Int} {k : Nat} {a : UInt64} (h : Dy i k a) : NoNaN64 a := h.fin64.noNaN
theorem Dy.ne {i : Int} {k : Nat} {a : UInt64} (h : Dy i k a) : val64 a ≠ .nan := h.dfin.ne_nan
theorem dy_int {i : Int} {a : UInt64} (h : DInt i a) : Dy i 0 a := by
  unfold DInt at h; unfold Dy
  cases hv : val64 a with
  | nan => rw [hv] at h; exact h.elim
  | inf s => rw [hv] at h; exact h.elim
  | fin s c q => rw [hv] at h; show Whole i (.fin s c (q + 0)); rw [Int.add_zero]; exact h
theorem Dy.int {i : Int} {a : UInt64} (h : Dy i 0 a) : DInt i a := by
  obtain ⟨s, c, q, hv⟩ := h.fin
  unfold Dy at h; unfold DInt
  rw [hv] at h ⊢
  have h : Whole i (.fin s c (q + 0)) := h
  rw [Int.add_zero] at h; exact h
theorem dy_i2d (x : Int32) : Dy x.toInt 0 (FP.i2d x) := dy_int (i2d_int x)
theorem dy_l2d {x : Int64} (h : x.toInt.natAbs ≤ 2 ^ 53) : Dy x.toInt 0 (FP.l2d x) := dy_int (l2d_int h)
theorem whole_pe {i : Int} {s : Bool} {c : Nat} {q : Int} (h : Whole i (.fin s c q)) : PE c i.natAbs q := whole_natAbs h
/-- what is so small a multiple of a power of two is a double -/
theorem dy_rnd {i : Int} {k : Nat} {s : Bool} {n : Nat} (hn : i.natAbs = n) (hs : i ≠ 0 → s = decide (i < 0)) (hi : n ≤ 2 ^ 53) (hk : k ≤ 1000) : Whole i (sh k (roundRatio b64 s n 1 (-(k : Int)))) := by
  by_cases h0 : n = 0
  · have : i = 0 := by omega
    subst this
    unfold roundRatio
    rw [if_pos h0]
    show signed s (0 * _) = 0 * _
    rw [Nat.zero_mul, Int.zero_mul]; exact signed_zero s
  · obtain ⟨c, q, hfit, hv⟩ := natFit good_b64 wide_b64 s (n := n) hi
    have hq : q = -1074 ∨ b64.tails ≤ c := by have := hfit.2.2.2; rw [qmin_b64] at this; exact this
    have hv' : n * 2 ^ (-q).toNat = c * 2 ^ q.toNat := by
      rw [show (0 - q).toNat = (-q).toNat by omega, show (q - 0).toNat = q.toNat by omega, Nat.mul_one] at hv; exact hv
    have hc : c < 2 ^ 53 := hfit.1
    have hq2 : q ≤ b64.qmax := hfit.2.2.1
    have hq1 : -53 ≤ q := by
      refine Int.le_of_not_gt fun hlt => ?_
      have e1 : q.toNat = 0 := by omega
      rw [e1, Nat.pow_zero, Nat.mul_one] at hv'
      have : 2 ^ 53 ≤ 2 ^ (-q).toNat := Nat.pow_le_pow_right (by decide) (by omega)
      have h2 : 1 * 2 ^ 53 ≤ n * 2 ^ (-q).toNat := Nat.mul_le_mul (by omega) this
      omega
    have hfit2 : Core.fits b64 (.fin s c (q - k)) := by
      refine ⟨hfit.1, ?_, by omega, Or.inr ?_⟩
      · rw [qmin_b64]; omega
      · rcases hq with hq | hq
        · omega
        · exact hq
    rw [roundRatio_exact good_b64 (by decide) hfit2 (by
      rw [show (-(k : Int) - (q - k)).toNat = (-q).toNat by omega, show (q - (k : Int) - -(k : Int)).toNat = q.toNat by omega, Nat.mul_one]; exact hv')]
    show Whole i (.fin s c (q - k + k))
    rw [show q - (k : Int) + k = q by omega]
    show signed s (c * 2 ^ q.toNat) = i * _
    rw [← hv', signed_mul, hs (by omega)]
    congr 1
    unfold signed
    by_cases h : i < 0 <;> simp [h] <;> omega
theorem dy_round {i : Int} {k : Nat} {s : Bool} {c : Nat} {q : Int} (h : Whole i (.fin s c (q + k))) (hi : i.natAbs ≤ 2 ^ 53) (hk : k ≤ 1000) : Whole i (sh k (round b64 (.fin s c q))) := by
  have e : round b64 (.fin s c q) = roundRatio b64 s i.natAbs 1 (-(k : Int)) := by
    refine roundRatio_congr (by decide) (by decide) ?_
    have := whole_natAbs h
    rw [show (q - -(k : Int)).toNat = (q + k).toNat by omega, show (-(k : Int) - q).toNat = (-(q + k)).toNat by omega]
    simpa using this
  rw [e]
  exact dy_rnd rfl (fun hz => whole_sign h hz) hi hk
theorem sh_sum (k : Int) (s : Bool) (c : Nat) (q : Int) (t : Bool) (d : Nat) (r : Int) : sh k (exactSum (.fin s c q) (.fin t d r)) = exactSum (.fin s c (q + k)) (.fin t d (r + k)) := by
  have e : min (q + k) (r + k) = min q r + k := by omega
  simp only [exactSum, sh, e, sumUnits, inUnits]
  rw [show q + k - (min q r + k) = q - min q r by omega, show r + k - (min q r + k) = r - min q r by omega]
theorem dy_add {i j : Int} {k : Nat} {a b : UInt64} (ha : Dy i k a) (hb : Dy j k b) (h : (i + j).natAbs ≤ 2 ^ 53) (hk : k ≤ 1000) : Dy (i + j) k (FP.dadd a b) := by
  obtain ⟨s, c, q, ea⟩ := ha.fin
  obtain ⟨t, d, r, eb⟩ := hb.fin
  unfold Dy at ha hb ⊢
  rw [ea] at ha; rw [eb] at hb
  have w : Whole (i + j) (sh k (exactSum (.fin s c q) (.fin t d r))) := by rw [sh_sum]; exact whole_sum ha hb
  rw [show FP.dadd a b = Core.dadd a b from rfl, val64_dadd, ea, eb]
  exact dy_round w h hk
theorem dy_neg {i : Int} {k : Nat} {a : UInt64} (ha : Dy i k a) : Dy (-i) k (FP.dneg a) := by
  obtain ⟨s, c, q, ea⟩ := ha.fin
  unfold Dy at ha ⊢
  rw [ea] at ha
  rw [FP.val64_dneg, ea]
  exact whole_negate ha
theorem dy_sub {i j : Int} {k : Nat} {a b : UInt64} (ha : Dy i k a) (hb : Dy j k b) (h : (i - j).natAbs ≤ 2 ^ 53) (hk : k ≤ 1000) : Dy (i - j) k (FP.dsub a b) := by
  obtain ⟨s, c, q, ea⟩ := ha.fin
  obtain ⟨t, d, r, eb⟩ := hb.fin
  unfold Dy at ha hb ⊢
  rw [ea] at ha; rw [eb] at hb
  have hb' : Whole (-j) (.fin (!t) d (r + k)) := whole_negate hb
  have w : Whole (i - j) (sh k (exactSum (.fin s c q) (.fin (!t) d r))) := by rw [sh_sum]; exact whole_sum ha hb'
  rw [show FP.dsub a b = Core.dsub a b from rfl, val64_dsub, ea, eb]
  exact dy_round w h hk
theorem dy_mul {i j : Int} {k n : Nat} {a b : UInt64} (ha : Dy i k a) (hb : Dy j n b) (h : (i * j).natAbs ≤ 2 ^ 53) (hk : k + n ≤ 1000) : Dy (i * j) (k + n) (FP.dmul a b) := by
  obtain ⟨s, c, q, ea⟩ := ha.fin
  obtain ⟨t, d, r, eb⟩ := hb.fin
  unfold Dy at ha hb ⊢
  rw [ea] at ha; rw [eb] at hb
  have w : Whole (i * j) (.fin (s != t) (c * d) (q + r + (k + n : Nat))) := by
    have := whole_product ha hb
    rw [show q + r + ((k + n : Nat) : Int) = q + k + (r + n) by omega]; exact this
  rw [show FP.dmul a b = Core.dmul a b from rfl, val64_dmul, ea, eb]
  exact dy_round w h hk
theorem dy_up {i : Int} {k : Nat} {a : UInt64} (n : Nat) (ha : Dy i k a) : Dy (i * (2 ^ n : Nat)) (k + n) a := by
  obtain ⟨s, c, q, ea⟩ := ha.fin
  unfold Dy at ha ⊢
  rw [ea] at ha ⊢
  have ha : signed s (c * 2 ^ (q + k).toNat) = i * ((2 ^ (-(q + k)).toNat : Nat) : Int) := ha
  show signed s (c * 2 ^ (q + (k + n : Nat)).toNat) = i * (2 ^ n : Nat) * ((2 ^ (-(q + (k + n : Nat))).toNat : Nat) : Int)
  have p2 : ((2 ^ (-(q + (k : Int))).toNat : Nat) : Int) ≠ 0 := by have := Nat.two_pow_pos (-(q + (k : Int))).toNat; omega
  have e1 : (q + ((k + n : Nat) : Int)).toNat + (-(q + (k : Int))).toNat = (q + (k : Int)).toNat + (n + (-(q + ((k + n : Nat) : Int))).toNat) := by omega
  rw [signed_mul] at ha ⊢
  refine Int.eq_of_mul_eq_mul_right p2 ?_
  rw [Int.mul_assoc, ← Int.natCast_mul, ← Nat.pow_add, e1, Nat.pow_add, Int.natCast_mul, ← Int.mul_assoc, ha, Nat.pow_add, Int.natCast_mul]
  ac_rfl
theorem dy_cmp {i j : Int} {k : Nat} {a b : UInt64} (ha : Dy i k a) (hb : Dy j k b) : FP.dcmp a b = some (compare i j) := by
  obtain ⟨s, c, q, ea⟩ := ha.fin
  obtain ⟨t, d, r, eb⟩ := hb.fin
  unfold Dy at ha hb
  rw [ea] at ha; rw [eb] at hb
  have w := order_whole ha hb
  show order (val64 a) (val64 b) = _
  rw [ea, eb, ← w]
  have e : min (q + k) (r + k) = min q r + k := by omega
  simp only [order, sh, e, inUnits]
  rw [show q + k - (min q r + k) = q - min q r by omega, show r + k - (min q r + k) = r - min q r by omega]
theorem dy_div {i j t : Int} {k n r : Nat} {a b : UInt64} (ha : Dy i k a) (hb : Dy j n b) (hj : j ≠ 0) (h : i * (2 ^ (n + r) : Nat) = t * j * (2 ^ k : Nat)) (ht : t.natAbs ≤ 2 ^ 53) (hr : r ≤ 1000) : Dy t r (FP.ddiv a b) := by
  obtain ⟨s, c, q, ea⟩ := ha.fin
  obtain ⟨u, d, z, eb⟩ := hb.fin
  unfold Dy at ha hb ⊢
  rw [ea] at ha; rw [eb] at hb
  have ha : Whole i (.fin s c (q + k)) := ha
  have hb : Whole j (.fin u d (z + n)) := hb
  have hd : d ≠ 0 := fun e => hj ((whole_zero hb).mp e)
  rw [show FP.ddiv a b = Core.ddiv a b from rfl, val64_ddiv, ea, eb]
  show Whole t (sh r (if d = 0 then _ else roundRatio b64 (s != u) c d (q - z)))
  rw [if_neg hd]
  have pn : (0 : Int) < ((2 ^ (n + r) : Nat) : Int) := by have := Nat.two_pow_pos (n + r); omega
  have pk : (0 : Int) < ((2 ^ k : Nat) : Int) := by have := Nat.two_pow_pos k; omega
  have hn : i.natAbs * 2 ^ (n + r) = t.natAbs * j.natAbs * 2 ^ k := by
    have := congrArg Int.natAbs h
    rw [Int.natAbs_mul, Int.natAbs_mul, Int.natAbs_mul, Int.natAbs_natCast, Int.natAbs_natCast] at this
    exact this
  have e : roundRatio b64 (s != u) c d (q - z) = roundRatio b64 (s != u) t.natAbs 1 (-(r : Int)) := by
    refine roundRatio_congr (by omega) (by decide) ?_
    have g := ((whole_pe ha).trans (PE.of hn)).trans ((whole_pe hb).symm.mul t.natAbs)
    have g' : PE c (t.natAbs * d) (q - z + r) := g.cast (by omega)
    unfold PE at g'
    rw [show (q - z - -(r : Int)).toNat = (q - z + r).toNat by omega, show (-(r : Int) - (q - z)).toNat = (-(q - z + r)).toNat by omega, Nat.mul_one]
    exact g'
  rw [e]
  refine dy_rnd rfl (fun hz => ?_) ht hr
  have hi : i ≠ 0 := by
    rintro rfl
    rw [Int.zero_mul] at h
    rcases Int.mul_eq_zero.mp h.symm with q | q
    · rcases Int.mul_eq_zero.mp q with q | q
      · exact hz q
      · exact hj q
    · omega
  rw [whole_sign ha hi, whole_sign hb hj]
  have g1 : i < 0 ↔ t * j < 0 := by
    constructor
    · intro q
      have : t * j * ((2 ^ k : Nat) : Int) < 0 := by rw [← h]; exact Int.mul_neg_of_neg_of_pos q pn
      exact Int.lt_of_not_ge fun q' => by have := Int.mul_nonneg q' (Int.le_of_lt pk); omega
    · intro q
      have : i * ((2 ^ (n + r) : Nat) : Int) < 0 := by rw [h]; exact Int.mul_neg_of_neg_of_pos q pk
      exact Int.lt_of_not_ge fun q' => by have := Int.mul_nonneg q' (Int.le_of_lt pn); omega
  rcases Int.lt_or_lt_of_ne hz with ht0 | ht0 <;> rcases Int.lt_or_lt_of_ne hj with hj0 | hj0
  · have q1 := Int.mul_pos_of_neg_of_neg ht0 hj0
    have q2 : ¬ i < 0 := by rw [g1]; omega
    simp [ht0, hj0, q2]
  · have q1 := Int.mul_neg_of_neg_of_pos ht0 hj0
    have q2 : i < 0 := by rw [g1]; exact q1
    have q3 : ¬ j < 0 := by omega
    simp [ht0, q2, q3]
  · have q1 := Int.mul_neg_of_pos_of_neg ht0 hj0
    have q2 : i < 0 := by rw [g1]; exact q1
    have q3 : ¬ t < 0 := by omega
    simp [hj0, q2, q3]
  · have q1 := Int.mul_pos ht0 hj0
    have q2 : ¬ i < 0 := by rw [g1]; omega
    have q3 : ¬ t < 0 := by omega
    have q4 : ¬ j < 0 := by omega
    simp [q2, q3, q4]
theorem dy_eq {i j : Int} {k : Nat} {a b : UInt64} (ha : Dy i k a) (hb : Dy j k b) (h : i = j) : FP.dcmp a b = some .eq := by
  rw [dy_cmp ha hb, h, compare_self_int]
theorem dy_lt {i j : Int} {k : Nat} {a b : UInt64} (ha : Dy i k a) (hb : Dy j k b) (h : i < j) : FP.dcmp a b = some .lt := by
  rw [dy_cmp ha hb, (compare_lt_iff i j).mpr h]
theorem dy_gt {i j : Int} {k : Nat} {a b : UInt64} (ha : Dy i k a) (hb : Dy j k b) (h : j < i) : FP.dcmp a b = some .gt := by
  rw [dy_cmp ha hb, (compare_gt_iff i j).mpr h]
theorem dy_cast {i j : Int} {k n : Nat} {a : UInt64} (h : Dy i k a) (e : i = j) (e' : k = n) : Dy j n a := by subst e e'; exact h
theorem dy_zero : Dy 0 0 (0 : UInt64) := by
  show Whole 0 (sh 0 (val64 0)); rw [val64_zero]
  show signed false (0 * _) = 0 * _
  rw [Nat.zero_mul, Int.zero_mul]; rfl
end Jvm.OwnFP
namespace Jvm.OwnFP
open Jvm.FP Jvm.FP.Core Jvm.Free.Fl
/-! ## numbers with a bound: an int, a long, a double that is i (over 2^k), i at most N -/
def Ib (N : Nat) (i : Int) (x : Int32) : Prop := x.toInt = i ∧ i.natAbs ≤ N
def Lb (N : Nat) (i : Int) (x : Int64) : Prop := x.toInt = i ∧ i.natAbs ≤ N
def Db (N : Nat) (i : Int) (k : Nat) (a : UInt64) : Prop := Dy i k a ∧ i.natAbs ≤ N
theorem Ib.lit (N : Nat) (i : Int) (x : Int32) (h : x.toInt = i ∧ i.natAbs ≤ N := by decide) : Ib N i x := h
theorem Lb.lit (N : Nat) (i : Int) (x : Int64) (h : x.toInt = i ∧ i.natAbs ≤ N := by decide) : Lb N i x := h
theorem Ib.any (x : Int32) : Ib (2 ^ 31) x.toInt x := ⟨rfl, by have := x.toInt_lt; have := x.le_toInt; omega⟩
theorem Ib.cast {N M : Nat} {i j : Int} {x : Int32} (h : Ib N i x) (e : i = j) (g : j.natAbs ≤ M) : Ib M j x := ⟨h.1.trans e, g⟩
theorem Lb.cast {N M : Nat} {i j : Int} {x : Int64} (h : Lb N i x) (e : i = j) (g : j.natAbs ≤ M) : Lb M j x := ⟨h.1.trans e, g⟩
theorem Db.cast {N M : Nat} {i j : Int} {k : Nat} {a : UInt64} (h : Db N i k a) (e : i = j) (g : j.natAbs ≤ M) : Db M j k a := by subst e; exact ⟨h.1, g⟩
theorem bn_add {a b : Int} {N M : Nat} (h1 : a.natAbs ≤ N) (h2 : b.natAbs ≤ M) : (a + b).natAbs ≤ N + M := by omega
theorem bn_sub {a b : Int} {N M : Nat} (h1 : a.natAbs ≤ N) (h2 : b.natAbs ≤ M) : (a - b).natAbs ≤ N + M := by omega
theorem bn_mul {a b : Int} {N M : Nat} (h1 : a.natAbs ≤ N) (h2 : b.natAbs ≤ M) : (a * b).natAbs ≤ N * M := by rw [Int.natAbs_mul]; exact Nat.mul_le_mul h1 h2
section
variable {N M : Nat} {i j : Int} {k n : Nat}
theorem Ib.add {x y : Int32} (h1 : Ib N i x) (h2 : Ib M j y) (h : N + M < 2147483648) : Ib (N + M) (i + j) (x + y) := by
  obtain ⟨rfl, b1⟩ := h1
  obtain ⟨rfl, b2⟩ := h2
  have b := bn_add b1 b2
  exact ⟨Jvm.Free.XT.add32 ⟨by omega, by omega⟩, b⟩
theorem Ib.sub {x y : Int32} (h1 : Ib N i x) (h2 : Ib M j y) (h : N + M < 2147483648) : Ib (N + M) (i - j) (x - y) := by
  obtain ⟨rfl, b1⟩ := h1
  obtain ⟨rfl, b2⟩ := h2
  have b := bn_sub b1 b2
  exact ⟨Jvm.Free.XT.sub32 ⟨by omega, by omega⟩, b⟩
theorem Ib.mul {x y : Int32} (h1 : Ib N i x) (h2 : Ib M j y) (h : N * M < 2147483648) : Ib (N * M) (i * j) (x * y) := by
  obtain ⟨rfl, b1⟩ := h1
  obtain ⟨rfl, b2⟩ := h2
  have b := bn_mul b1 b2
  exact ⟨Jvm.Free.XT.mul32 ⟨by omega, by omega⟩, b⟩
theorem Lb.add {x y : Int64} (h1 : Lb N i x) (h2 : Lb M j y) (h : N + M < 9223372036854775808) : Lb (N + M) (i + j) (x + y) := by
  obtain ⟨rfl, b1⟩ := h1
  obtain ⟨rfl, b2⟩ := h2
  have b := bn_add b1 b2
  exact ⟨Jvm.Free.XT.add64 ⟨by omega, by omega⟩, b⟩
theorem Lb.sub {x y : Int64} (h1 : Lb N i x) (h2 : Lb M j y) (h : N + M < 9223372036854775808) : Lb (N + M) (i - j) (x - y) := by
  obtain ⟨rfl, b1⟩ := h1
  obtain ⟨rfl, b2⟩ := h2
  have b := bn_sub b1 b2
  exact ⟨Jvm.Free.XT.sub64 ⟨by omega, by omega⟩, b⟩
theorem Lb.mul {x y : Int64} (h1 : Lb N i x) (h2 : Lb M j y) (h : N * M < 9223372036854775808) : Lb (N * M) (i * j) (x * y) := by
  obtain ⟨rfl, b1⟩ := h1
  obtain ⟨rfl, b2⟩ := h2
  have b := bn_mul b1 b2
  exact ⟨Jvm.Free.XT.mul64 ⟨by omega, by omega⟩, b⟩
theorem Lb.neg {x : Int64} (h1 : Lb N i x) (h : N < 9223372036854775808) : Lb N (-i) (-x) := by
  obtain ⟨rfl, h2⟩ := h1
  exact ⟨int64_neg (by omega), by omega⟩
theorem Ib.i2l {x : Int32} (h : Ib N i x) : Lb N i x.toInt64 := ⟨(Int32.toInt_toInt64 x).trans h.1, h.2⟩
theorem Lb.l2i {x : Int64} (h : Lb N i x) (hN : N < 2147483648) : Ib N i x.toInt32 := by
  obtain ⟨rfl, h2⟩ := h
  exact ⟨int64_toInt32 (by omega) (by omega), h2⟩
theorem Ib.i2d {x : Int32} (h : Ib N i x) : Db N i 0 (FP.i2d x) := by obtain ⟨rfl, h2⟩ := h; exact ⟨dy_i2d x, h2⟩
theorem Lb.l2d {x : Int64} (h : Lb N i x) (hN : N ≤ 9007199254740992) : Db N i 0 (FP.l2d x) := by obtain ⟨rfl, h2⟩ := h; exact ⟨dy_l2d (Nat.le_trans h2 hN), h2⟩
theorem Db.nn {a : UInt64} (h : Db N i k a) : NoNaN64 a := h.1.nn
theorem Db.add {a b : UInt64} (h1 : Db N i k a) (h2 : Db M j k b) (h : N + M ≤ 9007199254740992 ∧ k ≤ 1000) : Db (N + M) (i + j) k (FP.dadd a b) :=
  ⟨dy_add h1.1 h2.1 (Nat.le_trans (bn_add h1.2 h2.2) h.1) h.2, bn_add h1.2 h2.2⟩
theorem Db.sub {a b : UInt64} (h1 : Db N i k a) (h2 : Db M j k b) (h : N + M ≤ 9007199254740992 ∧ k ≤ 1000) : Db (N + M) (i - j) k (FP.dsub a b) :=
  ⟨dy_sub h1.1 h2.1 (Nat.le_trans (bn_sub h1.2 h2.2) h.1) h.2, bn_sub h1.2 h2.2⟩
theorem Db.mul {a b : UInt64} (h1 : Db N i k a) (h2 : Db M j n b) (h : N * M ≤ 9007199254740992 ∧ k + n ≤ 1000) : Db (N * M) (i * j) (k + n) (FP.dmul a b) :=
  ⟨dy_mul h1.1 h2.1 (Nat.le_trans (bn_mul h1.2 h2.2) h.1) h.2, bn_mul h1.2 h2.2⟩
theorem Db.neg {a : UInt64} (h1 : Db N i k a) : Db N (-i) k (FP.dneg a) := ⟨dy_neg h1.1, by have := h1.2; omega⟩
theorem Db.eq {a b : UInt64} (h1 : Db N i k a) (h2 : Db M j k b) (e : i = j) : FP.dcmp a b = some .eq := dy_eq h1.1 h2.1 e
theorem Db.up {a : UInt64} (h : Db N i k a) (n : Nat) : Db (N * 2 ^ n) (i * (2 ^ n : Nat)) (k + n) a := ⟨dy_up n h.1, by rw [Int.natAbs_mul, Int.natAbs_natCast]; exact Nat.mul_le_mul_right _ h.2⟩
theorem Db.zero : Db 0 0 0 (0 : UInt64) := ⟨dy_zero, Nat.le_refl _⟩
theorem Db.div2 {a b : UInt64} (e : Nat) (h1 : Db N i k a) (h2 : Db M ((2 ^ e : Nat) : Int) 0 b) (h : N ≤ 9007199254740992 ∧ k + e ≤ 1000) : Db N i (k + e) (FP.ddiv a b) := by
  refine ⟨dy_div h1.1 h2.1 (by have := Nat.two_pow_pos e; omega) ?_ (Nat.le_trans h1.2 h.1) h.2, h1.2⟩
  rw [Nat.zero_add, Nat.pow_add, Int.natCast_mul, Int.mul_assoc, Int.mul_comm ((2 ^ k : Nat) : Int)]
theorem Db.lit {a : UInt64} (s : Bool) (c : Nat) (q : Int) (N : Nat) (i : Int) (k : Nat) (e : val64 a = .fin s c q) (w : signed s (c * 2 ^ (q + k).toNat) = i * ((2 ^ (-(q + (k : Int))).toNat : Nat) : Int) ∧ i.natAbs ≤ N) : Db N i k a := by
  refine ⟨?_, w.2⟩
  unfold Dy; rw [e]; exact w.1
theorem Ib.re {x : Int32} (h : Ib N i x) : Ib N x.toInt x := ⟨rfl, by rw [h.1]; exact h.2⟩
theorem Lb.re {x : Int64} (h : Lb N i x) : Lb N x.toInt x := ⟨rfl, by rw [h.1]; exact h.2⟩
theorem Db.weak {M : Nat} {a : UInt64} (h : Db N i k a) (q : N ≤ M) : Db M i k a := ⟨h.1, Nat.le_trans h.2 q⟩
theorem Lb.weak {M : Nat} {a : Int64} (h : Lb N i a) (q : N ≤ M) : Lb M i a := ⟨h.1, Nat.le_trans h.2 q⟩
theorem Ib.weak {M : Nat} {a : Int32} (h : Ib N i a) (q : N ≤ M) : Ib M i a := ⟨h.1, Nat.le_trans h.2 q⟩
end
end Jvm.OwnFP
namespace Jvm.OwnPlain
open Jvm.FP Jvm.FP.Core Jvm.Free.Fl Jvm.OwnFP
theorem own_sh (x : Int32) : Ib 2147483648 (x >>> ((1 : Int32) &&& 31)).toInt (x >>> ((1 : Int32) &&& 31)) := Ib.any _
/-- x + 0.0: the same number; nought is the plus nought -/
theorem own_add0 {i : Int} {N : Nat} {x : UInt64} (h : Db N i 0 x) (hN : N + 0 ≤ 9007199254740992 ∧ 0 ≤ 1000) : FP.dcmp (FP.dadd x 0) x = some .eq ∧ (FP.dcmp (FP.dadd x 0) 0 ≠ some .eq ∨ FP.dadd x 0 = 0) := by
  have d := Db.add h Db.zero hN
  refine ⟨Db.eq d h (by omega), ?_⟩
  by_cases hi : i = 0
  · right
    have z : FP.dcmp x 0 = some .eq := dy_eq h.1 dy_zero hi
    rcases zero_bits z with q | q <;> rw [q] <;> decide +kernel
  · left
    rw [dy_cmp d.1 dy_zero]
    intro q
    have := (compare_eq_iff _ _).mp (Option.some.inj q)
    omega
end Jvm.OwnPlain
namespace Jvm.Pilot.@@N@@
open Jvm Jvm.ClassFile Sem Op Lib Jvm.Free Jvm.Stand Jvm.LawKit Jvm.RoadKit Bundle Jvm.Pilot.@@N@@.Jvm.D Jvm.OwnGo
theorem wd {a0 : Array Value} {Z : State} (hw : ∀ d ∈ tables_1, d.before a0 Z = true) (k : Nat) (d : Jvm.Cond) (hd : tables_1[k]? = some d) : d.before a0 Z = true := hw _ (List.mem_of_getElem? hd)
theorem pn_law : plainFor x = true := plainFor_of_name (by show plainName "com/example/lamina3/lamina3/AffineMapCoefficientsPinLaw" = true; first | (simp [plainName, overriddenIn]; done) | decide +kernel)
open Jvm.OwnPlain Jvm.OwnFP
theorem d0_0 : decode method_2_code 0 = .ok (.iload_n 0, 1) := by decide +kernel
theorem d0_1 : decode method_2_code 1 = .ok (.iconst 1, 1) := by decide +kernel
theorem d0_2 : decode method_2_code 2 = .ok (.ishr, 1) := by decide +kernel
theorem d0_3 : decode method_2_code 3 = .ok (.i2d, 1) := by decide +kernel
theorem d0_4 : decode method_2_code 4 = .ok (.dstore_n 1, 1) := by decide +kernel
theorem d0_5 : decode method_2_code 5 = .ok (.iload_n 0, 1) := by decide +kernel
theorem d0_6 : decode method_2_code 6 = .ok (.iconst 1, 1) := by decide +kernel
theorem d0_7 : decode method_2_code 7 = .ok (.iand, 1) := by decide +kernel
theorem d0_8 : decode method_2_code 8 = .ok (.ifCond .eq 8, 3) := by decide +kernel
theorem d0_11 : decode method_2_code 11 = .ok (.dload_n 1, 1) := by decide +kernel
theorem d0_12 : decode method_2_code 12 = .ok (.dneg, 1) := by decide +kernel
theorem d0_13 : decode method_2_code 13 = .ok (.goto 4, 3) := by decide +kernel
theorem d0_16 : decode method_2_code 16 = .ok (.dload_n 1, 1) := by decide +kernel
theorem d0_17 : decode method_2_code 17 = .ok (.dreturn, 1) := by decide +kernel
theorem pd_0 : parseMethodDescriptor "(I)D" = some ⟨[.int], some .double⟩ := by decide +kernel
theorem pn_0 : plainFor (⟨"com/example/lamina3/lamina3/AffineMapCoefficientsPinLaw", "val", "(I)D"⟩ : MethodName) = true := plainFor_of_name (by show plainName "com/example/lamina3/lamina3/AffineMapCoefficientsPinLaw" = true; first | (simp [plainName, overriddenIn]; done) | decide +kernel)
set_option maxRecDepth 65536 in
set_option maxHeartbeats 40000000 in
theorem rm_val (l : Launch) (Z : State) (a0 : Array Value) (hw : ∀ d ∈ tables_1, d.before a0 Z = true) (ws : List Jvm.Cond) (n : Int32) (h0 : Heap) (n0 : Nat) (Z0 : n0 ≤ h0.size)  :
    Ct l Z (⟨"com/example/lamina3/lamina3/AffineMapCoefficientsPinLaw", "val", "(I)D"⟩ : MethodName) method_2_code 3 (some .double) ws ({ frames := 0, cells := 0, slots := 0, locals := 0 } : Room) #[.int n] h0 (fun v h L => ∃ r i, v = some (.double r) ∧ Fr n0 L ∧ h = h0 ∧ Db 2147483648 i 0 r) := by
  refine Ct.intro pn_0 #[.val (.int n), .unset, .unset] (fun _ => by first | (simp [entryFrame, mkF, argsToLocals, Value.category, maxLocals]; done) | rfl) ?_
  intro p e s m below meth c T0 X0 hx hZ hby hml hown hnm hret hlk e0
  have N0 := Fr.nil n0
  refine s_iloadN X0 hx (hb hby d0_0) rfl 1 rfl ?_
  refine s_iconst X0 hx (hb hby d0_1) (1 : Int32) rfl 2 rfl ?_
  refine s_ishr X0 hx (hb hby d0_2) (n >>> ((1 : Int32) &&& 31)) rfl 3 rfl ?_
  have Dd1 := Ib.i2d (own_sh n)
  obtain ⟨d1, h_d1⟩ : ∃ v, (FP.i2d (n >>> ((1 : Int32) &&& 31))) = v := ⟨_, rfl⟩
  rw [h_d1] at Dd1
  refine s_i2d X0 hx (hb hby d0_3) d1 h_d1 4 rfl ?_
  refine s_dstoreN X0 hx (hb hby d0_4) #[.val (.int n), .val (.double d1), .second] rfl 5 rfl ?_
  refine s_iloadN X0 hx (hb hby d0_5) rfl 6 rfl ?_
  refine s_iconst X0 hx (hb hby d0_6) (1 : Int32) rfl 7 rfl ?_
  refine s_iand X0 hx (hb hby d0_7) (n &&& (1 : Int32)) rfl 8 rfl ?_
  by_cases hp : n &&& (1 : Int32) = 0
  · skip
    refine s_ifY X0 hx (hb hby d0_8) (XT.i0_eq_t hp) 16 (by decide) (by decide) ?_
    refine s_dloadN X0 hx (hb hby d0_16) rfl 17 rfl ?_
    exact retD X0 hx hlk hret (hb hby d0_17) e0 ⟨_, _, rfl, N0, rfl, Dd1⟩ (by decide) (by decide)
  · skip
    refine s_ifN X0 hx (hb hby d0_8) (XT.i0_eq_f hp) 11 rfl ?_
    refine s_dloadN X0 hx (hb hby d0_11) rfl 12 rfl ?_
    have Dd2 := Db.neg Dd1
    obtain ⟨d2, h_d2⟩ : ∃ v, (FP.dneg d1) = v := ⟨_, rfl⟩
    rw [h_d2] at Dd2
    refine s_dneg X0 hx (hb hby d0_12) d2 h_d2 13 rfl ?_
    refine s_goto X0 hx (hb hby d0_13) 17 (by decide) (by decide) ?_
    exact retD X0 hx hlk hret (hb hby d0_17) e0 ⟨_, _, rfl, N0, rfl, Dd2⟩ (by decide) (by decide)
theorem d4_0 : decode jdk_117_method_8_code 0 = .ok (.dload_n 0, 1) := by decide +kernel
theorem d4_1 : decode jdk_117_method_8_code 1 = .ok (.invokestatic 38, 3) := by decide +kernel
theorem d4_4 : decode jdk_117_method_8_code 4 = .ok (.ldc2_w 111, 3) := by decide +kernel
theorem d4_7 : decode jdk_117_method_8_code 7 = .ok (.dcmp .g, 1) := by decide +kernel
theorem d4_8 : decode jdk_117_method_8_code 8 = .ok (.ifCond .gt 7, 3) := by decide +kernel
theorem d4_11 : decode jdk_117_method_8_code 11 = .ok (.iconst 1, 1) := by decide +kernel
theorem d4_12 : decode jdk_117_method_8_code 12 = .ok (.goto 4, 3) := by decide +kernel
theorem d4_15 : decode jdk_117_method_8_code 15 = .ok (.iconst 0, 1) := by decide +kernel
theorem d4_16 : decode jdk_117_method_8_code 16 = .ok (.ireturn, 1) := by decide +kernel
theorem pd_4 : parseMethodDescriptor "(D)Z" = some ⟨[.double], some .boolean⟩ := by decide +kernel
theorem pn_4 : plainFor (⟨"java/lang/Double", "isFinite", "(D)Z"⟩ : MethodName) = true := plainFor_of_name (by show plainName "java/lang/Double" = true; first | (simp [plainName, overriddenIn]; done) | decide +kernel)
set_option maxRecDepth 65536 in
set_option maxHeartbeats 40000000 in
theorem rm_isfin (l : Launch) (Z : State) (a0 : Array Value) (hw : ∀ d ∈ tables_1, d.before a0 Z = true) (ws : List Jvm.Cond) (x : UInt64) (h0 : Heap) (n0 : Nat) (Z0 : n0 ≤ h0.size) (hf : Jvm.Free.Fl.Fin64 x) :
    Ct l Z (⟨"java/lang/Double", "isFinite", "(D)Z"⟩ : MethodName) jdk_117_method_8_code 2 (some .boolean) ws ({ frames := 1, cells := 0, slots := 0, locals := 13 } : Room) #[.double x] h0 (fun v h L => v = some (.int 1) ∧ Fr n0 L ∧ h = h0) := by
  refine Ct.intro pn_4 #[.val (.double x), .second] (fun _ => by first | (simp [entryFrame, mkF, argsToLocals, Value.category, maxLocals]; done) | rfl) ?_
  intro p e s m below meth c T0 X0 hx hZ hby hml hown hnm hret hlk e0
  have N0 := Fr.nil n0
  refine s_dloadN X0 hx (hb hby d4_0) rfl 1 rfl ?_
  obtain ⟨T3, X3, e3, st3⟩ := natS X0 hx hZ hown (wd hw 21 _ rfl) (wd hw 22 _ rfl) (wd hw 23 _ rfl) (wd hw 24 _ rfl) (by decide) e0 (W := 0) (fun q => Jvm.Free.Fl.Abs.absD_pays x q (by decide) (by decide)) (g := (mkF m 1 #[.val (.double x), .second] [.double x])) rfl (by rw [hml]; rfl) (argsL := [.double x]) (rest := []) (lenOf (d := "(D)D") (ps := [.double]) (r := some .double) (by decide +kernel) rfl) rfl (by show 2 * 0 + _ ≤ _; exact Nat.le_of_eq rfl) (hb hby d4_1) (by decide) (by decide) ⟨rfl, hf.noNaN⟩ rfl
  refine Go.via st3 ?_
  show Go p e below _ (T3.setTop (mkF m 4 #[.val (.double x), .second] [.double (x &&& 0x7fffffffffffffff)]))
  refine s_ldc2D X3 hx (hb hby d4_4) hZ hown (wd hw 25 _ rfl) 7 rfl ?_
  refine s_dcmp X3 hx (hb hby d4_7) (cmpValue (FP.dcmp (x &&& 0x7fffffffffffffff) (9218868437227405311 : UInt64)) .g) rfl 8 rfl ?_
  refine s_ifN X3 hx (hb hby d4_8) (dd_gt_f (Jvm.FP.Core.le_max (Jvm.Free.Fl.fin64_core.mp hf).notNaN |>.mpr (Jvm.Free.Fl.fin64_core.mp hf))) 11 rfl ?_
  refine s_iconst X3 hx (hb hby d4_11) (1 : Int32) rfl 12 rfl ?_
  refine s_goto X3 hx (hb hby d4_12) 16 (by decide) (by decide) ?_
  exact retZ X3 hx hlk hret (hb hby d4_16) (by decide) e3 ⟨rfl, N0, rfl⟩ (by decide) (by decide)
theorem d3_0 : decode prog_1_method_11_code 0 = .ok (.aload_n 0, 1) := by decide +kernel
theorem d3_1 : decode prog_1_method_11_code 1 = .ok (.astore_n 1, 1) := by decide +kernel
theorem d3_2 : decode prog_1_method_11_code 2 = .ok (.aload_n 1, 1) := by decide +kernel
theorem d3_3 : decode prog_1_method_11_code 3 = .ok (.arraylength, 1) := by decide +kernel
theorem d3_4 : decode prog_1_method_11_code 4 = .ok (.istore_n 2, 1) := by decide +kernel
theorem d3_5 : decode prog_1_method_11_code 5 = .ok (.iconst 0, 1) := by decide +kernel
theorem d3_6 : decode prog_1_method_11_code 6 = .ok (.istore_n 3, 1) := by decide +kernel
theorem d3_7 : decode prog_1_method_11_code 7 = .ok (.iload_n 3, 1) := by decide +kernel
theorem d3_8 : decode prog_1_method_11_code 8 = .ok (.iload_n 2, 1) := by decide +kernel
theorem d3_9 : decode prog_1_method_11_code 9 = .ok (.if_icmp .ge 24, 3) := by decide +kernel
theorem d3_12 : decode prog_1_method_11_code 12 = .ok (.aload_n 1, 1) := by decide +kernel
theorem d3_13 : decode prog_1_method_11_code 13 = .ok (.iload_n 3, 1) := by decide +kernel
theorem d3_14 : decode prog_1_method_11_code 14 = .ok (.daload, 1) := by decide +kernel
theorem d3_15 : decode prog_1_method_11_code 15 = .ok (.dstore 4, 2) := by decide +kernel
theorem d3_17 : decode prog_1_method_11_code 17 = .ok (.dload 4, 2) := by decide +kernel
theorem d3_19 : decode prog_1_method_11_code 19 = .ok (.invokestatic 81, 3) := by decide +kernel
theorem d3_22 : decode prog_1_method_11_code 22 = .ok (.ifCond .ne 5, 3) := by decide +kernel
theorem d3_25 : decode prog_1_method_11_code 25 = .ok (.iconst 0, 1) := by decide +kernel
theorem d3_26 : decode prog_1_method_11_code 26 = .ok (.ireturn, 1) := by decide +kernel
theorem d3_27 : decode prog_1_method_11_code 27 = .ok (.iinc 3 1, 3) := by decide +kernel
theorem d3_30 : decode prog_1_method_11_code 30 = .ok (.goto (-23), 3) := by decide +kernel
theorem d3_33 : decode prog_1_method_11_code 33 = .ok (.iconst 1, 1) := by decide +kernel
theorem d3_34 : decode prog_1_method_11_code 34 = .ok (.ireturn, 1) := by decide +kernel
theorem pd_3 : parseMethodDescriptor "([D)Z" = some ⟨[.array .double], some .boolean⟩ := by decide +kernel
theorem pn_3 : plainFor (⟨"com/example/lamina3/lamina3/AffineMap", "allFinite", "([D)Z"⟩ : MethodName) = true := plainFor_of_name (by show plainName "com/example/lamina3/lamina3/AffineMap" = true; first | (simp [plainName, overriddenIn]; done) | decide +kernel)
set_option maxRecDepth 65536 in
set_option maxHeartbeats 40000000 in
theorem rm_allfin (l : Launch) (Z : State) (a0 : Array Value) (hw : ∀ d ∈ tables_1, d.before a0 Z = true) (ws : List Jvm.Cond) (a1 : Addr) (k1 : ClassId) (x0 x1 x2 x3 x4 x5 : UInt64) (h0 : Heap) (n0 : Nat) (Z0 : n0 ≤ h0.size) (A1 : AR Z h0 a1 k1 .double [.double x0, .double x1, .double x2, .double x3, .double x4, .double x5]) (hf0 : Jvm.Free.Fl.Fin64 x0) (hf1 : Jvm.Free.Fl.Fin64 x1) (hf2 : Jvm.Free.Fl.Fin64 x2) (hf3 : Jvm.Free.Fl.Fin64 x3) (hf4 : Jvm.Free.Fl.Fin64 x4) (hf5 : Jvm.Free.Fl.Fin64 x5) :
    Ct l Z (⟨"com/example/lamina3/lamina3/AffineMap", "allFinite", "([D)Z"⟩ : MethodName) prog_1_method_11_code 6 (some .boolean) ws ({ frames := 2, cells := 0, slots := 0, locals := 26 } : Room) #[.ref a1] h0 (fun v h L => v = some (.int 1) ∧ Fr n0 L ∧ h = h0) := by
  refine Ct.intro pn_3 #[.val (.ref a1), .unset, .unset, .unset, .unset, .unset] (fun _ => by first | (simp [entryFrame, mkF, argsToLocals, Value.category, maxLocals]; done) | rfl) ?_
  intro p e s m below meth c T0 X0 hx hZ hby hml hown hnm hret hlk e0
  have N0 := Fr.nil n0
  refine s_aloadN X0 hx (hb hby d3_0) rfl rfl 1 rfl ?_
  refine s_astoreN X0 hx (hb hby d3_1) rfl #[.val (.ref a1), .val (.ref a1), .unset, .unset, .unset, .unset] rfl 2 rfl ?_
  refine s_aloadN X0 hx (hb hby d3_2) rfl rfl 3 rfl ?_
  refine s_len X0 hx hZ e0 A1 (hb hby d3_3) (6 : Int32) rfl 4 rfl ?_
  refine s_istoreN X0 hx (hb hby d3_4) #[.val (.ref a1), .val (.ref a1), .val (.int (6 : Int32)), .unset, .unset, .unset] rfl 5 rfl ?_
  refine s_iconst X0 hx (hb hby d3_5) (0 : Int32) rfl 6 rfl ?_
  refine s_istoreN X0 hx (hb hby d3_6) #[.val (.ref a1), .val (.ref a1), .val (.int (6 : Int32)), .val (.int (0 : Int32)), .unset, .unset] rfl 7 rfl ?_
  refine s_iloadN X0 hx (hb hby d3_7) rfl 8 rfl ?_
  refine s_iloadN X0 hx (hb hby d3_8) rfl 9 rfl ?_
  refine s_icmpN X0 hx (hb hby d3_9) (by decide) 12 rfl ?_
  refine s_aloadN X0 hx (hb hby d3_12) rfl rfl 13 rfl ?_
  refine s_iloadN X0 hx (hb hby d3_13) rfl 14 rfl ?_
  refine s_daload X0 hx hZ e0 A1 (hb hby d3_14) (j := (0 : Int32)) 0 (by decide) (.double x0) rfl 15 rfl ?_
  refine s_dstore X0 hx (hb hby d3_15) #[.val (.ref a1), .val (.ref a1), .val (.int (6 : Int32)), .val (.int (0 : Int32)), .val (.double x0), .second] rfl 17 rfl ?_
  refine s_dload X0 hx (hb hby d3_17) rfl 19 rfl ?_
  obtain ⟨v4, T4, L4, X4, hQ4, st4⟩ := callStat X0 hx hZ hown (wd hw 17 _ rfl) (wd hw 18 _ rfl) (wd hw 19 _ rfl) (wd hw 20 _ rfl) (by decide) (rm_isfin l Z a0 hw [] x0 h0 n0 Z0 hf0) e0 (L := #[.val (.ref a1), .val (.ref a1), .val (.int (6 : Int32)), .val (.int (0 : Int32)), .val (.double x0), .second]) (hb hby d3_19) (by rw [hml]; rfl) [.double x0] [] rfl rfl pd_4 rfl 0 (by show 2 * 0 + _ ≤ _; exact Nat.le_of_eq rfl) (by decide) (by decide) (by decide) (by decide)
  obtain ⟨rfl, N4, hh4⟩ := hQ4
  have M4 := Fr.app N0 N4
  refine Go.via st4 ?_
  show Go p e below _ (T4.setTop (mkF m 22 #[.val (.ref a1), .val (.ref a1), .val (.int (6 : Int32)), .val (.int (0 : Int32)), .val (.double x0), .second] [.int (1 : Int32)]))
  refine s_ifY X4 hx (hb hby d3_22) (by decide) 27 (by decide) (by decide) ?_
  refine s_iinc X4 hx (hb hby d3_27) (1 : Int32) rfl rfl #[.val (.ref a1), .val (.ref a1), .val (.int (6 : Int32)), .val (.int (1 : Int32)), .val (.double x0), .second] rfl 30 rfl ?_
  refine s_goto X4 hx (hb hby d3_30) 7 (by decide) (by decide) ?_
  refine s_iloadN X4 hx (hb hby d3_7) rfl 8 rfl ?_
  refine s_iloadN X4 hx (hb hby d3_8) rfl 9 rfl ?_
  refine s_icmpN X4 hx (hb hby d3_9) (by decide) 12 rfl ?_
  refine s_aloadN X4 hx (hb hby d3_12) rfl rfl 13 rfl ?_
  refine s_iloadN X4 hx (hb hby d3_13) rfl 14 rfl ?_
  refine s_daload X4 hx hZ hh4 A1 (hb hby d3_14) (j := (1 : Int32)) 1 (by decide) (.double x1) rfl 15 rfl ?_
  refine s_dstore X4 hx (hb hby d3_15) #[.val (.ref a1), .val (.ref a1), .val (.int (6 : Int32)), .val (.int (1 : Int32)), .val (.double x1), .second] rfl 17 rfl ?_
  refine s_dload X4 hx (hb hby d3_17) rfl 19 rfl ?_
  obtain ⟨v5, T5, L5, X5, hQ5, st5⟩ := callStat X4 hx hZ hown (wd hw 17 _ rfl) (wd hw 18 _ rfl) (wd hw 19 _ rfl) (wd hw 20 _ rfl) (by decide) (rm_isfin l Z a0 hw [] x1 h0 n0 Z0 hf1) hh4 (L := #[.val (.ref a1), .val (.ref a1), .val (.int (6 : Int32)), .val (.int (1 : Int32)), .val (.double x1), .second]) (hb hby d3_19) (by rw [hml]; rfl) [.double x1] [] rfl rfl pd_4 rfl 0 (by show 2 * 0 + _ ≤ _; exact Nat.le_of_eq rfl) (by decide) (by decide) (by decide) (by decide)
  obtain ⟨rfl, N5, hh5⟩ := hQ5
  have M5 := Fr.app M4 N5
  refine Go.via st5 ?_
  show Go p e below _ (T5.setTop (mkF m 22 #[.val (.ref a1), .val (.ref a1), .val (.int (6 : Int32)), .val (.int (1 : Int32)), .val (.double x1), .second] [.int (1 : Int32)]))
  refine s_ifY X5 hx (hb hby d3_22) (by decide) 27 (by decide) (by decide) ?_
  refine s_iinc X5 hx (hb hby d3_27) (2 : Int32) rfl rfl #[.val (.ref a1), .val (.ref a1), .val (.int (6 : Int32)), .val (.int (2 : Int32)), .val (.double x1), .second] rfl 30 rfl ?_
  refine s_goto X5 hx (hb hby d3_30) 7 (by decide) (by decide) ?_
  refine s_iloadN X5 hx (hb hby d3_7) rfl 8 rfl ?_
  refine s_iloadN X5 hx (hb hby d3_8) rfl 9 rfl ?_
  refine s_icmpN X5 hx (hb hby d3_9) (by decide) 12 rfl ?_
  refine s_aloadN X5 hx (hb hby d3_12) rfl rfl 13 rfl ?_
  refine s_iloadN X5 hx (hb hby d3_13) rfl 14 rfl ?_
  refine s_daload X5 hx hZ hh5 A1 (hb hby d3_14) (j := (2 : Int32)) 2 (by decide) (.double x2) rfl 15 rfl ?_
  refine s_dstore X5 hx (hb hby d3_15) #[.val (.ref a1), .val (.ref a1), .val (.int (6 : Int32)), .val (.int (2 : Int32)), .val (.double x2), .second] rfl 17 rfl ?_
  refine s_dload X5 hx (hb hby d3_17) rfl 19 rfl ?_
  obtain ⟨v6, T6, L6, X6, hQ6, st6⟩ := callStat X5 hx hZ hown (wd hw 17 _ rfl) (wd hw 18 _ rfl) (wd hw 19 _ rfl) (wd hw 20 _ rfl) (by decide) (rm_isfin l Z a0 hw [] x2 h0 n0 Z0 hf2) hh5 (L := #[.val (.ref a1), .val (.ref a1), .val (.int (6 : Int32)), .val (.int (2 : Int32)), .val (.double x2), .second]) (hb hby d3_19) (by rw [hml]; rfl) [.double x2] [] rfl rfl pd_4 rfl 0 (by show 2 * 0 + _ ≤ _; exact Nat.le_of_eq rfl) (by decide) (by decide) (by decide) (by decide)
  obtain ⟨rfl, N6, hh6⟩ := hQ6
  have M6 := Fr.app M5 N6
  refine Go.via st6 ?_
  show Go p e below _ (T6.setTop (mkF m 22 #[.val (.ref a1), .val (.ref a1), .val (.int (6 : Int32)), .val (.int (2 : Int32)), .val (.double x2), .second] [.int (1 : Int32)]))
  refine s_ifY X6 hx (hb hby d3_22) (by decide) 27 (by decide) (by decide) ?_
  refine s_iinc X6 hx (hb hby d3_27) (3 : Int32) rfl rfl #[.val (.ref a1), .val (.ref a1), .val (.int (6 : Int32)), .val (.int (3 : Int32)), .val (.double x2), .second] rfl 30 rfl ?_
  refine s_goto X6 hx (hb hby d3_30) 7 (by decide) (by decide) ?_
  refine s_iloadN X6 hx (hb hby d3_7) rfl 8 rfl ?_
  refine s_iloadN X6 hx (hb hby d3_8) rfl 9 rfl ?_
  refine s_icmpN X6 hx (hb hby d3_9) (by decide) 12 rfl ?_
  refine s_aloadN X6 hx (hb hby d3_12) rfl rfl 13 rfl ?_
  refine s_iloadN X6 hx (hb hby d3_13) rfl 14 rfl ?_
  refine s_daload X6 hx hZ hh6 A1 (hb hby d3_14) (j := (3 : Int32)) 3 (by decide) (.double x3) rfl 15 rfl ?_
  refine s_dstore X6 hx (hb hby d3_15) #[.val (.ref a1), .val (.ref a1), .val (.int (6 : Int32)), .val (.int (3 : Int32)), .val (.double x3), .second] rfl 17 rfl ?_
  refine s_dload X6 hx (hb hby d3_17) rfl 19 rfl ?_
  obtain ⟨v7, T7, L7, X7, hQ7, st7⟩ := callStat X6 hx hZ hown (wd hw 17 _ rfl) (wd hw 18 _ rfl) (wd hw 19 _ rfl) (wd hw 20 _ rfl) (by decide) (rm_isfin l Z a0 hw [] x3 h0 n0 Z0 hf3) hh6 (L := #[.val (.ref a1), .val (.ref a1), .val (.int (6 : Int32)), .val (.int (3 : Int32)), .val (.double x3), .second]) (hb hby d3_19) (by rw [hml]; rfl) [.double x3] [] rfl rfl pd_4 rfl 0 (by show 2 * 0 + _ ≤ _; exact Nat.le_of_eq rfl) (by decide) (by decide) (by decide) (by decide)
  obtain ⟨rfl, N7, hh7⟩ := hQ7
  have M7 := Fr.app M6 N7
  refine Go.via st7 ?_
  show Go p e below _ (T7.setTop (mkF m 22 #[.val (.ref a1), .val (.ref a1), .val (.int (6 : Int32)), .val (.int (3 : Int32)), .val (.double x3), .second] [.int (1 : Int32)]))
  refine s_ifY X7 hx (hb hby d3_22) (by decide) 27 (by decide) (by decide) ?_
  refine s_iinc X7 hx (hb hby d3_27) (4 : Int32) rfl rfl #[.val (.ref a1), .val (.ref a1), .val (.int (6 : Int32)), .val (.int (4 : Int32)), .val (.double x3), .second] rfl 30 rfl ?_
  refine s_goto X7 hx (hb hby d3_30) 7 (by decide) (by decide) ?_
  refine s_iloadN X7 hx (hb hby d3_7) rfl 8 rfl ?_
  refine s_iloadN X7 hx (hb hby d3_8) rfl 9 rfl ?_
  refine s_icmpN X7 hx (hb hby d3_9) (by decide) 12 rfl ?_
  refine s_aloadN X7 hx (hb hby d3_12) rfl rfl 13 rfl ?_
  refine s_iloadN X7 hx (hb hby d3_13) rfl 14 rfl ?_
  refine s_daload X7 hx hZ hh7 A1 (hb hby d3_14) (j := (4 : Int32)) 4 (by decide) (.double x4) rfl 15 rfl ?_
  refine s_dstore X7 hx (hb hby d3_15) #[.val (.ref a1), .val (.ref a1), .val (.int (6 : Int32)), .val (.int (4 : Int32)), .val (.double x4), .second] rfl 17 rfl ?_
  refine s_dload X7 hx (hb hby d3_17) rfl 19 rfl ?_
  obtain ⟨v8, T8, L8, X8, hQ8, st8⟩ := callStat X7 hx hZ hown (wd hw 17 _ rfl) (wd hw 18 _ rfl) (wd hw 19 _ rfl) (wd hw 20 _ rfl) (by decide) (rm_isfin l Z a0 hw [] x4 h0 n0 Z0 hf4) hh7 (L := #[.val (.ref a1), .val (.ref a1), .val (.int (6 : Int32)), .val (.int (4 : Int32)), .val (.double x4), .second]) (hb hby d3_19) (by rw [hml]; rfl) [.double x4] [] rfl rfl pd_4 rfl 0 (by show 2 * 0 + _ ≤ _; exact Nat.le_of_eq rfl) (by decide) (by decide) (by decide) (by decide)
  obtain ⟨rfl, N8, hh8⟩ := hQ8
  have M8 := Fr.app M7 N8
  refine Go.via st8 ?_
  show Go p e below _ (T8.setTop (mkF m 22 #[.val (.ref a1), .val (.ref a1), .val (.int (6 : Int32)), .val (.int (4 : Int32)), .val (.double x4), .second] [.int (1 : Int32)]))
  refine s_ifY X8 hx (hb hby d3_22) (by decide) 27 (by decide) (by decide) ?_
  refine s_iinc X8 hx (hb hby d3_27) (5 : Int32) rfl rfl #[.val (.ref a1), .val (.ref a1), .val (.int (6 : Int32)), .val (.int (5 : Int32)), .val (.double x4), .second] rfl 30 rfl ?_
  refine s_goto X8 hx (hb hby d3_30) 7 (by decide) (by decide) ?_
  refine s_iloadN X8 hx (hb hby d3_7) rfl 8 rfl ?_
  refine s_iloadN X8 hx (hb hby d3_8) rfl 9 rfl ?_
  refine s_icmpN X8 hx (hb hby d3_9) (by decide) 12 rfl ?_
  refine s_aloadN X8 hx (hb hby d3_12) rfl rfl 13 rfl ?_
  refine s_iloadN X8 hx (hb hby d3_13) rfl 14 rfl ?_
  refine s_daload X8 hx hZ hh8 A1 (hb hby d3_14) (j := (5 : Int32)) 5 (by decide) (.double x5) rfl 15 rfl ?_
  refine s_dstore X8 hx (hb hby d3_15) #[.val (.ref a1), .val (.ref a1), .val (.int (6 : Int32)), .val (.int (5 : Int32)), .val (.double x5), .second] rfl 17 rfl ?_
  refine s_dload X8 hx (hb hby d3_17) rfl 19 rfl ?_
  obtain ⟨v9, T9, L9, X9, hQ9, st9⟩ := callStat X8 hx hZ hown (wd hw 17 _ rfl) (wd hw 18 _ rfl) (wd hw 19 _ rfl) (wd hw 20 _ rfl) (by decide) (rm_isfin l Z a0 hw [] x5 h0 n0 Z0 hf5) hh8 (L := #[.val (.ref a1), .val (.ref a1), .val (.int (6 : Int32)), .val (.int (5 : Int32)), .val (.double x5), .second]) (hb hby d3_19) (by rw [hml]; rfl) [.double x5] [] rfl rfl pd_4 rfl 0 (by show 2 * 0 + _ ≤ _; exact Nat.le_of_eq rfl) (by decide) (by decide) (by decide) (by decide)
  obtain ⟨rfl, N9, hh9⟩ := hQ9
  have M9 := Fr.app M8 N9
  refine Go.via st9 ?_
  show Go p e below _ (T9.setTop (mkF m 22 #[.val (.ref a1), .val (.ref a1), .val (.int (6 : Int32)), .val (.int (5 : Int32)), .val (.double x5), .second] [.int (1 : Int32)]))
  refine s_ifY X9 hx (hb hby d3_22) (by decide) 27 (by decide) (by decide) ?_
  refine s_iinc X9 hx (hb hby d3_27) (6 : Int32) rfl rfl #[.val (.ref a1), .val (.ref a1), .val (.int (6 : Int32)), .val (.int (6 : Int32)), .val (.double x5), .second] rfl 30 rfl ?_
  refine s_goto X9 hx (hb hby d3_30) 7 (by decide) (by decide) ?_
  refine s_iloadN X9 hx (hb hby d3_7) rfl 8 rfl ?_
  refine s_iloadN X9 hx (hb hby d3_8) rfl 9 rfl ?_
  refine s_icmpY X9 hx (hb hby d3_9) (by decide) 33 (by decide) (by decide) ?_
  refine s_iconst X9 hx (hb hby d3_33) (1 : Int32) rfl 34 rfl ?_
  exact retZ X9 hx hlk hret (hb hby d3_34) (by decide) hh9 ⟨rfl, M9, rfl⟩ (by decide) (by decide)
theorem d1_0 : decode prog_1_method_1_code 0 = .ok (.aload_n 0, 1) := by decide +kernel
theorem d1_1 : decode prog_1_method_1_code 1 = .ok (.invokespecial 1, 3) := by decide +kernel
theorem d1_4 : decode prog_1_method_1_code 4 = .ok (.bipush 6, 2) := by decide +kernel
theorem d1_6 : decode prog_1_method_1_code 6 = .ok (.newarray .double, 2) := by decide +kernel
theorem d1_8 : decode prog_1_method_1_code 8 = .ok (.dup, 1) := by decide +kernel
theorem d1_9 : decode prog_1_method_1_code 9 = .ok (.iconst 0, 1) := by decide +kernel
theorem d1_10 : decode prog_1_method_1_code 10 = .ok (.dload_n 1, 1) := by decide +kernel
theorem d1_11 : decode prog_1_method_1_code 11 = .ok (.dastore, 1) := by decide +kernel
theorem d1_12 : decode prog_1_method_1_code 12 = .ok (.dup, 1) := by decide +kernel
theorem d1_13 : decode prog_1_method_1_code 13 = .ok (.iconst 1, 1) := by decide +kernel
theorem d1_14 : decode prog_1_method_1_code 14 = .ok (.dload_n 3, 1) := by decide +kernel
theorem d1_15 : decode prog_1_method_1_code 15 = .ok (.dastore, 1) := by decide +kernel
theorem d1_16 : decode prog_1_method_1_code 16 = .ok (.dup, 1) := by decide +kernel
theorem d1_17 : decode prog_1_method_1_code 17 = .ok (.iconst 2, 1) := by decide +kernel
theorem d1_18 : decode prog_1_method_1_code 18 = .ok (.dload 5, 2) := by decide +kernel
theorem d1_20 : decode prog_1_method_1_code 20 = .ok (.dastore, 1) := by decide +kernel
theorem d1_21 : decode prog_1_method_1_code 21 = .ok (.dup, 1) := by decide +kernel
theorem d1_22 : decode prog_1_method_1_code 22 = .ok (.iconst 3, 1) := by decide +kernel
theorem d1_23 : decode prog_1_method_1_code 23 = .ok (.dload 7, 2) := by decide +kernel
theorem d1_25 : decode prog_1_method_1_code 25 = .ok (.dastore, 1) := by decide +kernel
theorem d1_26 : decode prog_1_method_1_code 26 = .ok (.dup, 1) := by decide +kernel
theorem d1_27 : decode prog_1_method_1_code 27 = .ok (.iconst 4, 1) := by decide +kernel
theorem d1_28 : decode prog_1_method_1_code 28 = .ok (.dload 9, 2) := by decide +kernel
theorem d1_30 : decode prog_1_method_1_code 30 = .ok (.dastore, 1) := by decide +kernel
theorem d1_31 : decode prog_1_method_1_code 31 = .ok (.dup, 1) := by decide +kernel
theorem d1_32 : decode prog_1_method_1_code 32 = .ok (.iconst 5, 1) := by decide +kernel
theorem d1_33 : decode prog_1_method_1_code 33 = .ok (.dload 11, 2) := by decide +kernel
theorem d1_35 : decode prog_1_method_1_code 35 = .ok (.dastore, 1) := by decide +kernel
theorem d1_36 : decode prog_1_method_1_code 36 = .ok (.invokestatic 7, 3) := by decide +kernel
theorem d1_39 : decode prog_1_method_1_code 39 = .ok (.ifCond .ne 51, 3) := by decide +kernel
theorem d1_42 : decode prog_1_method_1_code 42 = .ok (.new 13, 3) := by decide +kernel
theorem d1_45 : decode prog_1_method_1_code 45 = .ok (.dup, 1) := by decide +kernel
theorem d1_46 : decode prog_1_method_1_code 46 = .ok (.bipush 6, 2) := by decide +kernel
theorem d1_48 : decode prog_1_method_1_code 48 = .ok (.newarray .double, 2) := by decide +kernel
theorem d1_50 : decode prog_1_method_1_code 50 = .ok (.dup, 1) := by decide +kernel
theorem d1_51 : decode prog_1_method_1_code 51 = .ok (.iconst 0, 1) := by decide +kernel
theorem d1_52 : decode prog_1_method_1_code 52 = .ok (.dload_n 1, 1) := by decide +kernel
theorem d1_53 : decode prog_1_method_1_code 53 = .ok (.dastore, 1) := by decide +kernel
theorem d1_54 : decode prog_1_method_1_code 54 = .ok (.dup, 1) := by decide +kernel
theorem d1_55 : decode prog_1_method_1_code 55 = .ok (.iconst 1, 1) := by decide +kernel
theorem d1_56 : decode prog_1_method_1_code 56 = .ok (.dload_n 3, 1) := by decide +kernel
theorem d1_57 : decode prog_1_method_1_code 57 = .ok (.dastore, 1) := by decide +kernel
theorem d1_58 : decode prog_1_method_1_code 58 = .ok (.dup, 1) := by decide +kernel
theorem d1_59 : decode prog_1_method_1_code 59 = .ok (.iconst 2, 1) := by decide +kernel
theorem d1_60 : decode prog_1_method_1_code 60 = .ok (.dload 5, 2) := by decide +kernel
theorem d1_62 : decode prog_1_method_1_code 62 = .ok (.dastore, 1) := by decide +kernel
theorem d1_63 : decode prog_1_method_1_code 63 = .ok (.dup, 1) := by decide +kernel
theorem d1_64 : decode prog_1_method_1_code 64 = .ok (.iconst 3, 1) := by decide +kernel
theorem d1_65 : decode prog_1_method_1_code 65 = .ok (.dload 7, 2) := by decide +kernel
theorem d1_67 : decode prog_1_method_1_code 67 = .ok (.dastore, 1) := by decide +kernel
theorem d1_68 : decode prog_1_method_1_code 68 = .ok (.dup, 1) := by decide +kernel
theorem d1_69 : decode prog_1_method_1_code 69 = .ok (.iconst 4, 1) := by decide +kernel
theorem d1_70 : decode prog_1_method_1_code 70 = .ok (.dload 9, 2) := by decide +kernel
theorem d1_72 : decode prog_1_method_1_code 72 = .ok (.dastore, 1) := by decide +kernel
theorem d1_73 : decode prog_1_method_1_code 73 = .ok (.dup, 1) := by decide +kernel
theorem d1_74 : decode prog_1_method_1_code 74 = .ok (.iconst 5, 1) := by decide +kernel
theorem d1_75 : decode prog_1_method_1_code 75 = .ok (.dload 11, 2) := by decide +kernel
theorem d1_77 : decode prog_1_method_1_code 77 = .ok (.dastore, 1) := by decide +kernel
theorem d1_78 : decode prog_1_method_1_code 78 = .ok (.invokestatic 15, 3) := by decide +kernel
theorem d1_81 : decode prog_1_method_1_code 81 = .ok (.invokedynamic 21, 5) := by decide +kernel
theorem d1_86 : decode prog_1_method_1_code 86 = .ok (.invokespecial 25, 3) := by decide +kernel
theorem d1_89 : decode prog_1_method_1_code 89 = .ok (.athrow, 1) := by decide +kernel
theorem d1_90 : decode prog_1_method_1_code 90 = .ok (.aload_n 0, 1) := by decide +kernel
theorem d1_91 : decode prog_1_method_1_code 91 = .ok (.dload_n 1, 1) := by decide +kernel
theorem d1_92 : decode prog_1_method_1_code 92 = .ok (.dconst 0, 1) := by decide +kernel
theorem d1_93 : decode prog_1_method_1_code 93 = .ok (.dadd, 1) := by decide +kernel
theorem d1_94 : decode prog_1_method_1_code 94 = .ok (.putfield 28, 3) := by decide +kernel
theorem d1_97 : decode prog_1_method_1_code 97 = .ok (.aload_n 0, 1) := by decide +kernel
theorem d1_98 : decode prog_1_method_1_code 98 = .ok (.dload_n 3, 1) := by decide +kernel
theorem d1_99 : decode prog_1_method_1_code 99 = .ok (.dconst 0, 1) := by decide +kernel
theorem d1_100 : decode prog_1_method_1_code 100 = .ok (.dadd, 1) := by decide +kernel
theorem d1_101 : decode prog_1_method_1_code 101 = .ok (.putfield 32, 3) := by decide +kernel
theorem d1_104 : decode prog_1_method_1_code 104 = .ok (.aload_n 0, 1) := by decide +kernel
theorem d1_105 : decode prog_1_method_1_code 105 = .ok (.dload 5, 2) := by decide +kernel
theorem d1_107 : decode prog_1_method_1_code 107 = .ok (.dconst 0, 1) := by decide +kernel
theorem d1_108 : decode prog_1_method_1_code 108 = .ok (.dadd, 1) := by decide +kernel
theorem d1_109 : decode prog_1_method_1_code 109 = .ok (.putfield 35, 3) := by decide +kernel
theorem d1_112 : decode prog_1_method_1_code 112 = .ok (.aload_n 0, 1) := by decide +kernel
theorem d1_113 : decode prog_1_method_1_code 113 = .ok (.dload 7, 2) := by decide +kernel
theorem d1_115 : decode prog_1_method_1_code 115 = .ok (.dconst 0, 1) := by decide +kernel
theorem d1_116 : decode prog_1_method_1_code 116 = .ok (.dadd, 1) := by decide +kernel
theorem d1_117 : decode prog_1_method_1_code 117 = .ok (.putfield 38, 3) := by decide +kernel
theorem d1_120 : decode prog_1_method_1_code 120 = .ok (.aload_n 0, 1) := by decide +kernel
theorem d1_121 : decode prog_1_method_1_code 121 = .ok (.dload 9, 2) := by decide +kernel
theorem d1_123 : decode prog_1_method_1_code 123 = .ok (.dconst 0, 1) := by decide +kernel
theorem d1_124 : decode prog_1_method_1_code 124 = .ok (.dadd, 1) := by decide +kernel
theorem d1_125 : decode prog_1_method_1_code 125 = .ok (.putfield 41, 3) := by decide +kernel
theorem d1_128 : decode prog_1_method_1_code 128 = .ok (.aload_n 0, 1) := by decide +kernel
theorem d1_129 : decode prog_1_method_1_code 129 = .ok (.dload 11, 2) := by decide +kernel
theorem d1_131 : decode prog_1_method_1_code 131 = .ok (.dconst 0, 1) := by decide +kernel
theorem d1_132 : decode prog_1_method_1_code 132 = .ok (.dadd, 1) := by decide +kernel
theorem d1_133 : decode prog_1_method_1_code 133 = .ok (.putfield 44, 3) := by decide +kernel
theorem d1_136 : decode prog_1_method_1_code 136 = .ok (.return_, 1) := by decide +kernel
theorem pd_1 : parseMethodDescriptor "(DDDDDD)V" = some ⟨[.double, .double, .double, .double, .double, .double], none⟩ := by decide +kernel
theorem pn_1 : plainFor (⟨"com/example/lamina3/lamina3/AffineMap", "<init>", "(DDDDDD)V"⟩ : MethodName) = true := plainFor_of_name (by show plainName "com/example/lamina3/lamina3/AffineMap" = true; first | (simp [plainName, overriddenIn]; done) | decide +kernel)
set_option maxRecDepth 65536 in
set_option maxHeartbeats 40000000 in
theorem rm_init (l : Launch) (Z : State) (a0 : Array Value) (hw : ∀ d ∈ tables_1, d.before a0 Z = true) (ws : List Jvm.Cond) (a1 : Addr) (x0 x1 x2 x3 x4 x5 : UInt64) (h0 : Heap) (n0 : Nat) (Z0 : n0 ≤ h0.size) (E1 : Exa Z h0 a1 "com/example/lamina3/lamina3/AffineMap") (g1 : n0 ≤ a1) (F_0 : Fld Z h0 a1 "com/example/lamina3/lamina3/AffineMap" "a" "D" (.double (0 : UInt64))) (F_1 : Fld Z h0 a1 "com/example/lamina3/lamina3/AffineMap" "b" "D" (.double (0 : UInt64))) (F_2 : Fld Z h0 a1 "com/example/lamina3/lamina3/AffineMap" "c" "D" (.double (0 : UInt64))) (F_3 : Fld Z h0 a1 "com/example/lamina3/lamina3/AffineMap" "d" "D" (.double (0 : UInt64))) (F_4 : Fld Z h0 a1 "com/example/lamina3/lamina3/AffineMap" "e" "D" (.double (0 : UInt64))) (F_5 : Fld Z h0 a1 "com/example/lamina3/lamina3/AffineMap" "f" "D" (.double (0 : UInt64))) (hf0 : Jvm.Free.Fl.Fin64 x0) (hf1 : Jvm.Free.Fl.Fin64 x1) (hf2 : Jvm.Free.Fl.Fin64 x2) (hf3 : Jvm.Free.Fl.Fin64 x3) (hf4 : Jvm.Free.Fl.Fin64 x4) (hf5 : Jvm.Free.Fl.Fin64 x5) (nn0 : Jvm.Free.Fl.NoNaN64 (FP.dadd x0 (0 : UInt64))) (nn1 : Jvm.Free.Fl.NoNaN64 (FP.dadd x1 (0 : UInt64))) (nn2 : Jvm.Free.Fl.NoNaN64 (FP.dadd x2 (0 : UInt64))) (nn3 : Jvm.Free.Fl.NoNaN64 (FP.dadd x3 (0 : UInt64))) (nn4 : Jvm.Free.Fl.NoNaN64 (FP.dadd x4 (0 : UInt64))) (nn5 : Jvm.Free.Fl.NoNaN64 (FP.dadd x5 (0 : UInt64))) :
    Ct l Z (⟨"com/example/lamina3/lamina3/AffineMap", "<init>", "(DDDDDD)V"⟩ : MethodName) prog_1_method_1_code 13 none ws ({ frames := 3, cells := 1, slots := 6, locals := 43 } : Room) #[.ref a1, .double x0, .double x1, .double x2, .double x3, .double x4, .double x5] h0 (fun w h L => w = none ∧ Fr n0 L ∧ Keep h0 h [a1] ∧ Fld Z h a1 "com/example/lamina3/lamina3/AffineMap" "a" "D" (.double (FP.dadd x0 (0 : UInt64))) ∧ Fld Z h a1 "com/example/lamina3/lamina3/AffineMap" "b" "D" (.double (FP.dadd x1 (0 : UInt64))) ∧ Fld Z h a1 "com/example/lamina3/lamina3/AffineMap" "c" "D" (.double (FP.dadd x2 (0 : UInt64))) ∧ Fld Z h a1 "com/example/lamina3/lamina3/AffineMap" "d" "D" (.double (FP.dadd x3 (0 : UInt64))) ∧ Fld Z h a1 "com/example/lamina3/lamina3/AffineMap" "e" "D" (.double (FP.dadd x4 (0 : UInt64))) ∧ Fld Z h a1 "com/example/lamina3/lamina3/AffineMap" "f" "D" (.double (FP.dadd x5 (0 : UInt64)))) := by
  refine Ct.intro pn_1 #[.val (.ref a1), .val (.double x0), .second, .val (.double x1), .second, .val (.double x2), .second, .val (.double x3), .second, .val (.double x4), .second, .val (.double x5), .second] (fun _ => by first | (simp [entryFrame, mkF, argsToLocals, Value.category, maxLocals]; done) | rfl) ?_
  intro p e s m below meth c T0 X0 hx hZ hby hml hown hnm hret hlk e0
  have N0 := Fr.nil n0
  have K0 := Keep.refl h0 [a1]
  refine s_aloadN X0 hx (hb hby d1_0) rfl rfl 1 rfl ?_
  obtain ⟨T10, X10, e10, st10⟩ := initO X0 hx hZ hown (wd hw 10 _ rfl) (wd hw 11 _ rfl) (wd hw 12 _ rfl) e0 (g := (mkF m 1 #[.val (.ref a1), .val (.double x0), .second, .val (.double x1), .second, .val (.double x2), .second, .val (.double x3), .second, .val (.double x4), .second, .val (.double x5), .second] [.ref a1])) rfl (by rw [hml]; rfl) rfl (hb hby d1_1) (by decide) (W := 0) (by show 2 * 0 + _ ≤ _; exact Nat.le_of_eq rfl) (by decide)
  refine Go.via st10 ?_
  show Go p e below _ (T10.setTop (mkF m 4 #[.val (.ref a1), .val (.double x0), .second, .val (.double x1), .second, .val (.double x2), .second, .val (.double x3), .second, .val (.double x4), .second, .val (.double x5), .second] []))
  refine s_bipush X10 hx (hb hby d1_4) (6 : Int32) rfl 6 rfl ?_
  obtain ⟨T11, h11, c11, X11, e11, E11, A11, st11⟩ := s_newarray X10 hx hZ (aty := .double) (wd hw 13 _ rfl) e10 (hb hby d1_6) #[.val (.ref a1), .val (.double x0), .second, .val (.double x1), .second, .val (.double x2), .second, .val (.double x3), .second, .val (.double x4), .second, .val (.double x5), .second] [] (n := (6 : Int32)) 6 (by decide) [.double (0 : UInt64), .double (0 : UInt64), .double (0 : UInt64), .double (0 : UInt64), .double (0 : UInt64), .double (0 : UInt64)] rfl (by decide) (by decide) (by decide) 8 rfl
  obtain ⟨a11, g11⟩ : ∃ z, z = h0.size := ⟨_, rfl⟩
  rw [← g11] at A11 st11
  have ne12 : a1 ≠ a11 := by rw [g11]; exact Nat.ne_of_lt E1.lt
  have q13 : n0 ≤ a11 := by rw [g11]; exact Z0
  have q14 : h0.size ≤ a11 := by rw [g11]; exact K0.1
  have K15 := K0.ext E11
  have F16 := E1.ext E11
  have F17 := F_0.ext E11
  have F18 := F_1.ext E11
  have F19 := F_2.ext E11
  have F20 := F_3.ext E11
  have F21 := F_4.ext E11
  have F22 := F_5.ext E11
  have Z23 := Nat.le_trans Z0 E11.1
  refine Go.via st11 ?_
  refine s_dup X11 hx (hb hby d1_8) rfl 9 rfl ?_
  refine s_iconst X11 hx (hb hby d1_9) (0 : Int32) rfl 10 rfl ?_
  refine s_dloadN X11 hx (hb hby d1_10) rfl 11 rfl ?_
  obtain ⟨T24, h24, X24, e24, W24, A24, st24⟩ := s_dastore X11 hx hZ e11 A11 (hb hby d1_11) #[.val (.ref a1), .val (.double x0), .second, .val (.double x1), .second, .val (.double x2), .second, .val (.double x3), .second, .val (.double x4), .second, .val (.double x5), .second] [.ref a11] (j := (0 : Int32)) 0 (by decide) (by show 0 < 6; decide) x0 [.double x0, .double (0 : UInt64), .double (0 : UInt64), .double (0 : UInt64), .double (0 : UInt64), .double (0 : UInt64)] rfl 12 rfl
  have N24 := Fr.snoc X24 N0 q13
  have F25 := F16.wr W24
  have F26 := F17.other W24 (Or.inl ne12)
  have F27 := F18.other W24 (Or.inl ne12)
  have F28 := F19.other W24 (Or.inl ne12)
  have F29 := F20.other W24 (Or.inl ne12)
  have F30 := F21.other W24 (Or.inl ne12)
  have F31 := F22.other W24 (Or.inl ne12)
  have Z32 : n0 ≤ h24.size := by rw [W24.size]; exact Z23
  have K33 := K15.wr W24 (Or.inr q14)
  refine Go.via st24 ?_
  refine s_dup X24 hx (hb hby d1_12) rfl 13 rfl ?_
  refine s_iconst X24 hx (hb hby d1_13) (1 : Int32) rfl 14 rfl ?_
  refine s_dloadN X24 hx (hb hby d1_14) rfl 15 rfl ?_
  obtain ⟨T34, h34, X34, e34, W34, A34, st34⟩ := s_dastore X24 hx hZ e24 A24 (hb hby d1_15) #[.val (.ref a1), .val (.double x0), .second, .val (.double x1), .second, .val (.double x2), .second, .val (.double x3), .second, .val (.double x4), .second, .val (.double x5), .second] [.ref a11] (j := (1 : Int32)) 1 (by decide) (by show 1 < 6; decide) x1 [.double x0, .double x1, .double (0 : UInt64), .double (0 : UInt64), .double (0 : UInt64), .double (0 : UInt64)] rfl 16 rfl
  have N34 := Fr.snoc X34 N24 q13
  have F35 := F25.wr W34
  have F36 := F26.other W34 (Or.inl ne12)
  have F37 := F27.other W34 (Or.inl ne12)
  have F38 := F28.other W34 (Or.inl ne12)
  have F39 := F29.other W34 (Or.inl ne12)
  have F40 := F30.other W34 (Or.inl ne12)
  have F41 := F31.other W34 (Or.inl ne12)
  have Z42 : n0 ≤ h34.size := by rw [W34.size]; exact Z32
  have K43 := K33.wr W34 (Or.inr q14)
  refine Go.via st34 ?_
  refine s_dup X34 hx (hb hby d1_16) rfl 17 rfl ?_
  refine s_iconst X34 hx (hb hby d1_17) (2 : Int32) rfl 18 rfl ?_
  refine s_dload X34 hx (hb hby d1_18) rfl 20 rfl ?_
  obtain ⟨T44, h44, X44, e44, W44, A44, st44⟩ := s_dastore X34 hx hZ e34 A34 (hb hby d1_20) #[.val (.ref a1), .val (.double x0), .second, .val (.double x1), .second, .val (.double x2), .second, .val (.double x3), .second, .val (.double x4), .second, .val (.double x5), .second] [.ref a11] (j := (2 : Int32)) 2 (by decide) (by show 2 < 6; decide) x2 [.double x0, .double x1, .double x2, .double (0 : UInt64), .double (0 : UInt64), .double (0 : UInt64)] rfl 21 rfl
  have N44 := Fr.snoc X44 N34 q13
  have F45 := F35.wr W44
  have F46 := F36.other W44 (Or.inl ne12)
  have F47 := F37.other W44 (Or.inl ne12)
  have F48 := F38.other W44 (Or.inl ne12)
  have F49 := F39.other W44 (Or.inl ne12)
  have F50 := F40.other W44 (Or.inl ne12)
  have F51 := F41.other W44 (Or.inl ne12)
  have Z52 : n0 ≤ h44.size := by rw [W44.size]; exact Z42
  have K53 := K43.wr W44 (Or.inr q14)
  refine Go.via st44 ?_
  refine s_dup X44 hx (hb hby d1_21) rfl 22 rfl ?_
  refine s_iconst X44 hx (hb hby d1_22) (3 : Int32) rfl 23 rfl ?_
  refine s_dload X44 hx (hb hby d1_23) rfl 25 rfl ?_
  obtain ⟨T54, h54, X54, e54, W54, A54, st54⟩ := s_dastore X44 hx hZ e44 A44 (hb hby d1_25) #[.val (.ref a1), .val (.double x0), .second, .val (.double x1), .second, .val (.double x2), .second, .val (.double x3), .second, .val (.double x4), .second, .val (.double x5), .second] [.ref a11] (j := (3 : Int32)) 3 (by decide) (by show 3 < 6; decide) x3 [.double x0, .double x1, .double x2, .double x3, .double (0 : UInt64), .double (0 : UInt64)] rfl 26 rfl
  have N54 := Fr.snoc X54 N44 q13
  have F55 := F45.wr W54
  have F56 := F46.other W54 (Or.inl ne12)
  have F57 := F47.other W54 (Or.inl ne12)
  have F58 := F48.other W54 (Or.inl ne12)
  have F59 := F49.other W54 (Or.inl ne12)
  have F60 := F50.other W54 (Or.inl ne12)
  have F61 := F51.other W54 (Or.inl ne12)
  have Z62 : n0 ≤ h54.size := by rw [W54.size]; exact Z52
  have K63 := K53.wr W54 (Or.inr q14)
  refine Go.via st54 ?_
  refine s_dup X54 hx (hb hby d1_26) rfl 27 rfl ?_
  refine s_iconst X54 hx (hb hby d1_27) (4 : Int32) rfl 28 rfl ?_
  refine s_dload X54 hx (hb hby d1_28) rfl 30 rfl ?_
  obtain ⟨T64, h64, X64, e64, W64, A64, st64⟩ := s_dastore X54 hx hZ e54 A54 (hb hby d1_30) #[.val (.ref a1), .val (.double x0), .second, .val (.double x1), .second, .val (.double x2), .second, .val (.double x3), .second, .val (.double x4), .second, .val (.double x5), .second] [.ref a11] (j := (4 : Int32)) 4 (by decide) (by show 4 < 6; decide) x4 [.double x0, .double x1, .double x2, .double x3, .double x4, .double (0 : UInt64)] rfl 31 rfl
  have N64 := Fr.snoc X64 N54 q13
  have F65 := F55.wr W64
  have F66 := F56.other W64 (Or.inl ne12)
  have F67 := F57.other W64 (Or.inl ne12)
  have F68 := F58.other W64 (Or.inl ne12)
  have F69 := F59.other W64 (Or.inl ne12)
  have F70 := F60.other W64 (Or.inl ne12)
  have F71 := F61.other W64 (Or.inl ne12)
  have Z72 : n0 ≤ h64.size := by rw [W64.size]; exact Z62
  have K73 := K63.wr W64 (Or.inr q14)
  refine Go.via st64 ?_
  refine s_dup X64 hx (hb hby d1_31) rfl 32 rfl ?_
  refine s_iconst X64 hx (hb hby d1_32) (5 : Int32) rfl 33 rfl ?_
  refine s_dload X64 hx (hb hby d1_33) rfl 35 rfl ?_
  obtain ⟨T74, h74, X74, e74, W74, A74, st74⟩ := s_dastore X64 hx hZ e64 A64 (hb hby d1_35) #[.val (.ref a1), .val (.double x0), .second, .val (.double x1), .second, .val (.double x2), .second, .val (.double x3), .second, .val (.double x4), .second, .val (.double x5), .second] [.ref a11] (j := (5 : Int32)) 5 (by decide) (by show 5 < 6; decide) x5 [.double x0, .double x1, .double x2, .double x3, .double x4, .double x5] rfl 36 rfl
  have N74 := Fr.snoc X74 N64 q13
  have F75 := F65.wr W74
  have F76 := F66.other W74 (Or.inl ne12)
  have F77 := F67.other W74 (Or.inl ne12)
  have F78 := F68.other W74 (Or.inl ne12)
  have F79 := F69.other W74 (Or.inl ne12)
  have F80 := F70.other W74 (Or.inl ne12)
  have F81 := F71.other W74 (Or.inl ne12)
  have Z82 : n0 ≤ h74.size := by rw [W74.size]; exact Z72
  have K83 := K73.wr W74 (Or.inr q14)
  refine Go.via st74 ?_
  obtain ⟨v84, T84, L84, X84, hQ84, st84⟩ := callStat X74 hx hZ hown (wd hw 14 _ rfl) (wd hw 15 _ rfl) (wd hw 6 _ rfl) (wd hw 16 _ rfl) (by decide) (rm_allfin l Z a0 hw [] a11 c11 x0 x1 x2 x3 x4 x5 h74 n0 Z82 A74 hf0 hf1 hf2 hf3 hf4 hf5) e74 (L := #[.val (.ref a1), .val (.double x0), .second, .val (.double x1), .second, .val (.double x2), .second, .val (.double x3), .second, .val (.double x4), .second, .val (.double x5), .second]) (hb hby d1_36) (by rw [hml]; rfl) [.ref a11] [] rfl rfl pd_3 rfl 0 (by show 2 * 0 + _ ≤ _; exact Nat.le_of_eq rfl) (by decide) (by decide) (by decide) (by decide)
  obtain ⟨rfl, N84, hh84⟩ := hQ84
  have M84 := Fr.app N74 N84
  refine Go.via st84 ?_
  show Go p e below _ (T84.setTop (mkF m 39 #[.val (.ref a1), .val (.double x0), .second, .val (.double x1), .second, .val (.double x2), .second, .val (.double x3), .second, .val (.double x4), .second, .val (.double x5), .second] [.int (1 : Int32)]))
  refine s_ifY X84 hx (hb hby d1_39) (by decide) 90 (by decide) (by decide) ?_
  refine s_aloadN X84 hx (hb hby d1_90) rfl rfl 91 rfl ?_
  refine s_dloadN X84 hx (hb hby d1_91) rfl 92 rfl ?_
  refine s_dconst0 X84 hx (hb hby d1_92) (0 : UInt64) rfl 93 rfl ?_
  refine s_dadd X84 hx (hb hby d1_93) (FP.dadd x0 (0 : UInt64)) rfl nn0 94 rfl ?_
  obtain ⟨T85, h85, X85, e85, W85, st85⟩ := putF X84 hx hZ hown (host := "") (Or.inl (wd hw 26 _ rfl)) Via.refl hh84 F76 F75 (Or.inr ⟨(wd hw 27 _ rfl), rfl, hnm⟩) (wd hw 5 _ rfl) (ty := .double) (by decide) rfl rfl (g := (mkF m 94 #[.val (.ref a1), .val (.double x0), .second, .val (.double x1), .second, .val (.double x2), .second, .val (.double x3), .second, .val (.double x4), .second, .val (.double x5), .second] [.double (FP.dadd x0 (0 : UInt64)), .ref a1])) rfl rfl (hb hby d1_94)
  have N85 := Fr.snoc X85 M84 g1
  have F86 := F76.same W85
  have F87 := F75.wr W85
  have F88 := F77.other W85 (Or.inr (slot_ne (a0 := a0) (t := .double) (t' := .double) (Or.inr (wd hw 29 _ rfl)) (Or.inr (wd hw 27 _ rfl)) (by decide) (by decide) (by decide)))
  have F89 := F78.other W85 (Or.inr (slot_ne (a0 := a0) (t := .double) (t' := .double) (Or.inr (wd hw 31 _ rfl)) (Or.inr (wd hw 27 _ rfl)) (by decide) (by decide) (by decide)))
  have F90 := F79.other W85 (Or.inr (slot_ne (a0 := a0) (t := .double) (t' := .double) (Or.inr (wd hw 33 _ rfl)) (Or.inr (wd hw 27 _ rfl)) (by decide) (by decide) (by decide)))
  have F91 := F80.other W85 (Or.inr (slot_ne (a0 := a0) (t := .double) (t' := .double) (Or.inr (wd hw 35 _ rfl)) (Or.inr (wd hw 27 _ rfl)) (by decide) (by decide) (by decide)))
  have F92 := F81.other W85 (Or.inr (slot_ne (a0 := a0) (t := .double) (t' := .double) (Or.inr (wd hw 37 _ rfl)) (Or.inr (wd hw 27 _ rfl)) (by decide) (by decide) (by decide)))
  have F93 := A74.other W85 ((ne12).symm)
  have Z94 : n0 ≤ h85.size := by rw [W85.size]; exact Z82
  have K95 := K83.wr W85 (Or.inl (by simp))
  refine Go.via st85 ?_
  show Go p e below _ (T85.setTop (mkF m 97 #[.val (.ref a1), .val (.double x0), .second, .val (.double x1), .second, .val (.double x2), .second, .val (.double x3), .second, .val (.double x4), .second, .val (.double x5), .second] []))
  refine s_aloadN X85 hx (hb hby d1_97) rfl rfl 98 rfl ?_
  refine s_dloadN X85 hx (hb hby d1_98) rfl 99 rfl ?_
  refine s_dconst0 X85 hx (hb hby d1_99) (0 : UInt64) rfl 100 rfl ?_
  refine s_dadd X85 hx (hb hby d1_100) (FP.dadd x1 (0 : UInt64)) rfl nn1 101 rfl ?_
  obtain ⟨T96, h96, X96, e96, W96, st96⟩ := putF X85 hx hZ hown (host := "") (Or.inl (wd hw 28 _ rfl)) Via.refl e85 F88 F87 (Or.inr ⟨(wd hw 29 _ rfl), rfl, hnm⟩) (wd hw 5 _ rfl) (ty := .double) (by decide) rfl rfl (g := (mkF m 101 #[.val (.ref a1), .val (.double x0), .second, .val (.double x1), .second, .val (.double x2), .second, .val (.double x3), .second, .val (.double x4), .second, .val (.double x5), .second] [.double (FP.dadd x1 (0 : UInt64)), .ref a1])) rfl rfl (hb hby d1_101)
  have N96 := Fr.snoc X96 N85 g1
  have F97 := F88.same W96
  have F98 := F87.wr W96
  have F99 := F86.other W96 (Or.inr (slot_ne (a0 := a0) (t := .double) (t' := .double) (Or.inr (wd hw 27 _ rfl)) (Or.inr (wd hw 29 _ rfl)) (by decide) (by decide) (by decide)))
  have F100 := F89.other W96 (Or.inr (slot_ne (a0 := a0) (t := .double) (t' := .double) (Or.inr (wd hw 31 _ rfl)) (Or.inr (wd hw 29 _ rfl)) (by decide) (by decide) (by decide)))
  have F101 := F90.other W96 (Or.inr (slot_ne (a0 := a0) (t := .double) (t' := .double) (Or.inr (wd hw 33 _ rfl)) (Or.inr (wd hw 29 _ rfl)) (by decide) (by decide) (by decide)))
  have F102 := F91.other W96 (Or.inr (slot_ne (a0 := a0) (t := .double) (t' := .double) (Or.inr (wd hw 35 _ rfl)) (Or.inr (wd hw 29 _ rfl)) (by decide) (by decide) (by decide)))
  have F103 := F92.other W96 (Or.inr (slot_ne (a0 := a0) (t := .double) (t' := .double) (Or.inr (wd hw 37 _ rfl)) (Or.inr (wd hw 29 _ rfl)) (by decide) (by decide) (by decide)))
  have F104 := F93.other W96 ((ne12).symm)
  have Z105 : n0 ≤ h96.size := by rw [W96.size]; exact Z94
  have K106 := K95.wr W96 (Or.inl (by simp))
  refine Go.via st96 ?_
  show Go p e below _ (T96.setTop (mkF m 104 #[.val (.ref a1), .val (.double x0), .second, .val (.double x1), .second, .val (.double x2), .second, .val (.double x3), .second, .val (.double x4), .second, .val (.double x5), .second] []))
  refine s_aloadN X96 hx (hb hby d1_104) rfl rfl 105 rfl ?_
  refine s_dload X96 hx (hb hby d1_105) rfl 107 rfl ?_
  refine s_dconst0 X96 hx (hb hby d1_107) (0 : UInt64) rfl 108 rfl ?_
  refine s_dadd X96 hx (hb hby d1_108) (FP.dadd x2 (0 : UInt64)) rfl nn2 109 rfl ?_
  obtain ⟨T107, h107, X107, e107, W107, st107⟩ := putF X96 hx hZ hown (host := "") (Or.inl (wd hw 30 _ rfl)) Via.refl e96 F100 F98 (Or.inr ⟨(wd hw 31 _ rfl), rfl, hnm⟩) (wd hw 5 _ rfl) (ty := .double) (by decide) rfl rfl (g := (mkF m 109 #[.val (.ref a1), .val (.double x0), .second, .val (.double x1), .second, .val (.double x2), .second, .val (.double x3), .second, .val (.double x4), .second, .val (.double x5), .second] [.double (FP.dadd x2 (0 : UInt64)), .ref a1])) rfl rfl (hb hby d1_109)
  have N107 := Fr.snoc X107 N96 g1
  have F108 := F100.same W107
  have F109 := F98.wr W107
  have F110 := F99.other W107 (Or.inr (slot_ne (a0 := a0) (t := .double) (t' := .double) (Or.inr (wd hw 27 _ rfl)) (Or.inr (wd hw 31 _ rfl)) (by decide) (by decide) (by decide)))
  have F111 := F97.other W107 (Or.inr (slot_ne (a0 := a0) (t := .double) (t' := .double) (Or.inr (wd hw 29 _ rfl)) (Or.inr (wd hw 31 _ rfl)) (by decide) (by decide) (by decide)))
  have F112 := F101.other W107 (Or.inr (slot_ne (a0 := a0) (t := .double) (t' := .double) (Or.inr (wd hw 33 _ rfl)) (Or.inr (wd hw 31 _ rfl)) (by decide) (by decide) (by decide)))
  have F113 := F102.other W107 (Or.inr (slot_ne (a0 := a0) (t := .double) (t' := .double) (Or.inr (wd hw 35 _ rfl)) (Or.inr (wd hw 31 _ rfl)) (by decide) (by decide) (by decide)))
  have F114 := F103.other W107 (Or.inr (slot_ne (a0 := a0) (t := .double) (t' := .double) (Or.inr (wd hw 37 _ rfl)) (Or.inr (wd hw 31 _ rfl)) (by decide) (by decide) (by decide)))
  have F115 := F104.other W107 ((ne12).symm)
  have Z116 : n0 ≤ h107.size := by rw [W107.size]; exact Z105
  have K117 := K106.wr W107 (Or.inl (by simp))
  refine Go.via st107 ?_
  show Go p e below _ (T107.setTop (mkF m 112 #[.val (.ref a1), .val (.double x0), .second, .val (.double x1), .second, .val (.double x2), .second, .val (.double x3), .second, .val (.double x4), .second, .val (.double x5), .second] []))
  refine s_aloadN X107 hx (hb hby d1_112) rfl rfl 113 rfl ?_
  refine s_dload X107 hx (hb hby d1_113) rfl 115 rfl ?_
  refine s_dconst0 X107 hx (hb hby d1_115) (0 : UInt64) rfl 116 rfl ?_
  refine s_dadd X107 hx (hb hby d1_116) (FP.dadd x3 (0 : UInt64)) rfl nn3 117 rfl ?_
  obtain ⟨T118, h118, X118, e118, W118, st118⟩ := putF X107 hx hZ hown (host := "") (Or.inl (wd hw 32 _ rfl)) Via.refl e107 F112 F109 (Or.inr ⟨(wd hw 33 _ rfl), rfl, hnm⟩) (wd hw 5 _ rfl) (ty := .double) (by decide) rfl rfl (g := (mkF m 117 #[.val (.ref a1), .val (.double x0), .second, .val (.double x1), .second, .val (.double x2), .second, .val (.double x3), .second, .val (.double x4), .second, .val (.double x5), .second] [.double (FP.dadd x3 (0 : UInt64)), .ref a1])) rfl rfl (hb hby d1_117)
  have N118 := Fr.snoc X118 N107 g1
  have F119 := F112.same W118
  have F120 := F109.wr W118
  have F121 := F110.other W118 (Or.inr (slot_ne (a0 := a0) (t := .double) (t' := .double) (Or.inr (wd hw 27 _ rfl)) (Or.inr (wd hw 33 _ rfl)) (by decide) (by decide) (by decide)))
  have F122 := F111.other W118 (Or.inr (slot_ne (a0 := a0) (t := .double) (t' := .double) (Or.inr (wd hw 29 _ rfl)) (Or.inr (wd hw 33 _ rfl)) (by decide) (by decide) (by decide)))
  have F123 := F108.other W118 (Or.inr (slot_ne (a0 := a0) (t := .double) (t' := .double) (Or.inr (wd hw 31 _ rfl)) (Or.inr (wd hw 33 _ rfl)) (by decide) (by decide) (by decide)))
  have F124 := F113.other W118 (Or.inr (slot_ne (a0 := a0) (t := .double) (t' := .double) (Or.inr (wd hw 35 _ rfl)) (Or.inr (wd hw 33 _ rfl)) (by decide) (by decide) (by decide)))
  have F125 := F114.other W118 (Or.inr (slot_ne (a0 := a0) (t := .double) (t' := .double) (Or.inr (wd hw 37 _ rfl)) (Or.inr (wd hw 33 _ rfl)) (by decide) (by decide) (by decide)))
  have F126 := F115.other W118 ((ne12).symm)
  have Z127 : n0 ≤ h118.size := by rw [W118.size]; exact Z116
  have K128 := K117.wr W118 (Or.inl (by simp))
  refine Go.via st118 ?_
  show Go p e below _ (T118.setTop (mkF m 120 #[.val (.ref a1), .val (.double x0), .second, .val (.double x1), .second, .val (.double x2), .second, .val (.double x3), .second, .val (.double x4), .second, .val (.double x5), .second] []))
  refine s_aloadN X118 hx (hb hby d1_120) rfl rfl 121 rfl ?_
  refine s_dload X118 hx (hb hby d1_121) rfl 123 rfl ?_
  refine s_dconst0 X118 hx (hb hby d1_123) (0 : UInt64) rfl 124 rfl ?_
  refine s_dadd X118 hx (hb hby d1_124) (FP.dadd x4 (0 : UInt64)) rfl nn4 125 rfl ?_
  obtain ⟨T129, h129, X129, e129, W129, st129⟩ := putF X118 hx hZ hown (host := "") (Or.inl (wd hw 34 _ rfl)) Via.refl e118 F124 F120 (Or.inr ⟨(wd hw 35 _ rfl), rfl, hnm⟩) (wd hw 5 _ rfl) (ty := .double) (by decide) rfl rfl (g := (mkF m 125 #[.val (.ref a1), .val (.double x0), .second, .val (.double x1), .second, .val (.double x2), .second, .val (.double x3), .second, .val (.double x4), .second, .val (.double x5), .second] [.double (FP.dadd x4 (0 : UInt64)), .ref a1])) rfl rfl (hb hby d1_125)
  have N129 := Fr.snoc X129 N118 g1
  have F130 := F124.same W129
  have F131 := F120.wr W129
  have F132 := F121.other W129 (Or.inr (slot_ne (a0 := a0) (t := .double) (t' := .double) (Or.inr (wd hw 27 _ rfl)) (Or.inr (wd hw 35 _ rfl)) (by decide) (by decide) (by decide)))
  have F133 := F122.other W129 (Or.inr (slot_ne (a0 := a0) (t := .double) (t' := .double) (Or.inr (wd hw 29 _ rfl)) (Or.inr (wd hw 35 _ rfl)) (by decide) (by decide) (by decide)))
  have F134 := F123.other W129 (Or.inr (slot_ne (a0 := a0) (t := .double) (t' := .double) (Or.inr (wd hw 31 _ rfl)) (Or.inr (wd hw 35 _ rfl)) (by decide) (by decide) (by decide)))
  have F135 := F119.other W129 (Or.inr (slot_ne (a0 := a0) (t := .double) (t' := .double) (Or.inr (wd hw 33 _ rfl)) (Or.inr (wd hw 35 _ rfl)) (by decide) (by decide) (by decide)))
  have F136 := F125.other W129 (Or.inr (slot_ne (a0 := a0) (t := .double) (t' := .double) (Or.inr (wd hw 37 _ rfl)) (Or.inr (wd hw 35 _ rfl)) (by decide) (by decide) (by decide)))
  have F137 := F126.other W129 ((ne12).symm)
  have Z138 : n0 ≤ h129.size := by rw [W129.size]; exact Z127
  have K139 := K128.wr W129 (Or.inl (by simp))
  refine Go.via st129 ?_
  show Go p e below _ (T129.setTop (mkF m 128 #[.val (.ref a1), .val (.double x0), .second, .val (.double x1), .second, .val (.double x2), .second, .val (.double x3), .second, .val (.double x4), .second, .val (.double x5), .second] []))
  refine s_aloadN X129 hx (hb hby d1_128) rfl rfl 129 rfl ?_
  refine s_dload X129 hx (hb hby d1_129) rfl 131 rfl ?_
  refine s_dconst0 X129 hx (hb hby d1_131) (0 : UInt64) rfl 132 rfl ?_
  refine s_dadd X129 hx (hb hby d1_132) (FP.dadd x5 (0 : UInt64)) rfl nn5 133 rfl ?_
  obtain ⟨T140, h140, X140, e140, W140, st140⟩ := putF X129 hx hZ hown (host := "") (Or.inl (wd hw 36 _ rfl)) Via.refl e129 F136 F131 (Or.inr ⟨(wd hw 37 _ rfl), rfl, hnm⟩) (wd hw 5 _ rfl) (ty := .double) (by decide) rfl rfl (g := (mkF m 133 #[.val (.ref a1), .val (.double x0), .second, .val (.double x1), .second, .val (.double x2), .second, .val (.double x3), .second, .val (.double x4), .second, .val (.double x5), .second] [.double (FP.dadd x5 (0 : UInt64)), .ref a1])) rfl rfl (hb hby d1_133)
  have N140 := Fr.snoc X140 N129 g1
  have F141 := F136.same W140
  have F142 := F131.wr W140
  have F143 := F132.other W140 (Or.inr (slot_ne (a0 := a0) (t := .double) (t' := .double) (Or.inr (wd hw 27 _ rfl)) (Or.inr (wd hw 37 _ rfl)) (by decide) (by decide) (by decide)))
  have F144 := F133.other W140 (Or.inr (slot_ne (a0 := a0) (t := .double) (t' := .double) (Or.inr (wd hw 29 _ rfl)) (Or.inr (wd hw 37 _ rfl)) (by decide) (by decide) (by decide)))
  have F145 := F134.other W140 (Or.inr (slot_ne (a0 := a0) (t := .double) (t' := .double) (Or.inr (wd hw 31 _ rfl)) (Or.inr (wd hw 37 _ rfl)) (by decide) (by decide) (by decide)))
  have F146 := F135.other W140 (Or.inr (slot_ne (a0 := a0) (t := .double) (t' := .double) (Or.inr (wd hw 33 _ rfl)) (Or.inr (wd hw 37 _ rfl)) (by decide) (by decide) (by decide)))
  have F147 := F130.other W140 (Or.inr (slot_ne (a0 := a0) (t := .double) (t' := .double) (Or.inr (wd hw 35 _ rfl)) (Or.inr (wd hw 37 _ rfl)) (by decide) (by decide) (by decide)))
  have F148 := F137.other W140 ((ne12).symm)
  have Z149 : n0 ≤ h140.size := by rw [W140.size]; exact Z138
  have K150 := K139.wr W140 (Or.inl (by simp))
  refine Go.via st140 ?_
  show Go p e below _ (T140.setTop (mkF m 136 #[.val (.ref a1), .val (.double x0), .second, .val (.double x1), .second, .val (.double x2), .second, .val (.double x3), .second, .val (.double x4), .second, .val (.double x5), .second] []))
  exact retV X140 hx hlk hret (hb hby d1_136) e140 ⟨rfl, N140, K150, F143, F144, F145, F146, F147, F141⟩ (by decide) (by decide)
theorem d6_0 : decode prog_1_method_8_code 0 = .ok (.bipush 6, 2) := by decide +kernel
theorem d6_2 : decode prog_1_method_8_code 2 = .ok (.newarray .double, 2) := by decide +kernel
theorem d6_4 : decode prog_1_method_8_code 4 = .ok (.dup, 1) := by decide +kernel
theorem d6_5 : decode prog_1_method_8_code 5 = .ok (.iconst 0, 1) := by decide +kernel
theorem d6_6 : decode prog_1_method_8_code 6 = .ok (.aload_n 0, 1) := by decide +kernel
theorem d6_7 : decode prog_1_method_8_code 7 = .ok (.getfield 28, 3) := by decide +kernel
theorem d6_10 : decode prog_1_method_8_code 10 = .ok (.dastore, 1) := by decide +kernel
theorem d6_11 : decode prog_1_method_8_code 11 = .ok (.dup, 1) := by decide +kernel
theorem d6_12 : decode prog_1_method_8_code 12 = .ok (.iconst 1, 1) := by decide +kernel
theorem d6_13 : decode prog_1_method_8_code 13 = .ok (.aload_n 0, 1) := by decide +kernel
theorem d6_14 : decode prog_1_method_8_code 14 = .ok (.getfield 32, 3) := by decide +kernel
theorem d6_17 : decode prog_1_method_8_code 17 = .ok (.dastore, 1) := by decide +kernel
theorem d6_18 : decode prog_1_method_8_code 18 = .ok (.dup, 1) := by decide +kernel
theorem d6_19 : decode prog_1_method_8_code 19 = .ok (.iconst 2, 1) := by decide +kernel
theorem d6_20 : decode prog_1_method_8_code 20 = .ok (.aload_n 0, 1) := by decide +kernel
theorem d6_21 : decode prog_1_method_8_code 21 = .ok (.getfield 35, 3) := by decide +kernel
theorem d6_24 : decode prog_1_method_8_code 24 = .ok (.dastore, 1) := by decide +kernel
theorem d6_25 : decode prog_1_method_8_code 25 = .ok (.dup, 1) := by decide +kernel
theorem d6_26 : decode prog_1_method_8_code 26 = .ok (.iconst 3, 1) := by decide +kernel
theorem d6_27 : decode prog_1_method_8_code 27 = .ok (.aload_n 0, 1) := by decide +kernel
theorem d6_28 : decode prog_1_method_8_code 28 = .ok (.getfield 38, 3) := by decide +kernel
theorem d6_31 : decode prog_1_method_8_code 31 = .ok (.dastore, 1) := by decide +kernel
theorem d6_32 : decode prog_1_method_8_code 32 = .ok (.dup, 1) := by decide +kernel
theorem d6_33 : decode prog_1_method_8_code 33 = .ok (.iconst 4, 1) := by decide +kernel
theorem d6_34 : decode prog_1_method_8_code 34 = .ok (.aload_n 0, 1) := by decide +kernel
theorem d6_35 : decode prog_1_method_8_code 35 = .ok (.getfield 41, 3) := by decide +kernel
theorem d6_38 : decode prog_1_method_8_code 38 = .ok (.dastore, 1) := by decide +kernel
theorem d6_39 : decode prog_1_method_8_code 39 = .ok (.dup, 1) := by decide +kernel
theorem d6_40 : decode prog_1_method_8_code 40 = .ok (.iconst 5, 1) := by decide +kernel
theorem d6_41 : decode prog_1_method_8_code 41 = .ok (.aload_n 0, 1) := by decide +kernel
theorem d6_42 : decode prog_1_method_8_code 42 = .ok (.getfield 44, 3) := by decide +kernel
theorem d6_45 : decode prog_1_method_8_code 45 = .ok (.dastore, 1) := by decide +kernel
theorem d6_46 : decode prog_1_method_8_code 46 = .ok (.areturn, 1) := by decide +kernel
theorem pd_6 : parseMethodDescriptor "()[D" = some ⟨[], some (.array .double)⟩ := by decide +kernel
theorem pn_6 : plainFor (⟨"com/example/lamina3/lamina3/AffineMap", "coefficients", "()[D"⟩ : MethodName) = true := plainFor_of_name (by show plainName "com/example/lamina3/lamina3/AffineMap" = true; first | (simp [plainName, overriddenIn]; done) | decide +kernel)
set_option maxRecDepth 65536 in
set_option maxHeartbeats 40000000 in
theorem rm_coef (l : Launch) (Z : State) (a0 : Array Value) (hw : ∀ d ∈ tables_1, d.before a0 Z = true) (ws : List Jvm.Cond) (a1 : Addr) (x0 x1 x2 x3 x4 x5 : UInt64) (h0 : Heap) (n0 : Nat) (Z0 : n0 ≤ h0.size) (F_0 : Fld Z h0 a1 "com/example/lamina3/lamina3/AffineMap" "a" "D" (.double x0)) (F_1 : Fld Z h0 a1 "com/example/lamina3/lamina3/AffineMap" "b" "D" (.double x1)) (F_2 : Fld Z h0 a1 "com/example/lamina3/lamina3/AffineMap" "c" "D" (.double x2)) (F_3 : Fld Z h0 a1 "com/example/lamina3/lamina3/AffineMap" "d" "D" (.double x3)) (F_4 : Fld Z h0 a1 "com/example/lamina3/lamina3/AffineMap" "e" "D" (.double x4)) (F_5 : Fld Z h0 a1 "com/example/lamina3/lamina3/AffineMap" "f" "D" (.double x5)) :
    Ct l Z (⟨"com/example/lamina3/lamina3/AffineMap", "coefficients", "()[D"⟩ : MethodName) prog_1_method_8_code 1 (some (.array .double)) ws ({ frames := 0, cells := 1, slots := 6, locals := 0 } : Room) #[.ref a1] h0 (fun v h L => ∃ a k, v = some (.ref a) ∧ Fr n0 L ∧ Keep h0 h [] ∧ h0.size ≤ a ∧ AR Z h a k .double [.double x0, .double x1, .double x2, .double x3, .double x4, .double x5]) := by
  refine Ct.intro pn_6 #[.val (.ref a1)] (fun _ => by first | (simp [entryFrame, mkF, argsToLocals, Value.category, maxLocals]; done) | rfl) ?_
  intro p e s m below meth c T0 X0 hx hZ hby hml hown hnm hret hlk e0
  have N0 := Fr.nil n0
  have K0 := Keep.refl h0 []
  refine s_bipush X0 hx (hb hby d6_0) (6 : Int32) rfl 2 rfl ?_
  obtain ⟨T151, h151, c151, X151, e151, E151, A151, st151⟩ := s_newarray X0 hx hZ (aty := .double) (wd hw 13 _ rfl) e0 (hb hby d6_2) #[.val (.ref a1)] [] (n := (6 : Int32)) 6 (by decide) [.double (0 : UInt64), .double (0 : UInt64), .double (0 : UInt64), .double (0 : UInt64), .double (0 : UInt64), .double (0 : UInt64)] rfl (by decide) (by decide) (by decide) 4 rfl
  obtain ⟨a151, g151⟩ : ∃ z, z = h0.size := ⟨_, rfl⟩
  rw [← g151] at A151 st151
  have ne152 : a1 ≠ a151 := by rw [g151]; exact Nat.ne_of_lt F_0.lt
  have q153 : n0 ≤ a151 := by rw [g151]; exact Z0
  have q154 : h0.size ≤ a151 := by rw [g151]; exact K0.1
  have K155 := K0.ext E151
  have F156 := F_0.ext E151
  have F157 := F_1.ext E151
  have F158 := F_2.ext E151
  have F159 := F_3.ext E151
  have F160 := F_4.ext E151
  have F161 := F_5.ext E151
  have Z162 := Nat.le_trans Z0 E151.1
  refine Go.via st151 ?_
  refine s_dup X151 hx (hb hby d6_4) rfl 5 rfl ?_
  refine s_iconst X151 hx (hb hby d6_5) (0 : Int32) rfl 6 rfl ?_
  refine s_aloadN X151 hx (hb hby d6_6) rfl rfl 7 rfl ?_
  obtain ⟨T163, X163, e163, st163⟩ := getF X151 hx hZ hown (host := "") (Or.inl (wd hw 26 _ rfl)) Via.refl e151 F156 (g := (mkF m 7 #[.val (.ref a1)] [.ref a1, .int (0 : Int32), .ref a151, .ref a151])) rfl rfl (hb hby d6_7)
  refine Go.via st163 ?_
  show Go p e below _ (T163.setTop (mkF m 10 #[.val (.ref a1)] [.double x0, .int (0 : Int32), .ref a151, .ref a151]))
  obtain ⟨T164, h164, X164, e164, W164, A164, st164⟩ := s_dastore X163 hx hZ e163 A151 (hb hby d6_10) #[.val (.ref a1)] [.ref a151] (j := (0 : Int32)) 0 (by decide) (by show 0 < 6; decide) x0 [.double x0, .double (0 : UInt64), .double (0 : UInt64), .double (0 : UInt64), .double (0 : UInt64), .double (0 : UInt64)] rfl 11 rfl
  have N164 := Fr.snoc X164 N0 q153
  have F165 := F156.other W164 (Or.inl ne152)
  have F166 := F157.other W164 (Or.inl ne152)
  have F167 := F158.other W164 (Or.inl ne152)
  have F168 := F159.other W164 (Or.inl ne152)
  have F169 := F160.other W164 (Or.inl ne152)
  have F170 := F161.other W164 (Or.inl ne152)
  have Z171 : n0 ≤ h164.size := by rw [W164.size]; exact Z162
  have K172 := K155.wr W164 (Or.inr q154)
  refine Go.via st164 ?_
  refine s_dup X164 hx (hb hby d6_11) rfl 12 rfl ?_
  refine s_iconst X164 hx (hb hby d6_12) (1 : Int32) rfl 13 rfl ?_
  refine s_aloadN X164 hx (hb hby d6_13) rfl rfl 14 rfl ?_
  obtain ⟨T173, X173, e173, st173⟩ := getF X164 hx hZ hown (host := "") (Or.inl (wd hw 28 _ rfl)) Via.refl e164 F166 (g := (mkF m 14 #[.val (.ref a1)] [.ref a1, .int (1 : Int32), .ref a151, .ref a151])) rfl rfl (hb hby d6_14)
  refine Go.via st173 ?_
  show Go p e below _ (T173.setTop (mkF m 17 #[.val (.ref a1)] [.double x1, .int (1 : Int32), .ref a151, .ref a151]))
  obtain ⟨T174, h174, X174, e174, W174, A174, st174⟩ := s_dastore X173 hx hZ e173 A164 (hb hby d6_17) #[.val (.ref a1)] [.ref a151] (j := (1 : Int32)) 1 (by decide) (by show 1 < 6; decide) x1 [.double x0, .double x1, .double (0 : UInt64), .double (0 : UInt64), .double (0 : UInt64), .double (0 : UInt64)] rfl 18 rfl
  have N174 := Fr.snoc X174 N164 q153
  have F175 := F165.other W174 (Or.inl ne152)
  have F176 := F166.other W174 (Or.inl ne152)
  have F177 := F167.other W174 (Or.inl ne152)
  have F178 := F168.other W174 (Or.inl ne152)
  have F179 := F169.other W174 (Or.inl ne152)
  have F180 := F170.other W174 (Or.inl ne152)
  have Z181 : n0 ≤ h174.size := by rw [W174.size]; exact Z171
  have K182 := K172.wr W174 (Or.inr q154)
  refine Go.via st174 ?_
  refine s_dup X174 hx (hb hby d6_18) rfl 19 rfl ?_
  refine s_iconst X174 hx (hb hby d6_19) (2 : Int32) rfl 20 rfl ?_
  refine s_aloadN X174 hx (hb hby d6_20) rfl rfl 21 rfl ?_
  obtain ⟨T183, X183, e183, st183⟩ := getF X174 hx hZ hown (host := "") (Or.inl (wd hw 30 _ rfl)) Via.refl e174 F177 (g := (mkF m 21 #[.val (.ref a1)] [.ref a1, .int (2 : Int32), .ref a151, .ref a151])) rfl rfl (hb hby d6_21)
  refine Go.via st183 ?_
  show Go p e below _ (T183.setTop (mkF m 24 #[.val (.ref a1)] [.double x2, .int (2 : Int32), .ref a151, .ref a151]))
  obtain ⟨T184, h184, X184, e184, W184, A184, st184⟩ := s_dastore X183 hx hZ e183 A174 (hb hby d6_24) #[.val (.ref a1)] [.ref a151] (j := (2 : Int32)) 2 (by decide) (by show 2 < 6; decide) x2 [.double x0, .double x1, .double x2, .double (0 : UInt64), .double (0 : UInt64), .double (0 : UInt64)] rfl 25 rfl
  have N184 := Fr.snoc X184 N174 q153
  have F185 := F175.other W184 (Or.inl ne152)
  have F186 := F176.other W184 (Or.inl ne152)
  have F187 := F177.other W184 (Or.inl ne152)
  have F188 := F178.other W184 (Or.inl ne152)
  have F189 := F179.other W184 (Or.inl ne152)
  have F190 := F180.other W184 (Or.inl ne152)
  have Z191 : n0 ≤ h184.size := by rw [W184.size]; exact Z181
  have K192 := K182.wr W184 (Or.inr q154)
  refine Go.via st184 ?_
  refine s_dup X184 hx (hb hby d6_25) rfl 26 rfl ?_
  refine s_iconst X184 hx (hb hby d6_26) (3 : Int32) rfl 27 rfl ?_
  refine s_aloadN X184 hx (hb hby d6_27) rfl rfl 28 rfl ?_
  obtain ⟨T193, X193, e193, st193⟩ := getF X184 hx hZ hown (host := "") (Or.inl (wd hw 32 _ rfl)) Via.refl e184 F188 (g := (mkF m 28 #[.val (.ref a1)] [.ref a1, .int (3 : Int32), .ref a151, .ref a151])) rfl rfl (hb hby d6_28)
  refine Go.via st193 ?_
  show Go p e below _ (T193.setTop (mkF m 31 #[.val (.ref a1)] [.double x3, .int (3 : Int32), .ref a151, .ref a151]))
  obtain ⟨T194, h194, X194, e194, W194, A194, st194⟩ := s_dastore X193 hx hZ e193 A184 (hb hby d6_31) #[.val (.ref a1)] [.ref a151] (j := (3 : Int32)) 3 (by decide) (by show 3 < 6; decide) x3 [.double x0, .double x1, .double x2, .double x3, .double (0 : UInt64), .double (0 : UInt64)] rfl 32 rfl
  have N194 := Fr.snoc X194 N184 q153
  have F195 := F185.other W194 (Or.inl ne152)
  have F196 := F186.other W194 (Or.inl ne152)
  have F197 := F187.other W194 (Or.inl ne152)
  have F198 := F188.other W194 (Or.inl ne152)
  have F199 := F189.other W194 (Or.inl ne152)
  have F200 := F190.other W194 (Or.inl ne152)
  have Z201 : n0 ≤ h194.size := by rw [W194.size]; exact Z191
  have K202 := K192.wr W194 (Or.inr q154)
  refine Go.via st194 ?_
  refine s_dup X194 hx (hb hby d6_32) rfl 33 rfl ?_
  refine s_iconst X194 hx (hb hby d6_33) (4 : Int32) rfl 34 rfl ?_
  refine s_aloadN X194 hx (hb hby d6_34) rfl rfl 35 rfl ?_
  obtain ⟨T203, X203, e203, st203⟩ := getF X194 hx hZ hown (host := "") (Or.inl (wd hw 34 _ rfl)) Via.refl e194 F199 (g := (mkF m 35 #[.val (.ref a1)] [.ref a1, .int (4 : Int32), .ref a151, .ref a151])) rfl rfl (hb hby d6_35)
  refine Go.via st203 ?_
  show Go p e below _ (T203.setTop (mkF m 38 #[.val (.ref a1)] [.double x4, .int (4 : Int32), .ref a151, .ref a151]))
  obtain ⟨T204, h204, X204, e204, W204, A204, st204⟩ := s_dastore X203 hx hZ e203 A194 (hb hby d6_38) #[.val (.ref a1)] [.ref a151] (j := (4 : Int32)) 4 (by decide) (by show 4 < 6; decide) x4 [.double x0, .double x1, .double x2, .double x3, .double x4, .double (0 : UInt64)] rfl 39 rfl
  have N204 := Fr.snoc X204 N194 q153
  have F205 := F195.other W204 (Or.inl ne152)
  have F206 := F196.other W204 (Or.inl ne152)
  have F207 := F197.other W204 (Or.inl ne152)
  have F208 := F198.other W204 (Or.inl ne152)
  have F209 := F199.other W204 (Or.inl ne152)
  have F210 := F200.other W204 (Or.inl ne152)
  have Z211 : n0 ≤ h204.size := by rw [W204.size]; exact Z201
  have K212 := K202.wr W204 (Or.inr q154)
  refine Go.via st204 ?_
  refine s_dup X204 hx (hb hby d6_39) rfl 40 rfl ?_
  refine s_iconst X204 hx (hb hby d6_40) (5 : Int32) rfl 41 rfl ?_
  refine s_aloadN X204 hx (hb hby d6_41) rfl rfl 42 rfl ?_
  obtain ⟨T213, X213, e213, st213⟩ := getF X204 hx hZ hown (host := "") (Or.inl (wd hw 36 _ rfl)) Via.refl e204 F210 (g := (mkF m 42 #[.val (.ref a1)] [.ref a1, .int (5 : Int32), .ref a151, .ref a151])) rfl rfl (hb hby d6_42)
  refine Go.via st213 ?_
  show Go p e below _ (T213.setTop (mkF m 45 #[.val (.ref a1)] [.double x5, .int (5 : Int32), .ref a151, .ref a151]))
  obtain ⟨T214, h214, X214, e214, W214, A214, st214⟩ := s_dastore X213 hx hZ e213 A204 (hb hby d6_45) #[.val (.ref a1)] [.ref a151] (j := (5 : Int32)) 5 (by decide) (by show 5 < 6; decide) x5 [.double x0, .double x1, .double x2, .double x3, .double x4, .double x5] rfl 46 rfl
  have N214 := Fr.snoc X214 N204 q153
  have F215 := F205.other W214 (Or.inl ne152)
  have F216 := F206.other W214 (Or.inl ne152)
  have F217 := F207.other W214 (Or.inl ne152)
  have F218 := F208.other W214 (Or.inl ne152)
  have F219 := F209.other W214 (Or.inl ne152)
  have F220 := F210.other W214 (Or.inl ne152)
  have Z221 : n0 ≤ h214.size := by rw [W214.size]; exact Z211
  have K222 := K212.wr W214 (Or.inr q154)
  refine Go.via st214 ?_
  exact retA X214 hx hlk hret (by decide) rfl (hb hby d6_46) e214 ⟨_, _, rfl, N214, K222, q154, A214⟩ (by decide) (by decide)
theorem d7_0 : decode method_3_code 0 = .ok (.dload_n 0, 1) := by decide +kernel
theorem d7_1 : decode method_3_code 1 = .ok (.dload_n 2, 1) := by decide +kernel
theorem d7_2 : decode method_3_code 2 = .ok (.dcmp .l, 1) := by decide +kernel
theorem d7_3 : decode method_3_code 3 = .ok (.ifCond .eq 5, 3) := by decide +kernel
theorem d7_6 : decode method_3_code 6 = .ok (.iconst 0, 1) := by decide +kernel
theorem d7_7 : decode method_3_code 7 = .ok (.ireturn, 1) := by decide +kernel
theorem d7_8 : decode method_3_code 8 = .ok (.dload_n 0, 1) := by decide +kernel
theorem d7_9 : decode method_3_code 9 = .ok (.dconst 0, 1) := by decide +kernel
theorem d7_10 : decode method_3_code 10 = .ok (.dcmp .l, 1) := by decide +kernel
theorem d7_11 : decode method_3_code 11 = .ok (.ifCond .eq 5, 3) := by decide +kernel
theorem d7_14 : decode method_3_code 14 = .ok (.iconst 1, 1) := by decide +kernel
theorem d7_15 : decode method_3_code 15 = .ok (.ireturn, 1) := by decide +kernel
theorem d7_16 : decode method_3_code 16 = .ok (.dconst 1, 1) := by decide +kernel
theorem d7_17 : decode method_3_code 17 = .ok (.dload_n 0, 1) := by decide +kernel
theorem d7_18 : decode method_3_code 18 = .ok (.ddiv, 1) := by decide +kernel
theorem d7_19 : decode method_3_code 19 = .ok (.dconst 0, 1) := by decide +kernel
theorem d7_20 : decode method_3_code 20 = .ok (.dcmp .l, 1) := by decide +kernel
theorem d7_21 : decode method_3_code 21 = .ok (.ifCond .le 7, 3) := by decide +kernel
theorem d7_24 : decode method_3_code 24 = .ok (.iconst 1, 1) := by decide +kernel
theorem d7_25 : decode method_3_code 25 = .ok (.goto 4, 3) := by decide +kernel
theorem d7_28 : decode method_3_code 28 = .ok (.iconst 0, 1) := by decide +kernel
theorem d7_29 : decode method_3_code 29 = .ok (.ireturn, 1) := by decide +kernel
theorem pd_7 : parseMethodDescriptor "(DD)Z" = some ⟨[.double, .double], some .boolean⟩ := by decide +kernel
theorem pn_7 : plainFor (⟨"com/example/lamina3/lamina3/AffineMapCoefficientsPinLaw", "ok", "(DD)Z"⟩ : MethodName) = true := plainFor_of_name (by show plainName "com/example/lamina3/lamina3/AffineMapCoefficientsPinLaw" = true; first | (simp [plainName, overriddenIn]; done) | decide +kernel)
set_option maxRecDepth 65536 in
set_option maxHeartbeats 40000000 in
theorem rm_ok (l : Launch) (Z : State) (a0 : Array Value) (hw : ∀ d ∈ tables_1, d.before a0 Z = true) (ws : List Jvm.Cond) (u v : UInt64) (h0 : Heap) (n0 : Nat) (Z0 : n0 ≤ h0.size) (heq : FP.dcmp u v = some .eq) (hz : FP.dcmp u 0 ≠ some .eq ∨ u = 0) :
    Ct l Z (⟨"com/example/lamina3/lamina3/AffineMapCoefficientsPinLaw", "ok", "(DD)Z"⟩ : MethodName) method_3_code 4 (some .boolean) ws ({ frames := 0, cells := 0, slots := 0, locals := 0 } : Room) #[.double u, .double v] h0 (fun r h L => r = some (.int 1) ∧ Fr n0 L ∧ h = h0) := by
  refine Ct.intro pn_7 #[.val (.double u), .second, .val (.double v), .second] (fun _ => by first | (simp [entryFrame, mkF, argsToLocals, Value.category, maxLocals]; done) | rfl) ?_
  intro p e s m below meth c T0 X0 hx hZ hby hml hown hnm hret hlk e0
  have N0 := Fr.nil n0
  refine s_dloadN X0 hx (hb hby d7_0) rfl 1 rfl ?_
  refine s_dloadN X0 hx (hb hby d7_1) rfl 2 rfl ?_
  refine s_dcmp X0 hx (hb hby d7_2) (0 : Int32) (by rw [show FP.dcmp u v = some .eq from heq]; rfl) 3 rfl ?_
  refine s_ifY X0 hx (hb hby d7_3) (by decide) 8 (by decide) (by decide) ?_
  refine s_dloadN X0 hx (hb hby d7_8) rfl 9 rfl ?_
  refine s_dconst0 X0 hx (hb hby d7_9) (0 : UInt64) rfl 10 rfl ?_
  refine s_dcmp X0 hx (hb hby d7_10) (cmpValue (FP.dcmp u (0 : UInt64)) .l) rfl 11 rfl ?_
  rcases hz with hz | hz
  · skip
    refine s_ifN X0 hx (hb hby d7_11) (dd_eq_f hz) 14 rfl ?_
    refine s_iconst X0 hx (hb hby d7_14) (1 : Int32) rfl 15 rfl ?_
    exact retZ X0 hx hlk hret (hb hby d7_15) (by decide) e0 ⟨rfl, N0, rfl⟩ (by decide) (by decide)
  · skip
    subst hz
    refine s_ifY X0 hx (hb hby d7_11) (dd_eq_t (by decide +kernel)) 16 (by decide) (by decide) ?_
    refine s_dconst1 X0 hx (hb hby d7_16) (4607182418800017408 : UInt64) rfl 17 rfl ?_
    refine s_dloadN X0 hx (hb hby d7_17) rfl 18 rfl ?_
    refine s_ddiv X0 hx (hb hby d7_18) (FP.ddiv (4607182418800017408 : UInt64) (0 : UInt64)) rfl (by unfold Jvm.Free.Fl.NoNaN64; decide +kernel) 19 rfl ?_
    refine s_dconst0 X0 hx (hb hby d7_19) (0 : UInt64) rfl 20 rfl ?_
    refine s_dcmp X0 hx (hb hby d7_20) (cmpValue (FP.dcmp (FP.ddiv (4607182418800017408 : UInt64) (0 : UInt64)) (0 : UInt64)) .l) rfl 21 rfl ?_
    refine s_ifN X0 hx (hb hby d7_21) (dd_le_f (by decide +kernel)) 24 rfl ?_
    refine s_iconst X0 hx (hb hby d7_24) (1 : Int32) rfl 25 rfl ?_
    refine s_goto X0 hx (hb hby d7_25) 29 (by decide) (by decide) ?_
    exact retZ X0 hx hlk hret (hb hby d7_29) (by decide) e0 ⟨rfl, N0, rfl⟩ (by decide) (by decide)
theorem dc_4607182418800017408 : Jvm.OwnFP.Db 1 (1) 0 (4607182418800017408 : UInt64) := Jvm.OwnFP.Db.lit false 4503599627370496 (-52) 1 (1) 0 (by decide +kernel) (by decide +kernel)
set_option maxRecDepth 65536 in
set_option maxHeartbeats 40000000 in
theorem rm_law (l : Launch) (Z : State) (a0 : Array Value) (hw : ∀ d ∈ tables_1, d.before a0 Z = true) (ws : List Jvm.Cond) (i0 i1 i2 i3 i4 i5 : Int32) (h0 : Heap) (n0 : Nat) (Z0 : n0 ≤ h0.size)  :
    Ct l Z x code maxLocals ret ws room_1 #[.int i0, .int i1, .int i2, .int i3, .int i4, .int i5] h0 (fun v h L => v = some (.int 1) ∧ Fr n0 L) := by
  refine Ct.intro pn_law #[.val (.int i0), .val (.int i1), .val (.int i2), .val (.int i3), .val (.int i4), .val (.int i5), .unset, .unset, .unset, .unset, .unset, .unset, .unset, .unset, .unset, .unset, .unset, .unset, .unset, .unset, .unset, .unset] (fun _ => by first | (simp [entryFrame, mkF, argsToLocals, Value.category, maxLocals]; done) | rfl) ?_
  intro p e s m below meth c T0 X0 hx hZ hby hml hown hnm hret hlk e0
  have N0 := Fr.nil n0
  refine s_iloadN X0 hx (hb hby at_0) rfl 1 rfl ?_
  obtain ⟨v223, T223, L223, X223, hQ223, st223⟩ := callStat X0 hx hZ hown (wd hw 0 _ rfl) (wd hw 1 _ rfl) (wd hw 2 _ rfl) (wd hw 3 _ rfl) (by decide) (rm_val l Z a0 hw [] i0 h0 n0 Z0) e0 (L := #[.val (.int i0), .val (.int i1), .val (.int i2), .val (.int i3), .val (.int i4), .val (.int i5), .unset, .unset, .unset, .unset, .unset, .unset, .unset, .unset, .unset, .unset, .unset, .unset, .unset, .unset, .unset, .unset]) (hb hby at_1) (by rw [hml]; rfl) [.int i0] [] rfl rfl pd_0 rfl 0 (by show 2 * 0 + _ ≤ _; exact Nat.le_of_eq rfl) (by decide) (by decide) (by decide) (by decide)
  obtain ⟨r223, j223, rfl, N223, hh223, H223⟩ := hQ223
  have M223 := Fr.app N0 N223
  refine Go.via st223 ?_
  show Go p e below _ (T223.setTop (mkF m 4 #[.val (.int i0), .val (.int i1), .val (.int i2), .val (.int i3), .val (.int i4), .val (.int i5), .unset, .unset, .unset, .unset, .unset, .unset, .unset, .unset, .unset, .unset, .unset, .unset, .unset, .unset, .unset, .unset] [.double r223]))
  refine s_dstore X223 hx (hb hby at_4) #[.val (.int i0), .val (.int i1), .val (.int i2), .val (.int i3), .val (.int i4), .val (.int i5), .val (.double r223), .second, .unset, .unset, .unset, .unset, .unset, .unset, .unset, .unset, .unset, .unset, .unset, .unset, .unset, .unset] rfl 6 rfl ?_
  refine s_iloadN X223 hx (hb hby at_6) rfl 7 rfl ?_
  obtain ⟨v224, T224, L224, X224, hQ224, st224⟩ := callStat X223 hx hZ hown (wd hw 0 _ rfl) (wd hw 1 _ rfl) (wd hw 2 _ rfl) (wd hw 3 _ rfl) (by decide) (rm_val l Z a0 hw [] i1 h0 n0 Z0) hh223 (L := #[.val (.int i0), .val (.int i1), .val (.int i2), .val (.int i3), .val (.int i4), .val (.int i5), .val (.double r223), .second, .unset, .unset, .unset, .unset, .unset, .unset, .unset, .unset, .unset, .unset, .unset, .unset, .unset, .unset]) (hb hby at_7) (by rw [hml]; rfl) [.int i1] [] rfl rfl pd_0 rfl 0 (by show 2 * 0 + _ ≤ _; exact Nat.le_of_eq rfl) (by decide) (by decide) (by decide) (by decide)
  obtain ⟨r224, j224, rfl, N224, hh224, H224⟩ := hQ224
  have M224 := Fr.app M223 N224
  refine Go.via st224 ?_
  show Go p e below _ (T224.setTop (mkF m 10 #[.val (.int i0), .val (.int i1), .val (.int i2), .val (.int i3), .val (.int i4), .val (.int i5), .val (.double r223), .second, .unset, .unset, .unset, .unset, .unset, .unset, .unset, .unset, .unset, .unset, .unset, .unset, .unset, .unset] [.double r224]))
  refine s_dstore X224 hx (hb hby at_10) #[.val (.int i0), .val (.int i1), .val (.int i2), .val (.int i3), .val (.int i4), .val (.int i5), .val (.double r223), .second, .val (.double r224), .second, .unset, .unset, .unset, .unset, .unset, .unset, .unset, .unset, .unset, .unset, .unset, .unset] rfl 12 rfl ?_
  refine s_iloadN X224 hx (hb hby at_12) rfl 13 rfl ?_
  obtain ⟨v225, T225, L225, X225, hQ225, st225⟩ := callStat X224 hx hZ hown (wd hw 0 _ rfl) (wd hw 1 _ rfl) (wd hw 2 _ rfl) (wd hw 3 _ rfl) (by decide) (rm_val l Z a0 hw [] i2 h0 n0 Z0) hh224 (L := #[.val (.int i0), .val (.int i1), .val (.int i2), .val (.int i3), .val (.int i4), .val (.int i5), .val (.double r223), .second, .val (.double r224), .second, .unset, .unset, .unset, .unset, .unset, .unset, .unset, .unset, .unset, .unset, .unset, .unset]) (hb hby at_13) (by rw [hml]; rfl) [.int i2] [] rfl rfl pd_0 rfl 0 (by show 2 * 0 + _ ≤ _; exact Nat.le_of_eq rfl) (by decide) (by decide) (by decide) (by decide)
  obtain ⟨r225, j225, rfl, N225, hh225, H225⟩ := hQ225
  have M225 := Fr.app M224 N225
  refine Go.via st225 ?_
  show Go p e below _ (T225.setTop (mkF m 16 #[.val (.int i0), .val (.int i1), .val (.int i2), .val (.int i3), .val (.int i4), .val (.int i5), .val (.double r223), .second, .val (.double r224), .second, .unset, .unset, .unset, .unset, .unset, .unset, .unset, .unset, .unset, .unset, .unset, .unset] [.double r225]))
  refine s_dstore X225 hx (hb hby at_16) #[.val (.int i0), .val (.int i1), .val (.int i2), .val (.int i3), .val (.int i4), .val (.int i5), .val (.double r223), .second, .val (.double r224), .second, .val (.double r225), .second, .unset, .unset, .unset, .unset, .unset, .unset, .unset, .unset, .unset, .unset] rfl 18 rfl ?_
  refine s_iloadN X225 hx (hb hby at_18) rfl 19 rfl ?_
  obtain ⟨v226, T226, L226, X226, hQ226, st226⟩ := callStat X225 hx hZ hown (wd hw 0 _ rfl) (wd hw 1 _ rfl) (wd hw 2 _ rfl) (wd hw 3 _ rfl) (by decide) (rm_val l Z a0 hw [] i3 h0 n0 Z0) hh225 (L := #[.val (.int i0), .val (.int i1), .val (.int i2), .val (.int i3), .val (.int i4), .val (.int i5), .val (.double r223), .second, .val (.double r224), .second, .val (.double r225), .second, .unset, .unset, .unset, .unset, .unset, .unset, .unset, .unset, .unset, .unset]) (hb hby at_19) (by rw [hml]; rfl) [.int i3] [] rfl rfl pd_0 rfl 0 (by show 2 * 0 + _ ≤ _; exact Nat.le_of_eq rfl) (by decide) (by decide) (by decide) (by decide)
  obtain ⟨r226, j226, rfl, N226, hh226, H226⟩ := hQ226
  have M226 := Fr.app M225 N226
  refine Go.via st226 ?_
  show Go p e below _ (T226.setTop (mkF m 22 #[.val (.int i0), .val (.int i1), .val (.int i2), .val (.int i3), .val (.int i4), .val (.int i5), .val (.double r223), .second, .val (.double r224), .second, .val (.double r225), .second, .unset, .unset, .unset, .unset, .unset, .unset, .unset, .unset, .unset, .unset] [.double r226]))
  refine s_dstore X226 hx (hb hby at_22) #[.val (.int i0), .val (.int i1), .val (.int i2), .val (.int i3), .val (.int i4), .val (.int i5), .val (.double r223), .second, .val (.double r224), .second, .val (.double r225), .second, .val (.double r226), .second, .unset, .unset, .unset, .unset, .unset, .unset, .unset, .unset] rfl 24 rfl ?_
  refine s_iload X226 hx (hb hby at_24) rfl 26 rfl ?_
  obtain ⟨v227, T227, L227, X227, hQ227, st227⟩ := callStat X226 hx hZ hown (wd hw 0 _ rfl) (wd hw 1 _ rfl) (wd hw 2 _ rfl) (wd hw 3 _ rfl) (by decide) (rm_val l Z a0 hw [] i4 h0 n0 Z0) hh226 (L := #[.val (.int i0), .val (.int i1), .val (.int i2), .val (.int i3), .val (.int i4), .val (.int i5), .val (.double r223), .second, .val (.double r224), .second, .val (.double r225), .second, .val (.double r226), .second, .unset, .unset, .unset, .unset, .unset, .unset, .unset, .unset]) (hb hby at_26) (by rw [hml]; rfl) [.int i4] [] rfl rfl pd_0 rfl 0 (by show 2 * 0 + _ ≤ _; exact Nat.le_of_eq rfl) (by decide) (by decide) (by decide) (by decide)
  obtain ⟨r227, j227, rfl, N227, hh227, H227⟩ := hQ227
  have M227 := Fr.app M226 N227
  refine Go.via st227 ?_
  show Go p e below _ (T227.setTop (mkF m 29 #[.val (.int i0), .val (.int i1), .val (.int i2), .val (.int i3), .val (.int i4), .val (.int i5), .val (.double r223), .second, .val (.double r224), .second, .val (.double r225), .second, .val (.double r226), .second, .unset, .unset, .unset, .unset, .unset, .unset, .unset, .unset] [.double r227]))
  refine s_dstore X227 hx (hb hby at_29) #[.val (.int i0), .val (.int i1), .val (.int i2), .val (.int i3), .val (.int i4), .val (.int i5), .val (.double r223), .second, .val (.double r224), .second, .val (.double r225), .second, .val (.double r226), .second, .val (.double r227), .second, .unset, .unset, .unset, .unset, .unset, .unset] rfl 31 rfl ?_
  refine s_iload X227 hx (hb hby at_31) rfl 33 rfl ?_
  obtain ⟨v228, T228, L228, X228, hQ228, st228⟩ := callStat X227 hx hZ hown (wd hw 0 _ rfl) (wd hw 1 _ rfl) (wd hw 2 _ rfl) (wd hw 3 _ rfl) (by decide) (rm_val l Z a0 hw [] i5 h0 n0 Z0) hh227 (L := #[.val (.int i0), .val (.int i1), .val (.int i2), .val (.int i3), .val (.int i4), .val (.int i5), .val (.double r223), .second, .val (.double r224), .second, .val (.double r225), .second, .val (.double r226), .second, .val (.double r227), .second, .unset, .unset, .unset, .unset, .unset, .unset]) (hb hby at_33) (by rw [hml]; rfl) [.int i5] [] rfl rfl pd_0 rfl 0 (by show 2 * 0 + _ ≤ _; exact Nat.le_of_eq rfl) (by decide) (by decide) (by decide) (by decide)
  obtain ⟨r228, j228, rfl, N228, hh228, H228⟩ := hQ228
  have M228 := Fr.app M227 N228
  refine Go.via st228 ?_
  show Go p e below _ (T228.setTop (mkF m 36 #[.val (.int i0), .val (.int i1), .val (.int i2), .val (.int i3), .val (.int i4), .val (.int i5), .val (.double r223), .second, .val (.double r224), .second, .val (.double r225), .second, .val (.double r226), .second, .val (.double r227), .second, .unset, .unset, .unset, .unset, .unset, .unset] [.double r228]))
  refine s_dstore X228 hx (hb hby at_36) #[.val (.int i0), .val (.int i1), .val (.int i2), .val (.int i3), .val (.int i4), .val (.int i5), .val (.double r223), .second, .val (.double r224), .second, .val (.double r225), .second, .val (.double r226), .second, .val (.double r227), .second, .val (.double r228), .second, .unset, .unset, .unset, .unset] rfl 38 rfl ?_
  obtain ⟨T229, h229, X229, e229, E229, A229, D229, -, st229⟩ := newO X228 hx hZ hown (wd hw 4 _ rfl) (wd hw 5 _ rfl) (wd hw 6 _ rfl) hh228 (g := (mkF m 38 #[.val (.int i0), .val (.int i1), .val (.int i2), .val (.int i3), .val (.int i4), .val (.int i5), .val (.double r223), .second, .val (.double r224), .second, .val (.double r225), .second, .val (.double r226), .second, .val (.double r227), .second, .val (.double r228), .second, .unset, .unset, .unset, .unset] [])) rfl (hb hby at_38) (by decide) (by decide)
  obtain ⟨a229, g229⟩ : ∃ z, z = h0.size := ⟨_, rfl⟩
  rw [← g229] at A229 D229 st229
  have q230 : n0 ≤ a229 := by rw [g229]; exact Z0
  have Z231 := Nat.le_trans Z0 E229.1
  have F232 : Fld Z h229 a229 "com/example/lamina3/lamina3/AffineMap" "a" "D" (.double (0 : UInt64)) := D229 (Or.inr (wd hw 27 _ rfl)) (ty := .double) (by decide)
  have F233 : Fld Z h229 a229 "com/example/lamina3/lamina3/AffineMap" "b" "D" (.double (0 : UInt64)) := D229 (Or.inr (wd hw 29 _ rfl)) (ty := .double) (by decide)
  have F234 : Fld Z h229 a229 "com/example/lamina3/lamina3/AffineMap" "c" "D" (.double (0 : UInt64)) := D229 (Or.inr (wd hw 31 _ rfl)) (ty := .double) (by decide)
  have F235 : Fld Z h229 a229 "com/example/lamina3/lamina3/AffineMap" "d" "D" (.double (0 : UInt64)) := D229 (Or.inr (wd hw 33 _ rfl)) (ty := .double) (by decide)
  have F236 : Fld Z h229 a229 "com/example/lamina3/lamina3/AffineMap" "e" "D" (.double (0 : UInt64)) := D229 (Or.inr (wd hw 35 _ rfl)) (ty := .double) (by decide)
  have F237 : Fld Z h229 a229 "com/example/lamina3/lamina3/AffineMap" "f" "D" (.double (0 : UInt64)) := D229 (Or.inr (wd hw 37 _ rfl)) (ty := .double) (by decide)
  refine Go.via st229 ?_
  show Go p e below _ (T229.setTop (mkF m 41 #[.val (.int i0), .val (.int i1), .val (.int i2), .val (.int i3), .val (.int i4), .val (.int i5), .val (.double r223), .second, .val (.double r224), .second, .val (.double r225), .second, .val (.double r226), .second, .val (.double r227), .second, .val (.double r228), .second, .unset, .unset, .unset, .unset] [.ref a229]))
  refine s_dup X229 hx (hb hby at_41) rfl 42 rfl ?_
  refine s_dload X229 hx (hb hby at_42) rfl 44 rfl ?_
  refine s_dload X229 hx (hb hby at_44) rfl 46 rfl ?_
  refine s_dload X229 hx (hb hby at_46) rfl 48 rfl ?_
  refine s_dload X229 hx (hb hby at_48) rfl 50 rfl ?_
  refine s_dload X229 hx (hb hby at_50) rfl 52 rfl ?_
  refine s_dload X229 hx (hb hby at_52) rfl 54 rfl ?_
  obtain ⟨v238, T238, L238, X238, hQ238, st238⟩ := callInit X229 hx hZ hown rfl (wd hw 7 _ rfl) (wd hw 8 _ rfl) (wd hw 6 _ rfl) (wd hw 9 _ rfl) (by decide) (rm_init l Z a0 hw [] a229 r223 r224 r225 r226 r227 r228 h229 n0 Z231 A229 q230 F232 F233 F234 F235 F236 F237 H223.1.fin64 H224.1.fin64 H225.1.fin64 H226.1.fin64 H227.1.fin64 H228.1.fin64 (Db.add H223 Db.zero (by decide)).nn (Db.add H224 Db.zero (by decide)).nn (Db.add H225 Db.zero (by decide)).nn (Db.add H226 Db.zero (by decide)).nn (Db.add H227 Db.zero (by decide)).nn (Db.add H228 Db.zero (by decide)).nn) e229 (L := #[.val (.int i0), .val (.int i1), .val (.int i2), .val (.int i3), .val (.int i4), .val (.int i5), .val (.double r223), .second, .val (.double r224), .second, .val (.double r225), .second, .val (.double r226), .second, .val (.double r227), .second, .val (.double r228), .second, .unset, .unset, .unset, .unset]) (hb hby at_54) (by rw [hml]; rfl) a229 [.double r223, .double r224, .double r225, .double r226, .double r227, .double r228] [.ref a229] rfl rfl pd_1 rfl 1 (by show 2 * 0 + _ ≤ _; exact Nat.le_of_eq rfl) (by decide) (by decide) (by decide) (by decide)
  obtain ⟨rfl, N238, K238, G238_0, G238_1, G238_2, G238_3, G238_4, G238_5⟩ := hQ238
  have M238 := Fr.app M228 N238
  have Dd239 := Db.add H223 Db.zero (by decide)
  have Od239 := own_add0 H223 (by decide)
  obtain ⟨d239, h_d239⟩ : ∃ v, FP.dadd r223 (0 : UInt64) = v := ⟨_, rfl⟩
  rw [h_d239] at Dd239 Od239 G238_0
  have Dd240 := Db.add H224 Db.zero (by decide)
  have Od240 := own_add0 H224 (by decide)
  obtain ⟨d240, h_d240⟩ : ∃ v, FP.dadd r224 (0 : UInt64) = v := ⟨_, rfl⟩
  rw [h_d240] at Dd240 Od240 G238_1
  have Dd241 := Db.add H225 Db.zero (by decide)
  have Od241 := own_add0 H225 (by decide)
  obtain ⟨d241, h_d241⟩ : ∃ v, FP.dadd r225 (0 : UInt64) = v := ⟨_, rfl⟩
  rw [h_d241] at Dd241 Od241 G238_2
  have Dd242 := Db.add H226 Db.zero (by decide)
  have Od242 := own_add0 H226 (by decide)
  obtain ⟨d242, h_d242⟩ : ∃ v, FP.dadd r226 (0 : UInt64) = v := ⟨_, rfl⟩
  rw [h_d242] at Dd242 Od242 G238_3
  have Dd243 := Db.add H227 Db.zero (by decide)
  have Od243 := own_add0 H227 (by decide)
  obtain ⟨d243, h_d243⟩ : ∃ v, FP.dadd r227 (0 : UInt64) = v := ⟨_, rfl⟩
  rw [h_d243] at Dd243 Od243 G238_4
  have Dd244 := Db.add H228 Db.zero (by decide)
  have Od244 := own_add0 H228 (by decide)
  obtain ⟨d244, h_d244⟩ : ∃ v, FP.dadd r228 (0 : UInt64) = v := ⟨_, rfl⟩
  rw [h_d244] at Dd244 Od244 G238_5
  have F245 := A229.keep K238
  have Z246 := Nat.le_trans Z231 K238.1
  have e238 : T238.heap = T238.heap := rfl
  refine Go.via st238 ?_
  show Go p e below _ (T238.setTop (mkF m 57 #[.val (.int i0), .val (.int i1), .val (.int i2), .val (.int i3), .val (.int i4), .val (.int i5), .val (.double r223), .second, .val (.double r224), .second, .val (.double r225), .second, .val (.double r226), .second, .val (.double r227), .second, .val (.double r228), .second, .unset, .unset, .unset, .unset] [.ref a229]))
  refine s_astore X238 hx (hb hby at_57) rfl #[.val (.int i0), .val (.int i1), .val (.int i2), .val (.int i3), .val (.int i4), .val (.int i5), .val (.double r223), .second, .val (.double r224), .second, .val (.double r225), .second, .val (.double r226), .second, .val (.double r227), .second, .val (.double r228), .second, .val (.ref a229), .unset, .unset, .unset] rfl 59 rfl ?_
  refine s_aload X238 hx (hb hby at_59) rfl rfl 61 rfl ?_
  obtain ⟨v247, T247, L247, X247, hQ247, st247⟩ := callVirt X238 hx hZ hown (wd hw 38 _ rfl) (wd hw 39 _ rfl) (wd hw 41 _ rfl) (wd hw 40 _ rfl) (wd hw 6 _ rfl) (wd hw 42 _ rfl) (by decide) (rm_coef l Z a0 hw [] a229 d239 d240 d241 d242 d243 d244 T238.heap n0 Z246 G238_0 G238_1 G238_2 G238_3 G238_4 G238_5) e238 a229 F245 (L := #[.val (.int i0), .val (.int i1), .val (.int i2), .val (.int i3), .val (.int i4), .val (.int i5), .val (.double r223), .second, .val (.double r224), .second, .val (.double r225), .second, .val (.double r226), .second, .val (.double r227), .second, .val (.double r228), .second, .val (.ref a229), .unset, .unset, .unset]) (hb hby at_61) (by rw [hml]; rfl) [] [] rfl rfl pd_6 rfl 0 (by show 2 * 0 + _ ≤ _; exact Nat.le_of_eq rfl) (by decide) (by decide) (by decide) (by decide)
  obtain ⟨a247, c247, rfl, N247, K247, g247, A247⟩ := hQ247
  have M247 := Fr.app M238 N247
  have ne248 : a229 ≠ a247 := Nat.ne_of_lt (Nat.lt_of_lt_of_le F245.lt g247)
  have q249 : n0 ≤ a247 := Nat.le_trans Z246 g247
  have F250 := F245.keep K247
  have F251 := G238_0.keep K247 nin0
  have F252 := G238_1.keep K247 nin0
  have F253 := G238_2.keep K247 nin0
  have F254 := G238_3.keep K247 nin0
  have F255 := G238_4.keep K247 nin0
  have F256 := G238_5.keep K247 nin0
  have Z257 := Nat.le_trans Z246 K247.1
  have e247 : T247.heap = T247.heap := rfl
  refine Go.via st247 ?_
  show Go p e below _ (T247.setTop (mkF m 64 #[.val (.int i0), .val (.int i1), .val (.int i2), .val (.int i3), .val (.int i4), .val (.int i5), .val (.double r223), .second, .val (.double r224), .second, .val (.double r225), .second, .val (.double r226), .second, .val (.double r227), .second, .val (.double r228), .second, .val (.ref a229), .unset, .unset, .unset] [.ref a247]))
  refine s_astore X247 hx (hb hby at_64) rfl #[.val (.int i0), .val (.int i1), .val (.int i2), .val (.int i3), .val (.int i4), .val (.int i5), .val (.double r223), .second, .val (.double r224), .second, .val (.double r225), .second, .val (.double r226), .second, .val (.double r227), .second, .val (.double r228), .second, .val (.ref a229), .val (.ref a247), .unset, .unset] rfl 66 rfl ?_
  refine s_aload X247 hx (hb hby at_66) rfl rfl 68 rfl ?_
  refine s_len X247 hx hZ e247 A247 (hb hby at_68) (6 : Int32) rfl 69 rfl ?_
  refine s_bipush X247 hx (hb hby at_69) (6 : Int32) rfl 71 rfl ?_
  refine s_icmpY X247 hx (hb hby at_71) (by decide) 76 (by decide) (by decide) ?_
  refine s_aload X247 hx (hb hby at_76) rfl rfl 78 rfl ?_
  refine s_iconst X247 hx (hb hby at_78) (0 : Int32) rfl 79 rfl ?_
  refine s_daload X247 hx hZ e247 A247 (hb hby at_79) (j := (0 : Int32)) 0 (by decide) (.double d239) rfl 80 rfl ?_
  refine s_dload X247 hx (hb hby at_80) rfl 82 rfl ?_
  obtain ⟨v258, T258, L258, X258, hQ258, st258⟩ := callStat X247 hx hZ hown (wd hw 43 _ rfl) (wd hw 44 _ rfl) (wd hw 2 _ rfl) (wd hw 45 _ rfl) (by decide) (rm_ok l Z a0 hw [] d239 r223 T247.heap n0 Z257 Od239.1 Od239.2) e247 (L := #[.val (.int i0), .val (.int i1), .val (.int i2), .val (.int i3), .val (.int i4), .val (.int i5), .val (.double r223), .second, .val (.double r224), .second, .val (.double r225), .second, .val (.double r226), .second, .val (.double r227), .second, .val (.double r228), .second, .val (.ref a229), .val (.ref a247), .unset, .unset]) (hb hby at_82) (by rw [hml]; rfl) [.double d239, .double r223] [] rfl rfl pd_7 rfl 0 (by show 2 * 0 + _ ≤ _; exact Nat.le_of_eq rfl) (by decide) (by decide) (by decide) (by decide)
  obtain ⟨rfl, N258, hh258⟩ := hQ258
  have M258 := Fr.app M247 N258
  refine Go.via st258 ?_
  show Go p e below _ (T258.setTop (mkF m 85 #[.val (.int i0), .val (.int i1), .val (.int i2), .val (.int i3), .val (.int i4), .val (.int i5), .val (.double r223), .second, .val (.double r224), .second, .val (.double r225), .second, .val (.double r226), .second, .val (.double r227), .second, .val (.double r228), .second, .val (.ref a229), .val (.ref a247), .unset, .unset] [.int (1 : Int32)]))
  refine s_ifN X258 hx (hb hby at_85) (by decide) 88 rfl ?_
  refine s_aload X258 hx (hb hby at_88) rfl rfl 90 rfl ?_
  refine s_iconst X258 hx (hb hby at_90) (1 : Int32) rfl 91 rfl ?_
  refine s_daload X258 hx hZ hh258 A247 (hb hby at_91) (j := (1 : Int32)) 1 (by decide) (.double d240) rfl 92 rfl ?_
  refine s_dload X258 hx (hb hby at_92) rfl 94 rfl ?_
  obtain ⟨v259, T259, L259, X259, hQ259, st259⟩ := callStat X258 hx hZ hown (wd hw 43 _ rfl) (wd hw 44 _ rfl) (wd hw 2 _ rfl) (wd hw 45 _ rfl) (by decide) (rm_ok l Z a0 hw [] d240 r224 T247.heap n0 Z257 Od240.1 Od240.2) hh258 (L := #[.val (.int i0), .val (.int i1), .val (.int i2), .val (.int i3), .val (.int i4), .val (.int i5), .val (.double r223), .second, .val (.double r224), .second, .val (.double r225), .second, .val (.double r226), .second, .val (.double r227), .second, .val (.double r228), .second, .val (.ref a229), .val (.ref a247), .unset, .unset]) (hb hby at_94) (by rw [hml]; rfl) [.double d240, .double r224] [] rfl rfl pd_7 rfl 0 (by show 2 * 0 + _ ≤ _; exact Nat.le_of_eq rfl) (by decide) (by decide) (by decide) (by decide)
  obtain ⟨rfl, N259, hh259⟩ := hQ259
  have M259 := Fr.app M258 N259
  refine Go.via st259 ?_
  show Go p e below _ (T259.setTop (mkF m 97 #[.val (.int i0), .val (.int i1), .val (.int i2), .val (.int i3), .val (.int i4), .val (.int i5), .val (.double r223), .second, .val (.double r224), .second, .val (.double r225), .second, .val (.double r226), .second, .val (.double r227), .second, .val (.double r228), .second, .val (.ref a229), .val (.ref a247), .unset, .unset] [.int (1 : Int32)]))
  refine s_ifN X259 hx (hb hby at_97) (by decide) 100 rfl ?_
  refine s_aload X259 hx (hb hby at_100) rfl rfl 102 rfl ?_
  refine s_iconst X259 hx (hb hby at_102) (2 : Int32) rfl 103 rfl ?_
  refine s_daload X259 hx hZ hh259 A247 (hb hby at_103) (j := (2 : Int32)) 2 (by decide) (.double d241) rfl 104 rfl ?_
  refine s_dload X259 hx (hb hby at_104) rfl 106 rfl ?_
  obtain ⟨v260, T260, L260, X260, hQ260, st260⟩ := callStat X259 hx hZ hown (wd hw 43 _ rfl) (wd hw 44 _ rfl) (wd hw 2 _ rfl) (wd hw 45 _ rfl) (by decide) (rm_ok l Z a0 hw [] d241 r225 T247.heap n0 Z257 Od241.1 Od241.2) hh259 (L := #[.val (.int i0), .val (.int i1), .val (.int i2), .val (.int i3), .val (.int i4), .val (.int i5), .val (.double r223), .second, .val (.double r224), .second, .val (.double r225), .second, .val (.double r226), .second, .val (.double r227), .second, .val (.double r228), .second, .val (.ref a229), .val (.ref a247), .unset, .unset]) (hb hby at_106) (by rw [hml]; rfl) [.double d241, .double r225] [] rfl rfl pd_7 rfl 0 (by show 2 * 0 + _ ≤ _; exact Nat.le_of_eq rfl) (by decide) (by decide) (by decide) (by decide)
  obtain ⟨rfl, N260, hh260⟩ := hQ260
  have M260 := Fr.app M259 N260
  refine Go.via st260 ?_
  show Go p e below _ (T260.setTop (mkF m 109 #[.val (.int i0), .val (.int i1), .val (.int i2), .val (.int i3), .val (.int i4), .val (.int i5), .val (.double r223), .second, .val (.double r224), .second, .val (.double r225), .second, .val (.double r226), .second, .val (.double r227), .second, .val (.double r228), .second, .val (.ref a229), .val (.ref a247), .unset, .unset] [.int (1 : Int32)]))
  refine s_ifN X260 hx (hb hby at_109) (by decide) 112 rfl ?_
  refine s_aload X260 hx (hb hby at_112) rfl rfl 114 rfl ?_
  refine s_iconst X260 hx (hb hby at_114) (3 : Int32) rfl 115 rfl ?_
  refine s_daload X260 hx hZ hh260 A247 (hb hby at_115) (j := (3 : Int32)) 3 (by decide) (.double d242) rfl 116 rfl ?_
  refine s_dload X260 hx (hb hby at_116) rfl 118 rfl ?_
  obtain ⟨v261, T261, L261, X261, hQ261, st261⟩ := callStat X260 hx hZ hown (wd hw 43 _ rfl) (wd hw 44 _ rfl) (wd hw 2 _ rfl) (wd hw 45 _ rfl) (by decide) (rm_ok l Z a0 hw [] d242 r226 T247.heap n0 Z257 Od242.1 Od242.2) hh260 (L := #[.val (.int i0), .val (.int i1), .val (.int i2), .val (.int i3), .val (.int i4), .val (.int i5), .val (.double r223), .second, .val (.double r224), .second, .val (.double r225), .second, .val (.double r226), .second, .val (.double r227), .second, .val (.double r228), .second, .val (.ref a229), .val (.ref a247), .unset, .unset]) (hb hby at_118) (by rw [hml]; rfl) [.double d242, .double r226] [] rfl rfl pd_7 rfl 0 (by show 2 * 0 + _ ≤ _; exact Nat.le_of_eq rfl) (by decide) (by decide) (by decide) (by decide)
  obtain ⟨rfl, N261, hh261⟩ := hQ261
  have M261 := Fr.app M260 N261
  refine Go.via st261 ?_
  show Go p e below _ (T261.setTop (mkF m 121 #[.val (.int i0), .val (.int i1), .val (.int i2), .val (.int i3), .val (.int i4), .val (.int i5), .val (.double r223), .second, .val (.double r224), .second, .val (.double r225), .second, .val (.double r226), .second, .val (.double r227), .second, .val (.double r228), .second, .val (.ref a229), .val (.ref a247), .unset, .unset] [.int (1 : Int32)]))
  refine s_ifN X261 hx (hb hby at_121) (by decide) 124 rfl ?_
  refine s_aload X261 hx (hb hby at_124) rfl rfl 126 rfl ?_
  refine s_iconst X261 hx (hb hby at_126) (4 : Int32) rfl 127 rfl ?_
  refine s_daload X261 hx hZ hh261 A247 (hb hby at_127) (j := (4 : Int32)) 4 (by decide) (.double d243) rfl 128 rfl ?_
  refine s_dload X261 hx (hb hby at_128) rfl 130 rfl ?_
  obtain ⟨v262, T262, L262, X262, hQ262, st262⟩ := callStat X261 hx hZ hown (wd hw 43 _ rfl) (wd hw 44 _ rfl) (wd hw 2 _ rfl) (wd hw 45 _ rfl) (by decide) (rm_ok l Z a0 hw [] d243 r227 T247.heap n0 Z257 Od243.1 Od243.2) hh261 (L := #[.val (.int i0), .val (.int i1), .val (.int i2), .val (.int i3), .val (.int i4), .val (.int i5), .val (.double r223), .second, .val (.double r224), .second, .val (.double r225), .second, .val (.double r226), .second, .val (.double r227), .second, .val (.double r228), .second, .val (.ref a229), .val (.ref a247), .unset, .unset]) (hb hby at_130) (by rw [hml]; rfl) [.double d243, .double r227] [] rfl rfl pd_7 rfl 0 (by show 2 * 0 + _ ≤ _; exact Nat.le_of_eq rfl) (by decide) (by decide) (by decide) (by decide)
  obtain ⟨rfl, N262, hh262⟩ := hQ262
  have M262 := Fr.app M261 N262
  refine Go.via st262 ?_
  show Go p e below _ (T262.setTop (mkF m 133 #[.val (.int i0), .val (.int i1), .val (.int i2), .val (.int i3), .val (.int i4), .val (.int i5), .val (.double r223), .second, .val (.double r224), .second, .val (.double r225), .second, .val (.double r226), .second, .val (.double r227), .second, .val (.double r228), .second, .val (.ref a229), .val (.ref a247), .unset, .unset] [.int (1 : Int32)]))
  refine s_ifN X262 hx (hb hby at_133) (by decide) 136 rfl ?_
  refine s_aload X262 hx (hb hby at_136) rfl rfl 138 rfl ?_
  refine s_iconst X262 hx (hb hby at_138) (5 : Int32) rfl 139 rfl ?_
  refine s_daload X262 hx hZ hh262 A247 (hb hby at_139) (j := (5 : Int32)) 5 (by decide) (.double d244) rfl 140 rfl ?_
  refine s_dload X262 hx (hb hby at_140) rfl 142 rfl ?_
  obtain ⟨v263, T263, L263, X263, hQ263, st263⟩ := callStat X262 hx hZ hown (wd hw 43 _ rfl) (wd hw 44 _ rfl) (wd hw 2 _ rfl) (wd hw 45 _ rfl) (by decide) (rm_ok l Z a0 hw [] d244 r228 T247.heap n0 Z257 Od244.1 Od244.2) hh262 (L := #[.val (.int i0), .val (.int i1), .val (.int i2), .val (.int i3), .val (.int i4), .val (.int i5), .val (.double r223), .second, .val (.double r224), .second, .val (.double r225), .second, .val (.double r226), .second, .val (.double r227), .second, .val (.double r228), .second, .val (.ref a229), .val (.ref a247), .unset, .unset]) (hb hby at_142) (by rw [hml]; rfl) [.double d244, .double r228] [] rfl rfl pd_7 rfl 0 (by show 2 * 0 + _ ≤ _; exact Nat.le_of_eq rfl) (by decide) (by decide) (by decide) (by decide)
  obtain ⟨rfl, N263, hh263⟩ := hQ263
  have M263 := Fr.app M262 N263
  refine Go.via st263 ?_
  show Go p e below _ (T263.setTop (mkF m 145 #[.val (.int i0), .val (.int i1), .val (.int i2), .val (.int i3), .val (.int i4), .val (.int i5), .val (.double r223), .second, .val (.double r224), .second, .val (.double r225), .second, .val (.double r226), .second, .val (.double r227), .second, .val (.double r228), .second, .val (.ref a229), .val (.ref a247), .unset, .unset] [.int (1 : Int32)]))
  refine s_ifN X263 hx (hb hby at_145) (by decide) 148 rfl ?_
  refine s_iconst X263 hx (hb hby at_148) (1 : Int32) rfl 149 rfl ?_
  refine s_goto X263 hx (hb hby at_149) 153 (by decide) (by decide) ?_
  refine s_istore X263 hx (hb hby at_153) #[.val (.int i0), .val (.int i1), .val (.int i2), .val (.int i3), .val (.int i4), .val (.int i5), .val (.double r223), .second, .val (.double r224), .second, .val (.double r225), .second, .val (.double r226), .second, .val (.double r227), .second, .val (.double r228), .second, .val (.ref a229), .val (.ref a247), .val (.int (1 : Int32)), .unset] rfl 155 rfl ?_
  refine s_aload X263 hx (hb hby at_155) rfl rfl 157 rfl ?_
  refine s_iconst X263 hx (hb hby at_157) (0 : Int32) rfl 158 rfl ?_
  refine s_aload X263 hx (hb hby at_158) rfl rfl 160 rfl ?_
  refine s_iconst X263 hx (hb hby at_160) (0 : Int32) rfl 161 rfl ?_
  refine s_daload X263 hx hZ hh263 A247 (hb hby at_161) (j := (0 : Int32)) 0 (by decide) (.double d239) rfl 162 rfl ?_
  refine s_dconst1 X263 hx (hb hby at_162) (4607182418800017408 : UInt64) rfl 163 rfl ?_
  have Dd264 := Db.add Dd239 dc_4607182418800017408 (by decide)
  obtain ⟨d264, h_d264⟩ : ∃ v, FP.dadd d239 (4607182418800017408 : UInt64) = v := ⟨_, rfl⟩
  rw [h_d264] at Dd264
  refine s_dadd X263 hx (hb hby at_163) d264 h_d264 Dd264.nn 164 rfl ?_
  obtain ⟨T265, h265, X265, e265, W265, A265, st265⟩ := s_dastore X263 hx hZ hh263 A247 (hb hby at_164) #[.val (.int i0), .val (.int i1), .val (.int i2), .val (.int i3), .val (.int i4), .val (.int i5), .val (.double r223), .second, .val (.double r224), .second, .val (.double r225), .second, .val (.double r226), .second, .val (.double r227), .second, .val (.double r228), .second, .val (.ref a229), .val (.ref a247), .val (.int (1 : Int32)), .unset] [] (j := (0 : Int32)) 0 (by decide) (by show 0 < 6; decide) d264 [.double d264, .double d240, .double d241, .double d242, .double d243, .double d244] rfl 165 rfl
  have N265 := Fr.snoc X265 M263 q249
  have F266 := F250.wr W265
  have F267 := F251.other W265 (Or.inl ne248)
  have F268 := F252.other W265 (Or.inl ne248)
  have F269 := F253.other W265 (Or.inl ne248)
  have F270 := F254.other W265 (Or.inl ne248)
  have F271 := F255.other W265 (Or.inl ne248)
  have F272 := F256.other W265 (Or.inl ne248)
  have Z273 : n0 ≤ h265.size := by rw [W265.size]; exact Z257
  refine Go.via st265 ?_
  refine s_aload X265 hx (hb hby at_165) rfl rfl 167 rfl ?_
  refine s_iconst X265 hx (hb hby at_167) (1 : Int32) rfl 168 rfl ?_
  refine s_aload X265 hx (hb hby at_168) rfl rfl 170 rfl ?_
  refine s_iconst X265 hx (hb hby at_170) (1 : Int32) rfl 171 rfl ?_
  refine s_daload X265 hx hZ e265 A265 (hb hby at_171) (j := (1 : Int32)) 1 (by decide) (.double d240) rfl 172 rfl ?_
  refine s_dconst1 X265 hx (hb hby at_172) (4607182418800017408 : UInt64) rfl 173 rfl ?_
  have Dd274 := Db.add Dd240 dc_4607182418800017408 (by decide)
  obtain ⟨d274, h_d274⟩ : ∃ v, FP.dadd d240 (4607182418800017408 : UInt64) = v := ⟨_, rfl⟩
  rw [h_d274] at Dd274
  refine s_dadd X265 hx (hb hby at_173) d274 h_d274 Dd274.nn 174 rfl ?_
  obtain ⟨T275, h275, X275, e275, W275, A275, st275⟩ := s_dastore X265 hx hZ e265 A265 (hb hby at_174) #[.val (.int i0), .val (.int i1), .val (.int i2), .val (.int i3), .val (.int i4), .val (.int i5), .val (.double r223), .second, .val (.double r224), .second, .val (.double r225), .second, .val (.double r226), .second, .val (.double r227), .second, .val (.double r228), .second, .val (.ref a229), .val (.ref a247), .val (.int (1 : Int32)), .unset] [] (j := (1 : Int32)) 1 (by decide) (by show 1 < 6; decide) d274 [.double d264, .double d274, .double d241, .double d242, .double d243, .double d244] rfl 175 rfl
  have N275 := Fr.snoc X275 N265 q249
  have F276 := F266.wr W275
  have F277 := F267.other W275 (Or.inl ne248)
  have F278 := F268.other W275 (Or.inl ne248)
  have F279 := F269.other W275 (Or.inl ne248)
  have F280 := F270.other W275 (Or.inl ne248)
  have F281 := F271.other W275 (Or.inl ne248)
  have F282 := F272.other W275 (Or.inl ne248)
  have Z283 : n0 ≤ h275.size := by rw [W275.size]; exact Z273
  refine Go.via st275 ?_
  refine s_aload X275 hx (hb hby at_175) rfl rfl 177 rfl ?_
  refine s_iconst X275 hx (hb hby at_177) (2 : Int32) rfl 178 rfl ?_
  refine s_aload X275 hx (hb hby at_178) rfl rfl 180 rfl ?_
  refine s_iconst X275 hx (hb hby at_180) (2 : Int32) rfl 181 rfl ?_
  refine s_daload X275 hx hZ e275 A275 (hb hby at_181) (j := (2 : Int32)) 2 (by decide) (.double d241) rfl 182 rfl ?_
  refine s_dconst1 X275 hx (hb hby at_182) (4607182418800017408 : UInt64) rfl 183 rfl ?_
  have Dd284 := Db.add Dd241 dc_4607182418800017408 (by decide)
  obtain ⟨d284, h_d284⟩ : ∃ v, FP.dadd d241 (4607182418800017408 : UInt64) = v := ⟨_, rfl⟩
  rw [h_d284] at Dd284
  refine s_dadd X275 hx (hb hby at_183) d284 h_d284 Dd284.nn 184 rfl ?_
  obtain ⟨T285, h285, X285, e285, W285, A285, st285⟩ := s_dastore X275 hx hZ e275 A275 (hb hby at_184) #[.val (.int i0), .val (.int i1), .val (.int i2), .val (.int i3), .val (.int i4), .val (.int i5), .val (.double r223), .second, .val (.double r224), .second, .val (.double r225), .second, .val (.double r226), .second, .val (.double r227), .second, .val (.double r228), .second, .val (.ref a229), .val (.ref a247), .val (.int (1 : Int32)), .unset] [] (j := (2 : Int32)) 2 (by decide) (by show 2 < 6; decide) d284 [.double d264, .double d274, .double d284, .double d242, .double d243, .double d244] rfl 185 rfl
  have N285 := Fr.snoc X285 N275 q249
  have F286 := F276.wr W285
  have F287 := F277.other W285 (Or.inl ne248)
  have F288 := F278.other W285 (Or.inl ne248)
  have F289 := F279.other W285 (Or.inl ne248)
  have F290 := F280.other W285 (Or.inl ne248)
  have F291 := F281.other W285 (Or.inl ne248)
  have F292 := F282.other W285 (Or.inl ne248)
  have Z293 : n0 ≤ h285.size := by rw [W285.size]; exact Z283
  refine Go.via st285 ?_
  refine s_aload X285 hx (hb hby at_185) rfl rfl 187 rfl ?_
  refine s_iconst X285 hx (hb hby at_187) (3 : Int32) rfl 188 rfl ?_
  refine s_aload X285 hx (hb hby at_188) rfl rfl 190 rfl ?_
  refine s_iconst X285 hx (hb hby at_190) (3 : Int32) rfl 191 rfl ?_
  refine s_daload X285 hx hZ e285 A285 (hb hby at_191) (j := (3 : Int32)) 3 (by decide) (.double d242) rfl 192 rfl ?_
  refine s_dconst1 X285 hx (hb hby at_192) (4607182418800017408 : UInt64) rfl 193 rfl ?_
  have Dd294 := Db.add Dd242 dc_4607182418800017408 (by decide)
  obtain ⟨d294, h_d294⟩ : ∃ v, FP.dadd d242 (4607182418800017408 : UInt64) = v := ⟨_, rfl⟩
  rw [h_d294] at Dd294
  refine s_dadd X285 hx (hb hby at_193) d294 h_d294 Dd294.nn 194 rfl ?_
  obtain ⟨T295, h295, X295, e295, W295, A295, st295⟩ := s_dastore X285 hx hZ e285 A285 (hb hby at_194) #[.val (.int i0), .val (.int i1), .val (.int i2), .val (.int i3), .val (.int i4), .val (.int i5), .val (.double r223), .second, .val (.double r224), .second, .val (.double r225), .second, .val (.double r226), .second, .val (.double r227), .second, .val (.double r228), .second, .val (.ref a229), .val (.ref a247), .val (.int (1 : Int32)), .unset] [] (j := (3 : Int32)) 3 (by decide) (by show 3 < 6; decide) d294 [.double d264, .double d274, .double d284, .double d294, .double d243, .double d244] rfl 195 rfl
  have N295 := Fr.snoc X295 N285 q249
  have F296 := F286.wr W295
  have F297 := F287.other W295 (Or.inl ne248)
  have F298 := F288.other W295 (Or.inl ne248)
  have F299 := F289.other W295 (Or.inl ne248)
  have F300 := F290.other W295 (Or.inl ne248)
  have F301 := F291.other W295 (Or.inl ne248)
  have F302 := F292.other W295 (Or.inl ne248)
  have Z303 : n0 ≤ h295.size := by rw [W295.size]; exact Z293
  refine Go.via st295 ?_
  refine s_aload X295 hx (hb hby at_195) rfl rfl 197 rfl ?_
  refine s_iconst X295 hx (hb hby at_197) (4 : Int32) rfl 198 rfl ?_
  refine s_aload X295 hx (hb hby at_198) rfl rfl 200 rfl ?_
  refine s_iconst X295 hx (hb hby at_200) (4 : Int32) rfl 201 rfl ?_
  refine s_daload X295 hx hZ e295 A295 (hb hby at_201) (j := (4 : Int32)) 4 (by decide) (.double d243) rfl 202 rfl ?_
  refine s_dconst1 X295 hx (hb hby at_202) (4607182418800017408 : UInt64) rfl 203 rfl ?_
  have Dd304 := Db.add Dd243 dc_4607182418800017408 (by decide)
  obtain ⟨d304, h_d304⟩ : ∃ v, FP.dadd d243 (4607182418800017408 : UInt64) = v := ⟨_, rfl⟩
  rw [h_d304] at Dd304
  refine s_dadd X295 hx (hb hby at_203) d304 h_d304 Dd304.nn 204 rfl ?_
  obtain ⟨T305, h305, X305, e305, W305, A305, st305⟩ := s_dastore X295 hx hZ e295 A295 (hb hby at_204) #[.val (.int i0), .val (.int i1), .val (.int i2), .val (.int i3), .val (.int i4), .val (.int i5), .val (.double r223), .second, .val (.double r224), .second, .val (.double r225), .second, .val (.double r226), .second, .val (.double r227), .second, .val (.double r228), .second, .val (.ref a229), .val (.ref a247), .val (.int (1 : Int32)), .unset] [] (j := (4 : Int32)) 4 (by decide) (by show 4 < 6; decide) d304 [.double d264, .double d274, .double d284, .double d294, .double d304, .double d244] rfl 205 rfl
  have N305 := Fr.snoc X305 N295 q249
  have F306 := F296.wr W305
  have F307 := F297.other W305 (Or.inl ne248)
  have F308 := F298.other W305 (Or.inl ne248)
  have F309 := F299.other W305 (Or.inl ne248)
  have F310 := F300.other W305 (Or.inl ne248)
  have F311 := F301.other W305 (Or.inl ne248)
  have F312 := F302.other W305 (Or.inl ne248)
  have Z313 : n0 ≤ h305.size := by rw [W305.size]; exact Z303
  refine Go.via st305 ?_
  refine s_aload X305 hx (hb hby at_205) rfl rfl 207 rfl ?_
  refine s_iconst X305 hx (hb hby at_207) (5 : Int32) rfl 208 rfl ?_
  refine s_aload X305 hx (hb hby at_208) rfl rfl 210 rfl ?_
  refine s_iconst X305 hx (hb hby at_210) (5 : Int32) rfl 211 rfl ?_
  refine s_daload X305 hx hZ e305 A305 (hb hby at_211) (j := (5 : Int32)) 5 (by decide) (.double d244) rfl 212 rfl ?_
  refine s_dconst1 X305 hx (hb hby at_212) (4607182418800017408 : UInt64) rfl 213 rfl ?_
  have Dd314 := Db.add Dd244 dc_4607182418800017408 (by decide)
  obtain ⟨d314, h_d314⟩ : ∃ v, FP.dadd d244 (4607182418800017408 : UInt64) = v := ⟨_, rfl⟩
  rw [h_d314] at Dd314
  refine s_dadd X305 hx (hb hby at_213) d314 h_d314 Dd314.nn 214 rfl ?_
  obtain ⟨T315, h315, X315, e315, W315, A315, st315⟩ := s_dastore X305 hx hZ e305 A305 (hb hby at_214) #[.val (.int i0), .val (.int i1), .val (.int i2), .val (.int i3), .val (.int i4), .val (.int i5), .val (.double r223), .second, .val (.double r224), .second, .val (.double r225), .second, .val (.double r226), .second, .val (.double r227), .second, .val (.double r228), .second, .val (.ref a229), .val (.ref a247), .val (.int (1 : Int32)), .unset] [] (j := (5 : Int32)) 5 (by decide) (by show 5 < 6; decide) d314 [.double d264, .double d274, .double d284, .double d294, .double d304, .double d314] rfl 215 rfl
  have N315 := Fr.snoc X315 N305 q249
  have F316 := F306.wr W315
  have F317 := F307.other W315 (Or.inl ne248)
  have F318 := F308.other W315 (Or.inl ne248)
  have F319 := F309.other W315 (Or.inl ne248)
  have F320 := F310.other W315 (Or.inl ne248)
  have F321 := F311.other W315 (Or.inl ne248)
  have F322 := F312.other W315 (Or.inl ne248)
  have Z323 : n0 ≤ h315.size := by rw [W315.size]; exact Z313
  refine Go.via st315 ?_
  refine s_aload X315 hx (hb hby at_215) rfl rfl 217 rfl ?_
  obtain ⟨v324, T324, L324, X324, hQ324, st324⟩ := callVirt X315 hx hZ hown (wd hw 38 _ rfl) (wd hw 39 _ rfl) (wd hw 41 _ rfl) (wd hw 40 _ rfl) (wd hw 6 _ rfl) (wd hw 42 _ rfl) (by decide) (rm_coef l Z a0 hw [] a229 d239 d240 d241 d242 d243 d244 h315 n0 Z323 F317 F318 F319 F320 F321 F322) e315 a229 F316 (L := #[.val (.int i0), .val (.int i1), .val (.int i2), .val (.int i3), .val (.int i4), .val (.int i5), .val (.double r223), .second, .val (.double r224), .second, .val (.double r225), .second, .val (.double r226), .second, .val (.double r227), .second, .val (.double r228), .second, .val (.ref a229), .val (.ref a247), .val (.int (1 : Int32)), .unset]) (hb hby at_217) (by rw [hml]; rfl) [] [] rfl rfl pd_6 rfl 0 (by show 2 * 0 + _ ≤ _; exact Nat.le_of_eq rfl) (by decide) (by decide) (by decide) (by decide)
  obtain ⟨a324, c324, rfl, N324, K324, g324, A324⟩ := hQ324
  have M324 := Fr.app N315 N324
  have ne325 : a229 ≠ a324 := Nat.ne_of_lt (Nat.lt_of_lt_of_le F316.lt g324)
  have ne326 : a247 ≠ a324 := Nat.ne_of_lt (Nat.lt_of_lt_of_le A315.lt g324)
  have q327 : n0 ≤ a324 := Nat.le_trans Z323 g324
  have F328 := F316.keep K324
  have F329 := F317.keep K324 nin0
  have F330 := F318.keep K324 nin0
  have F331 := F319.keep K324 nin0
  have F332 := F320.keep K324 nin0
  have F333 := F321.keep K324 nin0
  have F334 := F322.keep K324 nin0
  have F335 := A315.keep K324 nin0
  have Z336 := Nat.le_trans Z323 K324.1
  have e324 : T324.heap = T324.heap := rfl
  refine Go.via st324 ?_
  show Go p e below _ (T324.setTop (mkF m 220 #[.val (.int i0), .val (.int i1), .val (.int i2), .val (.int i3), .val (.int i4), .val (.int i5), .val (.double r223), .second, .val (.double r224), .second, .val (.double r225), .second, .val (.double r226), .second, .val (.double r227), .second, .val (.double r228), .second, .val (.ref a229), .val (.ref a247), .val (.int (1 : Int32)), .unset] [.ref a324]))
  refine s_astore X324 hx (hb hby at_220) rfl #[.val (.int i0), .val (.int i1), .val (.int i2), .val (.int i3), .val (.int i4), .val (.int i5), .val (.double r223), .second, .val (.double r224), .second, .val (.double r225), .second, .val (.double r226), .second, .val (.double r227), .second, .val (.double r228), .second, .val (.ref a229), .val (.ref a247), .val (.int (1 : Int32)), .val (.ref a324)] rfl 222 rfl ?_
  refine s_aload X324 hx (hb hby at_222) rfl rfl 224 rfl ?_
  refine s_len X324 hx hZ e324 A324 (hb hby at_224) (6 : Int32) rfl 225 rfl ?_
  refine s_bipush X324 hx (hb hby at_225) (6 : Int32) rfl 227 rfl ?_
  refine s_icmpY X324 hx (hb hby at_227) (by decide) 232 (by decide) (by decide) ?_
  refine s_iload X324 hx (hb hby at_232) rfl 234 rfl ?_
  refine s_ifN X324 hx (hb hby at_234) (by decide) 237 rfl ?_
  refine s_aload X324 hx (hb hby at_237) rfl rfl 239 rfl ?_
  refine s_aload X324 hx (hb hby at_239) rfl rfl 241 rfl ?_
  refine s_acmpN X324 hx (hb hby at_241) rfl rfl (XT.aa_eq_f (fun q => (ne326).symm (Value.ref.inj q))) 244 rfl ?_
  refine s_aload X324 hx (hb hby at_244) rfl rfl 246 rfl ?_
  refine s_iconst X324 hx (hb hby at_246) (0 : Int32) rfl 247 rfl ?_
  refine s_daload X324 hx hZ e324 A324 (hb hby at_247) (j := (0 : Int32)) 0 (by decide) (.double d239) rfl 248 rfl ?_
  refine s_dload X324 hx (hb hby at_248) rfl 250 rfl ?_
  obtain ⟨v337, T337, L337, X337, hQ337, st337⟩ := callStat X324 hx hZ hown (wd hw 43 _ rfl) (wd hw 44 _ rfl) (wd hw 2 _ rfl) (wd hw 45 _ rfl) (by decide) (rm_ok l Z a0 hw [] d239 r223 T324.heap n0 Z336 Od239.1 Od239.2) e324 (L := #[.val (.int i0), .val (.int i1), .val (.int i2), .val (.int i3), .val (.int i4), .val (.int i5), .val (.double r223), .second, .val (.double r224), .second, .val (.double r225), .second, .val (.double r226), .second, .val (.double r227), .second, .val (.double r228), .second, .val (.ref a229), .val (.ref a247), .val (.int (1 : Int32)), .val (.ref a324)]) (hb hby at_250) (by rw [hml]; rfl) [.double d239, .double r223] [] rfl rfl pd_7 rfl 0 (by show 2 * 0 + _ ≤ _; exact Nat.le_of_eq rfl) (by decide) (by decide) (by decide) (by decide)
  obtain ⟨rfl, N337, hh337⟩ := hQ337
  have M337 := Fr.app M324 N337
  refine Go.via st337 ?_
  show Go p e below _ (T337.setTop (mkF m 253 #[.val (.int i0), .val (.int i1), .val (.int i2), .val (.int i3), .val (.int i4), .val (.int i5), .val (.double r223), .second, .val (.double r224), .second, .val (.double r225), .second, .val (.double r226), .second, .val (.double r227), .second, .val (.double r228), .second, .val (.ref a229), .val (.ref a247), .val (.int (1 : Int32)), .val (.ref a324)] [.int (1 : Int32)]))
  refine s_ifN X337 hx (hb hby at_253) (by decide) 256 rfl ?_
  refine s_aload X337 hx (hb hby at_256) rfl rfl 258 rfl ?_
  refine s_iconst X337 hx (hb hby at_258) (1 : Int32) rfl 259 rfl ?_
  refine s_daload X337 hx hZ hh337 A324 (hb hby at_259) (j := (1 : Int32)) 1 (by decide) (.double d240) rfl 260 rfl ?_
  refine s_dload X337 hx (hb hby at_260) rfl 262 rfl ?_
  obtain ⟨v338, T338, L338, X338, hQ338, st338⟩ := callStat X337 hx hZ hown (wd hw 43 _ rfl) (wd hw 44 _ rfl) (wd hw 2 _ rfl) (wd hw 45 _ rfl) (by decide) (rm_ok l Z a0 hw [] d240 r224 T324.heap n0 Z336 Od240.1 Od240.2) hh337 (L := #[.val (.int i0), .val (.int i1), .val (.int i2), .val (.int i3), .val (.int i4), .val (.int i5), .val (.double r223), .second, .val (.double r224), .second, .val (.double r225), .second, .val (.double r226), .second, .val (.double r227), .second, .val (.double r228), .second, .val (.ref a229), .val (.ref a247), .val (.int (1 : Int32)), .val (.ref a324)]) (hb hby at_262) (by rw [hml]; rfl) [.double d240, .double r224] [] rfl rfl pd_7 rfl 0 (by show 2 * 0 + _ ≤ _; exact Nat.le_of_eq rfl) (by decide) (by decide) (by decide) (by decide)
  obtain ⟨rfl, N338, hh338⟩ := hQ338
  have M338 := Fr.app M337 N338
  refine Go.via st338 ?_
  show Go p e below _ (T338.setTop (mkF m 265 #[.val (.int i0), .val (.int i1), .val (.int i2), .val (.int i3), .val (.int i4), .val (.int i5), .val (.double r223), .second, .val (.double r224), .second, .val (.double r225), .second, .val (.double r226), .second, .val (.double r227), .second, .val (.double r228), .second, .val (.ref a229), .val (.ref a247), .val (.int (1 : Int32)), .val (.ref a324)] [.int (1 : Int32)]))
  refine s_ifN X338 hx (hb hby at_265) (by decide) 268 rfl ?_
  refine s_aload X338 hx (hb hby at_268) rfl rfl 270 rfl ?_
  refine s_iconst X338 hx (hb hby at_270) (2 : Int32) rfl 271 rfl ?_
  refine s_daload X338 hx hZ hh338 A324 (hb hby at_271) (j := (2 : Int32)) 2 (by decide) (.double d241) rfl 272 rfl ?_
  refine s_dload X338 hx (hb hby at_272) rfl 274 rfl ?_
  obtain ⟨v339, T339, L339, X339, hQ339, st339⟩ := callStat X338 hx hZ hown (wd hw 43 _ rfl) (wd hw 44 _ rfl) (wd hw 2 _ rfl) (wd hw 45 _ rfl) (by decide) (rm_ok l Z a0 hw [] d241 r225 T324.heap n0 Z336 Od241.1 Od241.2) hh338 (L := #[.val (.int i0), .val (.int i1), .val (.int i2), .val (.int i3), .val (.int i4), .val (.int i5), .val (.double r223), .second, .val (.double r224), .second, .val (.double r225), .second, .val (.double r226), .second, .val (.double r227), .second, .val (.double r228), .second, .val (.ref a229), .val (.ref a247), .val (.int (1 : Int32)), .val (.ref a324)]) (hb hby at_274) (by rw [hml]; rfl) [.double d241, .double r225] [] rfl rfl pd_7 rfl 0 (by show 2 * 0 + _ ≤ _; exact Nat.le_of_eq rfl) (by decide) (by decide) (by decide) (by decide)
  obtain ⟨rfl, N339, hh339⟩ := hQ339
  have M339 := Fr.app M338 N339
  refine Go.via st339 ?_
  show Go p e below _ (T339.setTop (mkF m 277 #[.val (.int i0), .val (.int i1), .val (.int i2), .val (.int i3), .val (.int i4), .val (.int i5), .val (.double r223), .second, .val (.double r224), .second, .val (.double r225), .second, .val (.double r226), .second, .val (.double r227), .second, .val (.double r228), .second, .val (.ref a229), .val (.ref a247), .val (.int (1 : Int32)), .val (.ref a324)] [.int (1 : Int32)]))
  refine s_ifN X339 hx (hb hby at_277) (by decide) 280 rfl ?_
  refine s_aload X339 hx (hb hby at_280) rfl rfl 282 rfl ?_
  refine s_iconst X339 hx (hb hby at_282) (3 : Int32) rfl 283 rfl ?_
  refine s_daload X339 hx hZ hh339 A324 (hb hby at_283) (j := (3 : Int32)) 3 (by decide) (.double d242) rfl 284 rfl ?_
  refine s_dload X339 hx (hb hby at_284) rfl 286 rfl ?_
  obtain ⟨v340, T340, L340, X340, hQ340, st340⟩ := callStat X339 hx hZ hown (wd hw 43 _ rfl) (wd hw 44 _ rfl) (wd hw 2 _ rfl) (wd hw 45 _ rfl) (by decide) (rm_ok l Z a0 hw [] d242 r226 T324.heap n0 Z336 Od242.1 Od242.2) hh339 (L := #[.val (.int i0), .val (.int i1), .val (.int i2), .val (.int i3), .val (.int i4), .val (.int i5), .val (.double r223), .second, .val (.double r224), .second, .val (.double r225), .second, .val (.double r226), .second, .val (.double r227), .second, .val (.double r228), .second, .val (.ref a229), .val (.ref a247), .val (.int (1 : Int32)), .val (.ref a324)]) (hb hby at_286) (by rw [hml]; rfl) [.double d242, .double r226] [] rfl rfl pd_7 rfl 0 (by show 2 * 0 + _ ≤ _; exact Nat.le_of_eq rfl) (by decide) (by decide) (by decide) (by decide)
  obtain ⟨rfl, N340, hh340⟩ := hQ340
  have M340 := Fr.app M339 N340
  refine Go.via st340 ?_
  show Go p e below _ (T340.setTop (mkF m 289 #[.val (.int i0), .val (.int i1), .val (.int i2), .val (.int i3), .val (.int i4), .val (.int i5), .val (.double r223), .second, .val (.double r224), .second, .val (.double r225), .second, .val (.double r226), .second, .val (.double r227), .second, .val (.double r228), .second, .val (.ref a229), .val (.ref a247), .val (.int (1 : Int32)), .val (.ref a324)] [.int (1 : Int32)]))
  refine s_ifN X340 hx (hb hby at_289) (by decide) 292 rfl ?_
  refine s_aload X340 hx (hb hby at_292) rfl rfl 294 rfl ?_
  refine s_iconst X340 hx (hb hby at_294) (4 : Int32) rfl 295 rfl ?_
  refine s_daload X340 hx hZ hh340 A324 (hb hby at_295) (j := (4 : Int32)) 4 (by decide) (.double d243) rfl 296 rfl ?_
  refine s_dload X340 hx (hb hby at_296) rfl 298 rfl ?_
  obtain ⟨v341, T341, L341, X341, hQ341, st341⟩ := callStat X340 hx hZ hown (wd hw 43 _ rfl) (wd hw 44 _ rfl) (wd hw 2 _ rfl) (wd hw 45 _ rfl) (by decide) (rm_ok l Z a0 hw [] d243 r227 T324.heap n0 Z336 Od243.1 Od243.2) hh340 (L := #[.val (.int i0), .val (.int i1), .val (.int i2), .val (.int i3), .val (.int i4), .val (.int i5), .val (.double r223), .second, .val (.double r224), .second, .val (.double r225), .second, .val (.double r226), .second, .val (.double r227), .second, .val (.double r228), .second, .val (.ref a229), .val (.ref a247), .val (.int (1 : Int32)), .val (.ref a324)]) (hb hby at_298) (by rw [hml]; rfl) [.double d243, .double r227] [] rfl rfl pd_7 rfl 0 (by show 2 * 0 + _ ≤ _; exact Nat.le_of_eq rfl) (by decide) (by decide) (by decide) (by decide)
  obtain ⟨rfl, N341, hh341⟩ := hQ341
  have M341 := Fr.app M340 N341
  refine Go.via st341 ?_
  show Go p e below _ (T341.setTop (mkF m 301 #[.val (.int i0), .val (.int i1), .val (.int i2), .val (.int i3), .val (.int i4), .val (.int i5), .val (.double r223), .second, .val (.double r224), .second, .val (.double r225), .second, .val (.double r226), .second, .val (.double r227), .second, .val (.double r228), .second, .val (.ref a229), .val (.ref a247), .val (.int (1 : Int32)), .val (.ref a324)] [.int (1 : Int32)]))
  refine s_ifN X341 hx (hb hby at_301) (by decide) 304 rfl ?_
  refine s_aload X341 hx (hb hby at_304) rfl rfl 306 rfl ?_
  refine s_iconst X341 hx (hb hby at_306) (5 : Int32) rfl 307 rfl ?_
  refine s_daload X341 hx hZ hh341 A324 (hb hby at_307) (j := (5 : Int32)) 5 (by decide) (.double d244) rfl 308 rfl ?_
  refine s_dload X341 hx (hb hby at_308) rfl 310 rfl ?_
  obtain ⟨v342, T342, L342, X342, hQ342, st342⟩ := callStat X341 hx hZ hown (wd hw 43 _ rfl) (wd hw 44 _ rfl) (wd hw 2 _ rfl) (wd hw 45 _ rfl) (by decide) (rm_ok l Z a0 hw [] d244 r228 T324.heap n0 Z336 Od244.1 Od244.2) hh341 (L := #[.val (.int i0), .val (.int i1), .val (.int i2), .val (.int i3), .val (.int i4), .val (.int i5), .val (.double r223), .second, .val (.double r224), .second, .val (.double r225), .second, .val (.double r226), .second, .val (.double r227), .second, .val (.double r228), .second, .val (.ref a229), .val (.ref a247), .val (.int (1 : Int32)), .val (.ref a324)]) (hb hby at_310) (by rw [hml]; rfl) [.double d244, .double r228] [] rfl rfl pd_7 rfl 0 (by show 2 * 0 + _ ≤ _; exact Nat.le_of_eq rfl) (by decide) (by decide) (by decide) (by decide)
  obtain ⟨rfl, N342, hh342⟩ := hQ342
  have M342 := Fr.app M341 N342
  refine Go.via st342 ?_
  show Go p e below _ (T342.setTop (mkF m 313 #[.val (.int i0), .val (.int i1), .val (.int i2), .val (.int i3), .val (.int i4), .val (.int i5), .val (.double r223), .second, .val (.double r224), .second, .val (.double r225), .second, .val (.double r226), .second, .val (.double r227), .second, .val (.double r228), .second, .val (.ref a229), .val (.ref a247), .val (.int (1 : Int32)), .val (.ref a324)] [.int (1 : Int32)]))
  refine s_ifN X342 hx (hb hby at_313) (by decide) 316 rfl ?_
  refine s_iconst X342 hx (hb hby at_316) (1 : Int32) rfl 317 rfl ?_
  refine s_goto X342 hx (hb hby at_317) 321 (by decide) (by decide) ?_
  exact retZ X342 hx hlk hret (hb hby at_321) (by decide) hh342 ⟨rfl, M342⟩ (by decide) (by decide)
set_option maxRecDepth 65536 in
set_option maxHeartbeats 40000000 in
theorem comes_1 {Post : Tables → Env → Array Value → State → Outcome → State → Prop} (hpost : ∀ tb e args s v u, (limb_1_1.after args s (.returned v) u = true ∧ limb_1_2.after args s (.returned v) u = true ∧ True) → FrameEnd s (.returned v) u (Jvm.fieldLocs frame_1_writes args s ++ Jvm.arrayLocs frame_1_arrays args s ++ Jvm.staticLocs frame_1_statics s) 16 128 → Post tb e args s (.returned v) u) :
    ArmFor flags0 classFile x code maxLocals ret World_1 tables_1 room_1 Calls_1 rest_1 Pre_1 Post := by
  intro l hfl _ _ p e ha hc hk s m args below hf hA hF happ hP
  obtain ⟨hcalls, hrest, hpre⟩ := hP
  obtain ⟨-, -, -, hnamed, -, -, -, hat⟩ := (Spec.applies_iff hf).mp happ
  obtain ⟨hg, hn⟩ := and_e (Cond.before_iff.mp (show (Jvm.Cond.and given_1 narrow_1).before args s = true from hpre))
  obtain ⟨hg0, hg1⟩ := and_e hg
  obtain ⟨w0, w1, w2, w3, w4, w5, rfl⟩ : ∃ w0 w1 w2 w3 w4 w5 : Value, args = #[w0, w1, w2, w3, w4, w5] := by
    have hs : args.size = 6 := by simpa [Cond.value, given_1] using hg0
    obtain ⟨L⟩ := args
    match L, hs with
    | [w0, w1, w2, w3, w4, w5], _ => exact ⟨w0, w1, w2, w3, w4, w5, rfl⟩
  have hw := fun d (hd : d ∈ tables_1) => atoms_spec (ws := Jvm.Cond.code x code maxLocals ret :: tables_1) hat d (List.mem_cons_of_mem _ hd)
  obtain ⟨ga0, hg2⟩ := and_e hg1
  obtain ⟨ga1, hg3⟩ := and_e hg2
  obtain ⟨ga2, hg4⟩ := and_e hg3
  obtain ⟨ga3, hg5⟩ := and_e hg4
  obtain ⟨ga4, hg6⟩ := and_e hg5
  have ga5 := hg6
  obtain ⟨i0, ei0⟩ := is_v ga0
  obtain rfl : w0 = .int i0 := Option.some.inj ei0
  obtain ⟨i1, ei1⟩ := is_v ga1
  obtain rfl : w1 = .int i1 := Option.some.inj ei1
  obtain ⟨i2, ei2⟩ := is_v ga2
  obtain rfl : w2 = .int i2 := Option.some.inj ei2
  obtain ⟨i3, ei3⟩ := is_v ga3
  obtain rfl : w3 = .int i3 := Option.some.inj ei3
  obtain ⟨i4, ei4⟩ := is_v ga4
  obtain rfl : w4 = .int i4 := Option.some.inj ei4
  obtain ⟨i5, ei5⟩ := is_v ga5
  obtain rfl : w5 = .int i5 := Option.some.inj ei5
  obtain ⟨n, o, h1, h2, h3, _, L, rfl, ⟨rfl, N⟩, hq⟩ := rm_law l s _ hw tables_1 i0 i1 i2 i3 i4 i5 s.heap s.heap.size (Nat.le_refl _) p e ha hc hk s m _ below hf ((Spec.applies_iff_loose hf).mp happ).1 ⟨rfl, State.Warmed39.refl s, rfl⟩ trivial
  refine ⟨n, _, h1, h2, h3, hpost _ _ _ _ _ _ ⟨Cond.after_iff.mpr rfl, Cond.after_iff.mpr (eq_i res_at (Term.int_eval (1)) rfl), trivial⟩ ⟨hq.1, hq.2.1, (hq.2.2.sift fun y hy => Or.inr (N y hy)).mono (by decide) (by decide)⟩⟩
theorem main_1_1 : Claimed_1_1 := comes_1 fun _ _ _ _ _ _ h hF => ⟨h.1, hF⟩
theorem main_1_2 : Claimed_1_2 := comes_1 fun _ _ _ _ _ _ h hF => ⟨h.2.1, hF⟩
end Jvm.Pilot.@@N@@
namespace Jvm.Pilot.@@N@@
open Jvm Jvm.ClassFile Sem Op Lib Jvm.Free Jvm.Stand Jvm.Pilot.@@N@@.Jvm.D
/-! MADE BY PROGRAM (witnessworld.py) out of the Statement's table words and the real class files: 17 classes; the members and pool entries that the words name. The judged class is class 1, her method 3. -/
namespace start1
open Jvm.ClassFile
def u (s : String) : CpInfo := .utf8 (stringToUtf16 s)
/-- a pool by its gaps: so many unusable entries, then the entry; so many at the end -/
def gap : Nat → List CpInfo → List CpInfo
  | 0, r => r
  | n + 1, r => .unusable :: gap n r
def poolList (es : List (Nat × CpInfo)) (last : Nat) : List CpInfo := es.foldr (fun e r => gap e.1 (e.2 :: r)) (gap last [])
def pool (es : List (Nat × CpInfo)) (last : Nat) : Array CpInfo := ⟨poolList es last⟩
def fileOf (pool : Array CpInfo) (this : Nat) (attrs : Array Attribute := #[]) (ms : Array MethodInfo := #[]) (fl : Nat := 33) (sup : Nat := 0) (ifs : Array Nat := #[]) (fds : Array FieldInfo := #[]) : ClassFile where
  minorVersion := 0
  majorVersion := 65
  constantPool := pool
  accessFlags := fl
  thisClass := this
  superClass := sup
  interfaces := ifs
  fields := fds
  methods := ms
  attributes := attrs
def plain (name : String) (sup : Option ClassId) : Class where
  name := name
  kind := .ordinary
  loader := none
  accessFlags := 33
  super := sup
  interfaces := #[]
  cf := none
  fields := #[]
  methods := #[]
  instanceTypes := #[]
  staticTypes := #[]
  resolved := #[]
  callSites := []
  init := .initialized
  statics := none
  mirror := none

def pool0 : Array CpInfo := pool [(5, u "<init>"), (0, u "()V"), (1, .class_ 10), (1, u "java/lang/Object")] 113

def k0c0 : Code := { maxStack := 0, maxLocals := 1, code := object_method_1_code, exceptionTable := #[], attributes := #[] }
def k0m0 : Method := { name := "<init>", desc := "()V", sig := { parameters := [], returnType := none }, accessFlags := 1, code := some k0c0 }
/-- java/lang/Object -/
def k0 : Class := { plain "java/lang/Object" none with
  accessFlags := 33
  interfaces := #[]
  cf := some (fileOf pool0 8 #[] #[{ accessFlags := 1, nameIndex := 5, descriptorIndex := 6, attributes := #[] }] 33 0 #[] #[])
  fields := #[]
  methods := #[k0m0]
  instanceTypes := #[]
  staticTypes := #[]
  resolved := Array.replicate 124 none
  statics := none }

def pool1 : Array CpInfo := pool [(2, .class_ 4), (1, u "java/lang/Object"), (0, u "<init>"), (0, u "()V"), (0, .methodref 8 9), (0, .class_ 10), (0, .nameAndType 11 12), (0, u "com/example/lamina3/lamina3/AffineMapCoefficientsPinLaw"), (0, u "val"), (0, u "(I)D"), (0, .class_ 14), (0, u "com/example/lamina3/lamina3/AffineMap"), (0, .methodref 13 16), (0, .nameAndType 5 17), (0, u "(DDDDDD)V"), (0, .methodref 13 19), (0, .nameAndType 20 21), (0, u "coefficients"), (0, u "()[D"), (0, .methodref 8 23), (0, .nameAndType 24 25), (0, u "ok"), (0, u "(DD)Z"), (3, u "law"), (0, u "(IIIIII)Z")] 4

def k1m0 : Method := { name := "<init>", desc := "()V", sig := { parameters := [], returnType := none }, accessFlags := 1, code := none }
def k1c1 : Code := { maxStack := 2, maxLocals := 3, code := method_2_code, exceptionTable := #[], attributes := #[] }
def k1m1 : Method := { name := "val", desc := "(I)D", sig := { parameters := [.int], returnType := some .double }, accessFlags := 10, code := some k1c1 }
def k1c2 : Code := { maxStack := 4, maxLocals := 4, code := method_3_code, exceptionTable := #[], attributes := #[] }
def k1m2 : Method := { name := "ok", desc := "(DD)Z", sig := { parameters := [.double, .double], returnType := some .boolean }, accessFlags := 10, code := some k1c2 }
def k1c3 : Code := { maxStack := 14, maxLocals := 22, code := code, exceptionTable := #[], attributes := #[] }
def k1m3 : Method := { name := "law", desc := "(IIIIII)Z", sig := { parameters := [.int, .int, .int, .int, .int, .int], returnType := some .boolean }, accessFlags := 9, code := some k1c3 }
/-- com/example/lamina3/lamina3/AffineMapCoefficientsPinLaw -/
def k1 : Class := { plain "com/example/lamina3/lamina3/AffineMapCoefficientsPinLaw" (some 0) with
  accessFlags := 49
  interfaces := #[]
  cf := some (fileOf pool1 8 #[] #[{ accessFlags := 1, nameIndex := 5, descriptorIndex := 6, attributes := #[] }, { accessFlags := 10, nameIndex := 11, descriptorIndex := 12, attributes := #[] }, { accessFlags := 10, nameIndex := 24, descriptorIndex := 25, attributes := #[] }, { accessFlags := 9, nameIndex := 29, descriptorIndex := 30, attributes := #[] }] 49 2 #[] #[])
  fields := #[]
  methods := #[k1m0, k1m1, k1m2, k1m3]
  instanceTypes := #[]
  staticTypes := #[]
  resolved := Array.replicate 35 none
  statics := none }

def pool2 : Array CpInfo := pool [(1, .methodref 2 3), (0, .class_ 4), (0, .nameAndType 5 6), (0, u "java/lang/Object"), (0, u "<init>"), (0, u "()V"), (0, .methodref 8 9), (0, .class_ 10), (0, .nameAndType 11 12), (0, u "com/example/lamina3/lamina3/AffineMap"), (0, u "allFinite"), (0, u "([D)Z"), (15, .fieldref 8 29), (0, .nameAndType 30 31), (0, u "a"), (0, u "D"), (0, .fieldref 8 33), (0, .nameAndType 34 31), (0, u "b"), (0, .fieldref 8 36), (0, .nameAndType 37 31), (0, u "c"), (0, .fieldref 8 39), (0, .nameAndType 40 31), (0, u "d"), (0, .fieldref 8 42), (0, .nameAndType 43 31), (0, u "e"), (0, .fieldref 8 45), (0, .nameAndType 46 31), (0, u "f"), (2, u "(DDDDDD)V"), (9, .class_ 61), (1, u "java/lang/Double"), (1, u "(D)Z"), (14, u "coefficients"), (0, u "()[D"), (1, .methodref 59 82), (0, .nameAndType 83 63), (0, u "isFinite")] 36

def k2c0 : Code := { maxStack := 7, maxLocals := 13, code := prog_1_method_1_code, exceptionTable := #[], attributes := #[] }
def k2m0 : Method := { name := "<init>", desc := "(DDDDDD)V", sig := { parameters := [.double, .double, .double, .double, .double, .double], returnType := none }, accessFlags := 1, code := some k2c0 }
def k2c1 : Code := { maxStack := 5, maxLocals := 1, code := prog_1_method_8_code, exceptionTable := #[], attributes := #[] }
def k2m1 : Method := { name := "coefficients", desc := "()[D", sig := { parameters := [], returnType := some (.array .double) }, accessFlags := 1, code := some k2c1 }
def k2c2 : Code := { maxStack := 2, maxLocals := 6, code := prog_1_method_11_code, exceptionTable := #[], attributes := #[] }
def k2m2 : Method := { name := "allFinite", desc := "([D)Z", sig := { parameters := [(.array .double)], returnType := some .boolean }, accessFlags := 138, code := some k2c2 }
/-- com/example/lamina3/lamina3/AffineMap -/
def k2 : Class := { plain "com/example/lamina3/lamina3/AffineMap" (some 0) with
  accessFlags := 49
  interfaces := #[]
  cf := some (fileOf pool2 8 #[] #[{ accessFlags := 1, nameIndex := 5, descriptorIndex := 49, attributes := #[] }, { accessFlags := 1, nameIndex := 78, descriptorIndex := 79, attributes := #[] }, { accessFlags := 138, nameIndex := 11, descriptorIndex := 12, attributes := #[] }] 49 2 #[] #[{ accessFlags := 18, nameIndex := 30, descriptorIndex := 31, attributes := #[] }, { accessFlags := 18, nameIndex := 34, descriptorIndex := 31, attributes := #[] }, { accessFlags := 18, nameIndex := 37, descriptorIndex := 31, attributes := #[] }, { accessFlags := 18, nameIndex := 40, descriptorIndex := 31, attributes := #[] }, { accessFlags := 18, nameIndex := 43, descriptorIndex := 31, attributes := #[] }, { accessFlags := 18, nameIndex := 46, descriptorIndex := 31, attributes := #[] }])
  fields := #[{ name := "a", type := .double, accessFlags := 18, slot := 0, constantValue := 0 }, { name := "b", type := .double, accessFlags := 18, slot := 1, constantValue := 0 }, { name := "c", type := .double, accessFlags := 18, slot := 2, constantValue := 0 }, { name := "d", type := .double, accessFlags := 18, slot := 3, constantValue := 0 }, { name := "e", type := .double, accessFlags := 18, slot := 4, constantValue := 0 }, { name := "f", type := .double, accessFlags := 18, slot := 5, constantValue := 0 }]
  methods := #[k2m0, k2m1, k2m2]
  instanceTypes := #[.double, .double, .double, .double, .double, .double]
  staticTypes := #[]
  resolved := Array.replicate 120 none
  statics := none }

def pool3 : Array CpInfo := pool [(1, .class_ 2), (0, u "java/io/Serializable"), (0, .class_ 4), (0, u "java/lang/Object")] 2

/-- java/io/Serializable -/
def k3 : Class := { plain "java/io/Serializable" (some 0) with
  accessFlags := 1537
  interfaces := #[]
  cf := some (fileOf pool3 1 #[] #[] 1537 3 #[] #[])
  fields := #[]
  methods := #[]
  instanceTypes := #[]
  staticTypes := #[]
  resolved := Array.replicate 7 none
  statics := none }

def pool4 : Array CpInfo := pool [(2, .class_ 4), (1, u "java/lang/Object"), (0, u "<init>"), (0, u "()V"), (1, .class_ 10), (1, u "java/lang/Number"), (2, .class_ 14), (0, u "java/io/Serializable"), (0, u "serialVersionUID"), (0, u "J")] 20

def k4m0 : Method := { name := "<init>", desc := "()V", sig := { parameters := [], returnType := none }, accessFlags := 1, code := none }
/-- java/lang/Number -/
def k4 : Class := { plain "java/lang/Number" (some 0) with
  accessFlags := 1057
  interfaces := #[3]
  cf := some (fileOf pool4 8 #[] #[{ accessFlags := 1, nameIndex := 5, descriptorIndex := 6, attributes := #[] }] 1057 2 #[13] #[{ accessFlags := 26, nameIndex := 15, descriptorIndex := 16, attributes := #[] }])
  fields := #[{ name := "serialVersionUID", type := .long, accessFlags := 26, slot := 0, constantValue := 0 }]
  methods := #[k4m0]
  instanceTypes := #[]
  staticTypes := #[.long]
  resolved := Array.replicate 37 none
  statics := none }

def pool5 : Array CpInfo := pool [(1, .class_ 2), (0, u "java/lang/Comparable"), (0, .class_ 4), (0, u "java/lang/Object")] 7

/-- java/lang/Comparable -/
def k5 : Class := { plain "java/lang/Comparable" (some 0) with
  accessFlags := 1537
  interfaces := #[]
  cf := some (fileOf pool5 1 #[] #[] 1537 3 #[] #[])
  fields := #[]
  methods := #[]
  instanceTypes := #[]
  staticTypes := #[]
  resolved := Array.replicate 12 none
  statics := none }

def pool6 : Array CpInfo := pool [(1, .class_ 2), (0, u "java/lang/constant/Constable"), (0, .class_ 4), (0, u "java/lang/Object")] 6

/-- java/lang/constant/Constable -/
def k6 : Class := { plain "java/lang/constant/Constable" (some 0) with
  accessFlags := 1537
  interfaces := #[]
  cf := some (fileOf pool6 1 #[] #[] 1537 3 #[] #[])
  fields := #[]
  methods := #[]
  instanceTypes := #[]
  staticTypes := #[]
  resolved := Array.replicate 11 none
  statics := none }

def pool7 : Array CpInfo := pool [(1, .class_ 2), (0, u "java/lang/constant/ConstantDesc"), (0, .class_ 4), (0, u "java/lang/Object")] 32

/-- java/lang/constant/ConstantDesc -/
def k7 : Class := { plain "java/lang/constant/ConstantDesc" (some 0) with
  accessFlags := 1537
  interfaces := #[]
  cf := some (fileOf pool7 1 #[] #[] 1537 3 #[] #[])
  fields := #[]
  methods := #[]
  instanceTypes := #[]
  staticTypes := #[]
  resolved := Array.replicate 37 none
  statics := none }

def pool8 : Array CpInfo := pool [(1, .class_ 2), (0, u "java/lang/Double"), (10, u "isFinite"), (0, u "(D)Z"), (8, .class_ 25), (1, u "java/lang/Math"), (12, .methodref 23 39), (0, .nameAndType 40 41), (0, u "abs"), (0, u "(D)D"), (69, .double 9218868437227405311), (2, .class_ 116), (1, u "java/lang/Number"), (3, u "value"), (0, u "D"), (51, u "TYPE"), (0, u "Ljava/lang/Class;"), (0, .class_ 176), (0, u "java/lang/Comparable"), (0, .class_ 178), (0, u "java/lang/constant/Constable"), (0, .class_ 180), (0, u "java/lang/constant/ConstantDesc"), (0, u "POSITIVE_INFINITY"), (3, u "NEGATIVE_INFINITY"), (2, u "NaN"), (2, u "MAX_VALUE"), (0, u "MIN_NORMAL"), (0, u "MIN_VALUE"), (2, u "SIZE"), (0, u "I"), (1, u "PRECISION"), (1, u "MAX_EXPONENT"), (1, u "MIN_EXPONENT"), (1, u "BYTES"), (3, u "serialVersionUID"), (0, u "J")] 79

def k8c0 : Code := { maxStack := 4, maxLocals := 2, code := jdk_117_method_8_code, exceptionTable := #[], attributes := #[] }
def k8m0 : Method := { name := "isFinite", desc := "(D)Z", sig := { parameters := [.double], returnType := some .boolean }, accessFlags := 9, code := some k8c0 }
/-- java/lang/Double -/
def k8 : Class := { plain "java/lang/Double" (some 4) with
  accessFlags := 49
  interfaces := #[5, 6, 7]
  cf := some (fileOf pool8 1 #[] #[{ accessFlags := 9, nameIndex := 13, descriptorIndex := 14, attributes := #[] }] 49 114 #[175, 177, 179] #[{ accessFlags := 25, nameIndex := 181, descriptorIndex := 121, attributes := #[] }, { accessFlags := 25, nameIndex := 185, descriptorIndex := 121, attributes := #[] }, { accessFlags := 25, nameIndex := 188, descriptorIndex := 121, attributes := #[] }, { accessFlags := 25, nameIndex := 191, descriptorIndex := 121, attributes := #[] }, { accessFlags := 25, nameIndex := 192, descriptorIndex := 121, attributes := #[] }, { accessFlags := 25, nameIndex := 193, descriptorIndex := 121, attributes := #[] }, { accessFlags := 25, nameIndex := 196, descriptorIndex := 197, attributes := #[] }, { accessFlags := 25, nameIndex := 199, descriptorIndex := 197, attributes := #[] }, { accessFlags := 25, nameIndex := 201, descriptorIndex := 197, attributes := #[] }, { accessFlags := 25, nameIndex := 203, descriptorIndex := 197, attributes := #[] }, { accessFlags := 25, nameIndex := 205, descriptorIndex := 197, attributes := #[] }, { accessFlags := 25, nameIndex := 173, descriptorIndex := 174, attributes := #[] }, { accessFlags := 18, nameIndex := 120, descriptorIndex := 121, attributes := #[] }, { accessFlags := 26, nameIndex := 209, descriptorIndex := 210, attributes := #[] }])
  fields := #[{ name := "POSITIVE_INFINITY", type := .double, accessFlags := 25, slot := 0, constantValue := 0 }, { name := "NEGATIVE_INFINITY", type := .double, accessFlags := 25, slot := 1, constantValue := 0 }, { name := "NaN", type := .double, accessFlags := 25, slot := 2, constantValue := 0 }, { name := "MAX_VALUE", type := .double, accessFlags := 25, slot := 3, constantValue := 0 }, { name := "MIN_NORMAL", type := .double, accessFlags := 25, slot := 4, constantValue := 0 }, { name := "MIN_VALUE", type := .double, accessFlags := 25, slot := 5, constantValue := 0 }, { name := "SIZE", type := .int, accessFlags := 25, slot := 6, constantValue := 0 }, { name := "PRECISION", type := .int, accessFlags := 25, slot := 7, constantValue := 0 }, { name := "MAX_EXPONENT", type := .int, accessFlags := 25, slot := 8, constantValue := 0 }, { name := "MIN_EXPONENT", type := .int, accessFlags := 25, slot := 9, constantValue := 0 }, { name := "BYTES", type := .int, accessFlags := 25, slot := 10, constantValue := 0 }, { name := "TYPE", type := (.object "java/lang/Class"), accessFlags := 25, slot := 11, constantValue := 0 }, { name := "value", type := .double, accessFlags := 18, slot := 0, constantValue := 0 }, { name := "serialVersionUID", type := .long, accessFlags := 26, slot := 12, constantValue := 0 }]
  methods := #[k8m0]
  instanceTypes := #[.double]
  staticTypes := #[.double, .double, .double, .double, .double, .double, .int, .int, .int, .int, .int, (.object "java/lang/Class"), .long]
  resolved := Array.replicate 290 none
  statics := none }

def pool9 : Array CpInfo := pool [(1, .class_ 2), (0, u "java/lang/Math"), (1, .class_ 6), (1, u "java/lang/Object"), (0, u "<init>"), (0, u "()V"), (5, u "(D)D"), (83, .class_ 100), (1, u "java/lang/Math$RandomNumberGeneratorHolder"), (23, u "abs"), (47, u "negativeZeroFloatBits"), (0, u "J"), (2, u "negativeZeroDoubleBits"), (68, u "$assertionsDisabled"), (0, u "Z"), (91, u "twoToTheDoubleScaleDown"), (0, u "D"), (4, u "twoToTheDoubleScaleUp"), (9, u "E"), (3, u "PI"), (2, u "TAU"), (2, u "DEGREES_TO_RADIANS"), (0, u "RADIANS_TO_DEGREES")] 94

def k9m0 : Method := { name := "<init>", desc := "()V", sig := { parameters := [], returnType := none }, accessFlags := 2, code := none }
def k9c1 : Code := { maxStack := 4, maxLocals := 2, code := jdk_29_method_64_code, exceptionTable := #[], attributes := #[] }
def k9m1 : Method := { name := "abs", desc := "(D)D", sig := { parameters := [.double], returnType := some .double }, accessFlags := 9, code := some k9c1 }
/-- java/lang/Math -/
def k9 : Class := { plain "java/lang/Math" (some 0) with
  accessFlags := 49
  interfaces := #[]
  cf := some (fileOf pool9 1 #[.nestMembers #[98]] #[{ accessFlags := 2, nameIndex := 7, descriptorIndex := 8, attributes := #[] }, { accessFlags := 9, nameIndex := 124, descriptorIndex := 14, attributes := #[] }] 49 4 #[] #[{ accessFlags := 25, nameIndex := 354, descriptorIndex := 339, attributes := #[] }, { accessFlags := 25, nameIndex := 358, descriptorIndex := 339, attributes := #[] }, { accessFlags := 25, nameIndex := 361, descriptorIndex := 339, attributes := #[] }, { accessFlags := 26, nameIndex := 364, descriptorIndex := 339, attributes := #[] }, { accessFlags := 26, nameIndex := 365, descriptorIndex := 339, attributes := #[] }, { accessFlags := 26, nameIndex := 172, descriptorIndex := 173, attributes := #[] }, { accessFlags := 26, nameIndex := 176, descriptorIndex := 173, attributes := #[] }, { accessFlags := 8, nameIndex := 344, descriptorIndex := 339, attributes := #[] }, { accessFlags := 8, nameIndex := 338, descriptorIndex := 339, attributes := #[] }, { accessFlags := 4120, nameIndex := 245, descriptorIndex := 246, attributes := #[] }])
  fields := #[{ name := "E", type := .double, accessFlags := 25, slot := 0, constantValue := 0 }, { name := "PI", type := .double, accessFlags := 25, slot := 1, constantValue := 0 }, { name := "TAU", type := .double, accessFlags := 25, slot := 2, constantValue := 0 }, { name := "DEGREES_TO_RADIANS", type := .double, accessFlags := 26, slot := 3, constantValue := 0 }, { name := "RADIANS_TO_DEGREES", type := .double, accessFlags := 26, slot := 4, constantValue := 0 }, { name := "negativeZeroFloatBits", type := .long, accessFlags := 26, slot := 5, constantValue := 0 }, { name := "negativeZeroDoubleBits", type := .long, accessFlags := 26, slot := 6, constantValue := 0 }, { name := "twoToTheDoubleScaleUp", type := .double, accessFlags := 8, slot := 7, constantValue := 0 }, { name := "twoToTheDoubleScaleDown", type := .double, accessFlags := 8, slot := 8, constantValue := 0 }, { name := "$assertionsDisabled", type := .boolean, accessFlags := 4120, slot := 9, constantValue := 0 }]
  methods := #[k9m0, k9m1]
  instanceTypes := #[]
  staticTypes := #[.double, .double, .double, .double, .double, .long, .long, .double, .double, .boolean]
  resolved := Array.replicate 460 none
  statics := none }

def pool10 : Array CpInfo := pool [(1, u "java/lang/Cloneable"), (0, .class_ 1), (0, u "java/lang/Object"), (0, .class_ 3)] 3

/-- java/lang/Cloneable -/
def k10 : Class := { plain "java/lang/Cloneable" (some 0) with
  accessFlags := 1537
  interfaces := #[]
  cf := some (fileOf pool10 2 #[] #[] 1537 4 #[] #[])
  fields := #[]
  methods := #[]
  instanceTypes := #[]
  staticTypes := #[]
  resolved := Array.replicate 8 none
  statics := none }

/-- the primitive byte -/
def k11 : Class := { plain "byte" none with kind := .primitive 'B', accessFlags := 0x411 }
/-- [B -/
def k12 : Class := { plain "[B" (some 0) with kind := .array 11 .byte, interfaces := #[10, 3], accessFlags := 1041 }

/-- the primitive double -/
def k13 : Class := { plain "double" none with kind := .primitive 'D', accessFlags := 0x411 }
/-- [D -/
def k14 : Class := { plain "[D" (some 0) with kind := .array 13 .double, interfaces := #[10, 3], accessFlags := 1041 }

/-- the primitive int -/
def k15 : Class := { plain "int" none with kind := .primitive 'I', accessFlags := 0x411 }
/-- [I -/
def k16 : Class := { plain "[I" (some 0) with kind := .array 15 .int, interfaces := #[10, 3], accessFlags := 1041 }

def heap : Heap := #[]
def classes : Array Class := #[k0, k1, k2, k3, k4, k5, k6, k7, k8, k9, k10, k11, k12, k13, k14, k15, k16]
def interned : List (Array UInt16 × Addr) := []
def slotsUsed : Nat := 0
def theMethod : MethodId := ⟨1, 3⟩
def args0 : Array Value := #[.int 3, .int 2, .int 5, .int 1, .int 7, .int 4]
def aboutOver (below : List Frame) : State where
  vm := { classes := classes, interned := interned.toArray }
  heap := heap
  slotsUsed := slotsUsed
  threads := #[{ frames := .invoking theMethod args0 :: below }]
def below0 : List Frame := [.native { method := ⟨0, 0⟩, args := #[] }]
def about1 : State := aboutOver below0
def p0 : Program := .bare "" "" ""
def e0 : Env := launch0.env 0 0 0
theorem w_frames : about1.frames = Frame.invoking theMethod args0 :: below0 := rfl
set_option maxRecDepth 65536 in
theorem w_args : argsFit about1.vm theMethod args0 = true := by decide +kernel
set_option maxRecDepth 65536 in
theorem w_heap : heapFits about1 = true := by decide +kernel
set_option maxRecDepth 65536 in
theorem w_runnable : about1.curStatus? = some .runnable := by decide +kernel
set_option maxRecDepth 65536 in
theorem w_alone : about1.alone = true := by decide +kernel
set_option maxRecDepth 65536 in
theorem w_named : about1.methodNamed? x = some theMethod := by decide +kernel
set_option maxRecDepth 65536 in
theorem w_hears : about1.hears theMethod below0 = true := by decide +kernel
set_option maxRecDepth 65536 in
theorem w_ripe : about1.ripe theMethod args0 below0 = true := by decide +kernel
theorem w_running : about1.status = .running := rfl
set_option maxRecDepth 65536 in
theorem w_room : about1.hasRoom e0.platform room_1 = true :=
  launch0.hasRoom_least _ room_1 (by decide +kernel) (by decide +kernel) (by decide +kernel) (by decide +kernel) (by decide +kernel) (by decide +kernel)
theorem allAtoms_all (ts : List Jvm.Cond) (a : Array Jvm.Value) (st : Jvm.State) : (allAtoms ts).before a st = ts.all (fun c => c.before a st) := by
  induction ts with
  | nil => rfl
  | cons c t ih =>
    show (Jvm.Cond.and c (allAtoms t)).before a st = _
    rw [Jvm.Cond.before_and, ih, List.all_cons]
def words1 : List Jvm.Cond := Jvm.Cond.code x code maxLocals ret :: tables_1
/-- a 'code' word, met by the world's own term for the bytes: nothing is compared byte by byte -/
theorem code_word {y : MethodName} {bytes : ByteArray} {mx : Nat} {rt : Option FieldType} {a : Array Value} {s : State} {m : MethodId} {meth : Method} {c : Code} (h1 : s.methodNamed? y = some m) (h2 : s.vm.method? m = some meth) (h3 : meth.code = some c) (h4 : c.code = bytes)
    (h5 : (c.maxLocals == mx && c.exceptionTable.isEmpty && decide (c.maxStack ≤ mostOperands) && decide (meth.sig.returnType = rt) && !meth.locks && decide (parseMethodDescriptor y.desc = some meth.sig)) = true) : (Jvm.Cond.code y bytes mx rt).before a s = true := by
  simp only [Bool.and_eq_true, beq_iff_eq, Bool.not_eq_true', decide_eq_true_eq] at h5
  obtain ⟨⟨⟨⟨⟨g1, g2⟩, g3⟩, g4⟩, g5⟩, g6⟩ := h5
  simp [Cond.before, Cond.holds, Cond.value, h1, h2, h3, h4, g1, g2, g3, g4, g5, g6]
def isCode : Jvm.Cond → Bool
  | .code _ _ _ _ => true
  | _ => false
theorem all_split {L : List Jvm.Cond} {P : Jvm.Cond → Bool} (h1 : L.all (fun c => isCode c || P c) = true) (h2 : ∀ c ∈ L.filter isCode, P c = true) : L.all P = true := by
  refine List.all_eq_true.mpr fun c hc => ?_
  have h := List.all_eq_true.mp h1 c hc
  rcases Bool.eq_false_or_eq_true (isCode c) with hi | hi
  · exact h2 c (List.mem_filter.mpr ⟨hc, hi⟩)
  · simpa [hi] using h
set_option maxRecDepth 65536 in
theorem w_c0 : (Jvm.Cond.code x code maxLocals ret).before args0 about1 = true := code_word (m := ⟨1, 3⟩) (meth := k1m3) (c := k1c3) (by decide +kernel) rfl rfl rfl (by decide +kernel)
set_option maxRecDepth 65536 in
theorem w_c1 : (Jvm.Cond.code ({ cls := "com/example/lamina3/lamina3/AffineMapCoefficientsPinLaw", name := "val", desc := "(I)D" } : Jvm.MethodName) method_2_code (3 : Nat) (Option.some Jvm.ClassFile.FieldType.double)).before args0 about1 = true := code_word (m := ⟨1, 1⟩) (meth := k1m1) (c := k1c1) (by decide +kernel) rfl rfl rfl (by decide +kernel)
set_option maxRecDepth 65536 in
theorem w_c2 : (Jvm.Cond.code ({ cls := "com/example/lamina3/lamina3/AffineMap", name := "<init>", desc := "(DDDDDD)V" } : Jvm.MethodName) prog_1_method_1_code (13 : Nat) (Option.none : Option Jvm.ClassFile.FieldType)).before args0 about1 = true := code_word (m := ⟨2, 0⟩) (meth := k2m0) (c := k2c0) (by decide +kernel) rfl rfl rfl (by decide +kernel)
set_option maxRecDepth 65536 in
theorem w_c3 : (Jvm.Cond.code ({ cls := "java/lang/Object", name := "<init>", desc := "()V" } : Jvm.MethodName) object_method_1_code (1 : Nat) (Option.none : Option Jvm.ClassFile.FieldType)).before args0 about1 = true := code_word (m := ⟨0, 0⟩) (meth := k0m0) (c := k0c0) (by decide +kernel) rfl rfl rfl (by decide +kernel)
set_option maxRecDepth 65536 in
theorem w_c4 : (Jvm.Cond.code ({ cls := "com/example/lamina3/lamina3/AffineMap", name := "allFinite", desc := "([D)Z" } : Jvm.MethodName) prog_1_method_11_code (6 : Nat) (Option.some Jvm.ClassFile.FieldType.boolean)).before args0 about1 = true := code_word (m := ⟨2, 2⟩) (meth := k2m2) (c := k2c2) (by decide +kernel) rfl rfl rfl (by decide +kernel)
set_option maxRecDepth 65536 in
theorem w_c5 : (Jvm.Cond.code ({ cls := "java/lang/Double", name := "isFinite", desc := "(D)Z" } : Jvm.MethodName) jdk_117_method_8_code (2 : Nat) (Option.some Jvm.ClassFile.FieldType.boolean)).before args0 about1 = true := code_word (m := ⟨8, 0⟩) (meth := k8m0) (c := k8c0) (by decide +kernel) rfl rfl rfl (by decide +kernel)
set_option maxRecDepth 65536 in
theorem w_c6 : (Jvm.Cond.code ({ cls := "java/lang/Math", name := "abs", desc := "(D)D" } : Jvm.MethodName) jdk_29_method_64_code (2 : Nat) (Option.some Jvm.ClassFile.FieldType.double)).before args0 about1 = true := code_word (m := ⟨9, 1⟩) (meth := k9m1) (c := k9c1) (by decide +kernel) rfl rfl rfl (by decide +kernel)
set_option maxRecDepth 65536 in
theorem w_c7 : (Jvm.Cond.code ({ cls := "com/example/lamina3/lamina3/AffineMap", name := "coefficients", desc := "()[D" } : Jvm.MethodName) prog_1_method_8_code (1 : Nat) (Option.some (Jvm.ClassFile.FieldType.array Jvm.ClassFile.FieldType.double))).before args0 about1 = true := code_word (m := ⟨2, 1⟩) (meth := k2m1) (c := k2c1) (by decide +kernel) rfl rfl rfl (by decide +kernel)
set_option maxRecDepth 65536 in
theorem w_c8 : (Jvm.Cond.code ({ cls := "com/example/lamina3/lamina3/AffineMapCoefficientsPinLaw", name := "ok", desc := "(DD)Z" } : Jvm.MethodName) method_3_code (4 : Nat) (Option.some Jvm.ClassFile.FieldType.boolean)).before args0 about1 = true := code_word (m := ⟨1, 2⟩) (meth := k1m2) (c := k1c2) (by decide +kernel) rfl rfl rfl (by decide +kernel)
def codes1 : List Jvm.Cond := [Jvm.Cond.code x code maxLocals ret, Jvm.Cond.code ({ cls := "com/example/lamina3/lamina3/AffineMapCoefficientsPinLaw", name := "val", desc := "(I)D" } : Jvm.MethodName) method_2_code (3 : Nat) (Option.some Jvm.ClassFile.FieldType.double), Jvm.Cond.code ({ cls := "com/example/lamina3/lamina3/AffineMap", name := "<init>", desc := "(DDDDDD)V" } : Jvm.MethodName) prog_1_method_1_code (13 : Nat) (Option.none : Option Jvm.ClassFile.FieldType), Jvm.Cond.code ({ cls := "java/lang/Object", name := "<init>", desc := "()V" } : Jvm.MethodName) object_method_1_code (1 : Nat) (Option.none : Option Jvm.ClassFile.FieldType), Jvm.Cond.code ({ cls := "com/example/lamina3/lamina3/AffineMap", name := "allFinite", desc := "([D)Z" } : Jvm.MethodName) prog_1_method_11_code (6 : Nat) (Option.some Jvm.ClassFile.FieldType.boolean), Jvm.Cond.code ({ cls := "java/lang/Double", name := "isFinite", desc := "(D)Z" } : Jvm.MethodName) jdk_117_method_8_code (2 : Nat) (Option.some Jvm.ClassFile.FieldType.boolean), Jvm.Cond.code ({ cls := "java/lang/Math", name := "abs", desc := "(D)D" } : Jvm.MethodName) jdk_29_method_64_code (2 : Nat) (Option.some Jvm.ClassFile.FieldType.double), Jvm.Cond.code ({ cls := "com/example/lamina3/lamina3/AffineMap", name := "coefficients", desc := "()[D" } : Jvm.MethodName) prog_1_method_8_code (1 : Nat) (Option.some (Jvm.ClassFile.FieldType.array Jvm.ClassFile.FieldType.double)), Jvm.Cond.code ({ cls := "com/example/lamina3/lamina3/AffineMapCoefficientsPinLaw", name := "ok", desc := "(DD)Z" } : Jvm.MethodName) method_3_code (4 : Nat) (Option.some Jvm.ClassFile.FieldType.boolean)]
set_option maxRecDepth 65536 in
theorem codes_eq : words1.filter isCode = codes1 := rfl
theorem w_codes : ∀ c ∈ words1.filter isCode, c.before args0 about1 = true := by
  rw [codes_eq]
  intro c hc
  simp only [codes1, List.mem_cons, List.not_mem_nil, or_false] at hc
  rcases hc with rfl | rfl | rfl | rfl | rfl | rfl | rfl | rfl | rfl
  · exact w_c0
  · exact w_c1
  · exact w_c2
  · exact w_c3
  · exact w_c4
  · exact w_c5
  · exact w_c6
  · exact w_c7
  · exact w_c8
set_option maxRecDepth 65536 in
theorem w_t1 : (words1.take 24).all (fun c => isCode c || c.before args0 about1) = true := by decide +kernel
set_option maxRecDepth 65536 in
theorem w_t2 : (words1.drop 24).all (fun c => isCode c || c.before args0 about1) = true := by decide +kernel
theorem w_tables : (allAtoms (Jvm.Cond.code x code maxLocals ret :: tables_1)).before args0 about1 = true := by
  rw [allAtoms_all]
  show words1.all (fun c => c.before args0 about1) = true
  refine all_split ?_ w_codes
  rw [← List.take_append_drop 24 words1, List.all_append, w_t1, w_t2]
  rfl
set_option maxRecDepth 65536 in
theorem w_case : (Jvm.Cond.and given_1 narrow_1).before args0 about1 = true := by decide +kernel
theorem w_applies : (headSpec (Jvm.Cond.code x code maxLocals ret :: tables_1) room_1).applies x e0.platform about1 = true :=
  (Spec.applies_iff w_frames).mpr ⟨w_running, w_runnable, w_alone, w_named, w_hears, w_ripe, w_room, w_tables⟩
theorem atStart : AtStart classFile x code maxLocals ret World_1 tables_1 room_1 Calls_1 rest_1 Pre_1 launch0 p0 e0 about1 theMethod args0 below0 :=
  ⟨lists_1, trivial, launch0.admits_env _ _ _, launch0.least_env, fairChoices_fair.cas, fairChoices_fair.clock, w_frames, w_args, w_heap, w_applies, trivial, trivial, w_case⟩
end start1
theorem witness_1 : WitnessClaimed_1 := ⟨start1.p0, start1.e0, start1.about1, start1.theMethod, start1.args0, start1.below0, start1.atStart⟩
end Jvm.Pilot.@@N@@
