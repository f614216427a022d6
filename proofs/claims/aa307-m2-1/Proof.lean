import JvmDerived
import JvmDerived.Pilot.@@N@@Statement
import JvmDerived.Pilot.@@N@@Code
set_option linter.unusedVariables false
set_option linter.unusedSimpArgs false
namespace Jvm.Own
open Sem ClassFile Op Lib Jvm.Stand Jvm.Free Jvm.LawKit Jvm.RoadKit
/-- what stays put in the walk of one body: program, environment, the state at the call, the method, its arguments, the frames below, its record and code, the state behind the entry, the entry frame -/
abbrev Dyn : Type := Program × Env × State × MethodId × Array Value × List Frame × Method × Code × State × JFrame
def Base (Z : State) (y : MethodName) (bytes : ByteArray) (mx : Nat) (rt : Option FieldType) (D : Dyn) : Prop :=
  match D with
  | (p, _, s, m, _, _, meth, c, _, _) => p.tables.exec = Jvm.exec ∧ c.code = bytes ∧ c.maxLocals = mx ∧ s.vm.findClass y.cls = some m.cls ∧ Z.Warmed39 s.vm ∧ meth.sig.returnType = rt ∧ meth.locks = false ∧ meth.name = y.name
/-- the walk has come to pc with these locals, this stack, this heap; k cells and n slots have been made -/
def Rch (l : Launch) (Z : State) (n0 : Nat) (R : Room) (y : MethodName) (bytes : ByteArray) (mx : Nat) (rt : Option FieldType) (D : Dyn) (h : Heap) (k n pc : Nat) (Ls : Array Slot) (st : List Value) : Prop :=
  Base Z y bytes mx rt D ∧
  match D with
  | (p, e, s, m, args, below, meth, c, s₁, g0) => ∃ (T : State) (locs : List Loc), Stand p l e R s m args below meth c T locs k n ∧ T.heap = h ∧ Fr n0 locs ∧ Steps p.tables e below (s₁.setTop g0) (T.setTop (mkF m pc Ls st))
/-- the body has returned v and left the heap h -/
def Don (l : Launch) (Z : State) (n0 : Nat) (R : Room) (D : Dyn) (h : Heap) (k n : Nat) (v : Option Value) : Prop :=
  match D with
  | (p, e, s, m, args, below, meth, c, s₁, g0) => ∃ (T : State) (locs : List Loc) (fs : List Frame), Stand p l e R s m args below meth c T locs k n ∧ T.heap = h ∧ Fr n0 locs ∧ Steps p.tables e below (s₁.setTop g0) (T.setFrames fs) ∧ (T.setFrames fs).heap = h ∧
      (T.setFrames fs).status = .running ∧ Ended (T.setFrames fs) below (.returned v) ∧ s.WarmedH (T.setFrames fs).vm ∧ s.sameButNew ({ T.setFrames fs with vm := s.vm } : State) locs k n
/-- a callee's contract at the heap h and the arguments as' -/
def Con (l : Launch) (Z : State) (n0 : Nat) (y : MethodName) (bytes : ByteArray) (mx : Nat) (rt : Option FieldType) (rm : Room) (as' : Array Value) (h : Heap) (Q : Option Value → Heap → Prop) : Prop :=
  ∀ ws : List Jvm.Cond, MetFree l y (head1 (Jvm.Cond.code y bytes mx rt :: ws) rm) (fun a U => a = as' ∧ Z.Warmed39 U.vm ∧ U.heap = h) (fun _ _ _ _ _ => True) (fun _ U o U' => ∃ v L, o = .returned v ∧ (Fr n0 L ∧ Q v U'.heap) ∧ FrameEnd U o U' L rm.cells rm.slots)
def ishlW (x z : Int32) : Int32 := x <<< (z &&& 31)
def ishrW (x z : Int32) : Int32 := x >>> (z &&& 31)
def iushrW (x z : Int32) : Int32 := (x.toUInt32 >>> (z &&& 31).toUInt32).toInt32
def lshlW (x : Int64) (z : Int32) : Int64 := x <<< (z &&& 0x3f).toInt64
def lshrW (x : Int64) (z : Int32) : Int64 := x >>> (z &&& 0x3f).toInt64
def lushrW (x : Int64) (z : Int32) : Int64 := (x.toUInt64 >>> (z &&& 0x3f).toInt64.toUInt64).toInt64
def lremW (x z : Int64) : Int64 := x - (x / z) * z
def i2bW (x : Int32) : Int32 := x.toInt8.toInt32
def i2cW (x : Int32) : Int32 := x.toUInt32.toUInt16.toUInt32.toInt32
def i2sW (x : Int32) : Int32 := x.toInt16.toInt32
/-- an element of an int list, by a Java index -/
def ga (L : List Int32) (j : Int32) : Int32 := L.getD j.toNatClampNeg 0
section Kit
variable {l : Launch} {Z : State} {a0 : Array Value} {n0 : Nat} {R : Room} {y : MethodName} {bytes : ByteArray} {mx : Nat} {rt : Option FieldType} {D : Dyn} {h h' : Heap} {k n pc : Nat} {Ls : Array Slot} {st : List Value}
theorem Con.enter {rm : Room} {as' : Array Value} {Q : Option Value → Heap → Prop} (hp : plainFor y = true) (ef : ∀ m, entryFrame m as' mx = mkF m 0 Ls [])
    (f : ∀ D : Dyn, Rch l Z n0 rm y bytes mx rt D h 0 0 0 Ls [] → ∃ v h', Don l Z n0 rm D h' rm.cells rm.slots v ∧ Q v h') : Con l Z n0 y bytes mx rt rm as' h Q := by
  intro ws
  refine MetFree.of_bodySF hp hisR ?_
  intro p e s m args below meth c s₁ Bd hml0 hP hK
  obtain ⟨rfl, hZ, hh⟩ := hP
  have X0 : Stand p l e rm s m args below meth c s₁ [] 0 0 := Stand.of_body Bd
  have e0 : s₁.heap = h := by rw [← hh, Bd.state]; rfl
  obtain ⟨v, h', hD, hQ⟩ := f (p, e, s, m, args, below, meth, c, s₁, mkF m 0 Ls []) ⟨⟨Bd.exec, Bd.bytes, hml0, findClass_of_methodNamed Bd.named, hZ, Bd.returns, Bd.notSynchronized, (name_of_methodNamed Bd.named Bd.method).1⟩, s₁, [], X0, e0, Fr.nil n0, Steps.refl _⟩
  obtain ⟨T, locs, fs, X, eT, N, hs, hh', hrun, hend, hW, hsame⟩ := hD
  exact ⟨_, _, castTop (ef m) hs, hrun, hend, v, locs, rfl, ⟨N, hh'.symm ▸ hQ⟩, ⟨_, rfl⟩, hW, hsame⟩
theorem Rch.go (r : Rch l Z n0 R y bytes mx rt D h k n pc Ls st) {pc' : Nat} {Ls' : Array Slot} {st' : List Value}
    (f : ∀ {p : Program} {e : Env} {s : State} {m : MethodId} {args : Array Value} {below : List Frame} {meth : Method} {c : Code} {T : State} {locs : List Loc}, Stand p l e R s m args below meth c T locs k n → p.tables.exec = Jvm.exec → c.code = bytes → Z.Warmed39 s.vm → s.vm.findClass y.cls = some m.cls → T.heap = h →
      ∀ target, Steps p.tables e below (T.setTop (mkF m pc' Ls' st')) target → Steps p.tables e below (T.setTop (mkF m pc Ls st)) target) : Rch l Z n0 R y bytes mx rt D h k n pc' Ls' st' := by
  obtain ⟨p, e, s, m, args, below, meth, c, s₁, g0⟩ := D
  obtain ⟨hB, T, locs, X, eT, N, hs⟩ := r
  exact ⟨hB, T, locs, X, eT, N, hs.trans (f X hB.1 hB.2.1 hB.2.2.2.2.1 hB.2.2.2.1 eT _ (Steps.refl _))⟩
theorem Rch.mv (r : Rch l Z n0 R y bytes mx rt D h k n pc Ls st) {k' n' pc' : Nat} {Ls' : Array Slot} {st' : Heap → List Value} {P : Heap → Prop}
    (f : ∀ {p : Program} {e : Env} {s : State} {m : MethodId} {args : Array Value} {below : List Frame} {meth : Method} {c : Code} {T : State} {locs : List Loc}, Stand p l e R s m args below meth c T locs k n → p.tables.exec = Jvm.exec → c.code = bytes → c.maxLocals = mx → meth.name = y.name → Z.Warmed39 s.vm → s.vm.findClass y.cls = some m.cls → T.heap = h → Fr n0 locs →
      ∃ (T' : State) (h' : Heap) (locs' : List Loc), Stand p l e R s m args below meth c T' locs' k' n' ∧ T'.heap = h' ∧ P h' ∧ Fr n0 locs' ∧ Steps p.tables e below (T.setTop (mkF m pc Ls st)) (T'.setTop (mkF m pc' Ls' (st' h')))) : ∃ h', P h' ∧ Rch l Z n0 R y bytes mx rt D h' k' n' pc' Ls' (st' h') := by
  obtain ⟨p, e, s, m, args, below, meth, c, s₁, g0⟩ := D
  obtain ⟨hB, T, locs, X, eT, N, hs⟩ := r
  obtain ⟨T', h', locs', X', eT', hP, N', hs'⟩ := f X hB.1 hB.2.1 hB.2.2.1 hB.2.2.2.2.2.2.2 hB.2.2.2.2.1 hB.2.2.2.1 eT N
  exact ⟨h', hP, hB, T', locs', X', eT', N', hs.trans hs'⟩
theorem Rch.more (r : Rch l Z n0 R y bytes mx rt D h k n pc Ls st) {k' n' : Nat} (hk : k ≤ k') (hn : n ≤ n') : Rch l Z n0 R y bytes mx rt D h k' n' pc Ls st := by
  obtain ⟨p, e, s, m, args, below, meth, c, s₁, g0⟩ := D
  obtain ⟨hB, T, locs, X, eT, N, hs⟩ := r
  exact ⟨hB, T, locs, X.more hk hn, eT, N, hs⟩
theorem aload {i : Nat} {v : Value} (r : Rch l Z n0 R y bytes mx rt D h k n pc Ls st) (hd : decode bytes pc = .ok (.aload i, 2)) (hl : Ls[i]? = some (.val v)) (hv : v.isRef = true) : Rch l Z n0 R y bytes mx rt D h k n (pc + 2) Ls (v :: st) := r.go fun X hx b _ _ _ t q => XS.aload X.here hx rfl (hb b hd) hl hv q
theorem aloadN {i : Fin 4} {v : Value} (r : Rch l Z n0 R y bytes mx rt D h k n pc Ls st) (hd : decode bytes pc = .ok (.aload_n i, 1)) (hl : Ls[i.val]? = some (.val v)) (hv : v.isRef = true) : Rch l Z n0 R y bytes mx rt D h k n (pc + 1) Ls (v :: st) := r.go fun X hx b _ _ _ t q => XS.aloadN X.here hx rfl (hb b hd) hl hv q
theorem iload {i : Nat} {v : Int32} (r : Rch l Z n0 R y bytes mx rt D h k n pc Ls st) (hd : decode bytes pc = .ok (.iload i, 2)) (hl : Ls[i]? = some (.val (.int v))) : Rch l Z n0 R y bytes mx rt D h k n (pc + 2) Ls (.int v :: st) := r.go fun X hx b _ _ _ t q => XS.iload X.here hx rfl (hb b hd) hl q
theorem iloadN {i : Fin 4} {v : Int32} (r : Rch l Z n0 R y bytes mx rt D h k n pc Ls st) (hd : decode bytes pc = .ok (.iload_n i, 1)) (hl : Ls[i.val]? = some (.val (.int v))) : Rch l Z n0 R y bytes mx rt D h k n (pc + 1) Ls (.int v :: st) := r.go fun X hx b _ _ _ t q => XS.iloadN X.here hx rfl (hb b hd) hl q
theorem lload {i : Nat} {v : Int64} (r : Rch l Z n0 R y bytes mx rt D h k n pc Ls st) (hd : decode bytes pc = .ok (.lload i, 2)) (hl : Ls[i]? = some (.val (.long v))) : Rch l Z n0 R y bytes mx rt D h k n (pc + 2) Ls (.long v :: st) := r.go fun X hx b _ _ _ t q => XS.lload X.here hx rfl (hb b hd) hl q
theorem lloadN {i : Fin 4} {v : Int64} (r : Rch l Z n0 R y bytes mx rt D h k n pc Ls st) (hd : decode bytes pc = .ok (.lload_n i, 1)) (hl : Ls[i.val]? = some (.val (.long v))) : Rch l Z n0 R y bytes mx rt D h k n (pc + 1) Ls (.long v :: st) := r.go fun X hx b _ _ _ t q => XS.lloadN X.here hx rfl (hb b hd) hl q
theorem istore {x : Int32} {i : Nat} {L' : Array Slot} (r : Rch l Z n0 R y bytes mx rt D h k n pc Ls (.int x :: st)) (hd : decode bytes pc = .ok (.istore i, 2)) (hl : storeLocals Ls i (.int x) = some L') : Rch l Z n0 R y bytes mx rt D h k n (pc + 2) L' st := r.go fun X hx b _ _ _ t q => XS.istore X.here hx rfl (hb b hd) rfl hl q
theorem istoreN {x : Int32} {i : Fin 4} {L' : Array Slot} (r : Rch l Z n0 R y bytes mx rt D h k n pc Ls (.int x :: st)) (hd : decode bytes pc = .ok (.istore_n i, 1)) (hl : storeLocals Ls i.val (.int x) = some L') : Rch l Z n0 R y bytes mx rt D h k n (pc + 1) L' st := r.go fun X hx b _ _ _ t q => XS.istoreN X.here hx rfl (hb b hd) rfl hl q
theorem lstore {x : Int64} {i : Nat} {L' : Array Slot} (r : Rch l Z n0 R y bytes mx rt D h k n pc Ls (.long x :: st)) (hd : decode bytes pc = .ok (.lstore i, 2)) (hl : storeLocals Ls i (.long x) = some L') : Rch l Z n0 R y bytes mx rt D h k n (pc + 2) L' st := r.go fun X hx b _ _ _ t q => XS.lstore X.here hx rfl (hb b hd) rfl hl q
theorem lstoreN {x : Int64} {i : Fin 4} {L' : Array Slot} (r : Rch l Z n0 R y bytes mx rt D h k n pc Ls (.long x :: st)) (hd : decode bytes pc = .ok (.lstore_n i, 1)) (hl : storeLocals Ls i.val (.long x) = some L') : Rch l Z n0 R y bytes mx rt D h k n (pc + 1) L' st := r.go fun X hx b _ _ _ t q => XS.lstoreN X.here hx rfl (hb b hd) rfl hl q
theorem astore {x : Value} {i : Nat} {L' : Array Slot} (r : Rch l Z n0 R y bytes mx rt D h k n pc Ls (x :: st)) (hd : decode bytes pc = .ok (.astore i, 2)) (hv : x.isRef = true) (hl : storeLocals Ls i x = some L') : Rch l Z n0 R y bytes mx rt D h k n (pc + 2) L' st := r.go fun X hx b _ _ _ t q => XS.astore X.here hx rfl (hb b hd) rfl hv hl q
theorem astoreN {x : Value} {i : Fin 4} {L' : Array Slot} (r : Rch l Z n0 R y bytes mx rt D h k n pc Ls (x :: st)) (hd : decode bytes pc = .ok (.astore_n i, 1)) (hv : x.isRef = true) (hl : storeLocals Ls i.val x = some L') : Rch l Z n0 R y bytes mx rt D h k n (pc + 1) L' st := r.go fun X hx b _ _ _ t q => XS.astoreN X.here hx rfl (hb b hd) rfl hv hl q
theorem iconst {i : Int} {v : Int32} (r : Rch l Z n0 R y bytes mx rt D h k n pc Ls st) (hd : decode bytes pc = .ok (.iconst i, 1)) (hv : Int32.ofInt i = v) : Rch l Z n0 R y bytes mx rt D h k n (pc + 1) Ls (.int v :: st) := by subst hv; exact r.go fun X hx b _ _ _ t q => XS.iconst X.here hx rfl (hb b hd) q
theorem bipush {i : Int} {v : Int32} (r : Rch l Z n0 R y bytes mx rt D h k n pc Ls st) (hd : decode bytes pc = .ok (.bipush i, 2)) (hv : (Int8.ofInt i).toInt32 = v) : Rch l Z n0 R y bytes mx rt D h k n (pc + 2) Ls (.int v :: st) := by subst hv; exact r.go fun X hx b _ _ _ t q => XS.bipush X.here hx rfl (hb b hd) q
theorem sipush {i : Int} {v : Int32} (r : Rch l Z n0 R y bytes mx rt D h k n pc Ls st) (hd : decode bytes pc = .ok (.sipush i, 3)) (hv : (Int16.ofInt i).toInt32 = v) : Rch l Z n0 R y bytes mx rt D h k n (pc + 3) Ls (.int v :: st) := by subst hv; exact r.go fun X hx b _ _ _ t q => XS.sipush X.here hx rfl (hb b hd) q
theorem lconst {i : Fin 2} {v : Int64} (r : Rch l Z n0 R y bytes mx rt D h k n pc Ls st) (hd : decode bytes pc = .ok (.lconst i, 1)) (hv : Int64.ofNat i = v) : Rch l Z n0 R y bytes mx rt D h k n (pc + 1) Ls (.long v :: st) := by subst hv; exact r.go fun X hx b _ _ _ t q => XT.lconst X.here hx rfl (hb b hd) q
theorem aconstNull (r : Rch l Z n0 R y bytes mx rt D h k n pc Ls st) (hd : decode bytes pc = .ok (.aconst_null, 1)) : Rch l Z n0 R y bytes mx rt D h k n (pc + 1) Ls (.null :: st) := r.go fun X hx b _ _ _ t q => XS.aconstNull X.here hx rfl (hb b hd) q
theorem dup {x : Value} (r : Rch l Z n0 R y bytes mx rt D h k n pc Ls (x :: st)) (hd : decode bytes pc = .ok (.dup, 1)) (hc : x.category = 1) : Rch l Z n0 R y bytes mx rt D h k n (pc + 1) Ls (x :: x :: st) := r.go fun X hx b _ _ _ t q => XS.dup X.here hx rfl (hb b hd) rfl hc q
theorem pop {x : Value} (r : Rch l Z n0 R y bytes mx rt D h k n pc Ls (x :: st)) (hd : decode bytes pc = .ok (.pop, 1)) (hc : x.category = 1) : Rch l Z n0 R y bytes mx rt D h k n (pc + 1) Ls st := r.go fun X hx b _ _ _ t q => XS.pop X.here hx rfl (hb b hd) rfl hc q
theorem dupX1 {x z : Value} (r : Rch l Z n0 R y bytes mx rt D h k n pc Ls (x :: z :: st)) (hd : decode bytes pc = .ok (.dup_x1, 1)) (hc : x.category = 1) (hc2 : z.category = 1) : Rch l Z n0 R y bytes mx rt D h k n (pc + 1) Ls (x :: z :: x :: st) := r.go fun X hx b _ _ _ t q => XS.dupX1 X.here hx rfl (hb b hd) rfl hc hc2 q
theorem dup2 {x z : Value} (r : Rch l Z n0 R y bytes mx rt D h k n pc Ls (x :: z :: st)) (hd : decode bytes pc = .ok (.dup2, 1)) (hc : x.category = 1) (hc2 : z.category = 1) : Rch l Z n0 R y bytes mx rt D h k n (pc + 1) Ls (x :: z :: x :: z :: st) := r.go fun X hx b _ _ _ t q => XT.dup2 X.here hx rfl (hb b hd) rfl hc hc2 q
theorem dup2L {x : Int64} (r : Rch l Z n0 R y bytes mx rt D h k n pc Ls (.long x :: st)) (hd : decode bytes pc = .ok (.dup2, 1)) : Rch l Z n0 R y bytes mx rt D h k n (pc + 1) Ls (.long x :: .long x :: st) := r.go fun X hx b _ _ _ t q => XT.dup2L X.here hx rfl (hb b hd) rfl q
theorem iadd {x z : Int32} (r : Rch l Z n0 R y bytes mx rt D h k n pc Ls (.int z :: .int x :: st)) (hd : decode bytes pc = .ok (.iadd, 1)) : Rch l Z n0 R y bytes mx rt D h k n (pc + 1) Ls (.int (x + z) :: st) := r.go fun X hx b _ _ _ t q => XS.iadd X.here hx rfl (hb b hd) rfl q
theorem isub {x z : Int32} (r : Rch l Z n0 R y bytes mx rt D h k n pc Ls (.int z :: .int x :: st)) (hd : decode bytes pc = .ok (.isub, 1)) : Rch l Z n0 R y bytes mx rt D h k n (pc + 1) Ls (.int (x - z) :: st) := r.go fun X hx b _ _ _ t q => XS.isub X.here hx rfl (hb b hd) rfl q
theorem imul {x z : Int32} (r : Rch l Z n0 R y bytes mx rt D h k n pc Ls (.int z :: .int x :: st)) (hd : decode bytes pc = .ok (.imul, 1)) : Rch l Z n0 R y bytes mx rt D h k n (pc + 1) Ls (.int (x * z) :: st) := r.go fun X hx b _ _ _ t q => XS.imul X.here hx rfl (hb b hd) rfl q
theorem iand {x z : Int32} (r : Rch l Z n0 R y bytes mx rt D h k n pc Ls (.int z :: .int x :: st)) (hd : decode bytes pc = .ok (.iand, 1)) : Rch l Z n0 R y bytes mx rt D h k n (pc + 1) Ls (.int (x &&& z) :: st) := r.go fun X hx b _ _ _ t q => XS.iand X.here hx rfl (hb b hd) rfl q
theorem ior {x z : Int32} (r : Rch l Z n0 R y bytes mx rt D h k n pc Ls (.int z :: .int x :: st)) (hd : decode bytes pc = .ok (.ior, 1)) : Rch l Z n0 R y bytes mx rt D h k n (pc + 1) Ls (.int (x ||| z) :: st) := r.go fun X hx b _ _ _ t q => XS.ior X.here hx rfl (hb b hd) rfl q
theorem ixor {x z : Int32} (r : Rch l Z n0 R y bytes mx rt D h k n pc Ls (.int z :: .int x :: st)) (hd : decode bytes pc = .ok (.ixor, 1)) : Rch l Z n0 R y bytes mx rt D h k n (pc + 1) Ls (.int (x ^^^ z) :: st) := r.go fun X hx b _ _ _ t q => XS.ixor X.here hx rfl (hb b hd) rfl q
theorem ishl {x z : Int32} (r : Rch l Z n0 R y bytes mx rt D h k n pc Ls (.int z :: .int x :: st)) (hd : decode bytes pc = .ok (.ishl, 1)) : Rch l Z n0 R y bytes mx rt D h k n (pc + 1) Ls (.int (ishlW x z) :: st) := r.go fun X hx b _ _ _ t q => XS.ishl X.here hx rfl (hb b hd) rfl q
theorem ishr {x z : Int32} (r : Rch l Z n0 R y bytes mx rt D h k n pc Ls (.int z :: .int x :: st)) (hd : decode bytes pc = .ok (.ishr, 1)) : Rch l Z n0 R y bytes mx rt D h k n (pc + 1) Ls (.int (ishrW x z) :: st) := r.go fun X hx b _ _ _ t q => XS.ishr X.here hx rfl (hb b hd) rfl q
theorem iushr {x z : Int32} (r : Rch l Z n0 R y bytes mx rt D h k n pc Ls (.int z :: .int x :: st)) (hd : decode bytes pc = .ok (.iushr, 1)) : Rch l Z n0 R y bytes mx rt D h k n (pc + 1) Ls (.int (iushrW x z) :: st) := r.go fun X hx b _ _ _ t q => XS.iushr X.here hx rfl (hb b hd) rfl q
theorem idiv {x z : Int32} (r : Rch l Z n0 R y bytes mx rt D h k n pc Ls (.int z :: .int x :: st)) (hd : decode bytes pc = .ok (.idiv, 1)) (hz : z ≠ 0) : Rch l Z n0 R y bytes mx rt D h k n (pc + 1) Ls (.int (x / z) :: st) := r.go fun X hx b _ _ _ t q => XS.idiv X.here hx rfl (hb b hd) rfl hz q
theorem irem {x z : Int32} (r : Rch l Z n0 R y bytes mx rt D h k n pc Ls (.int z :: .int x :: st)) (hd : decode bytes pc = .ok (.irem, 1)) (hz : z ≠ 0) : Rch l Z n0 R y bytes mx rt D h k n (pc + 1) Ls (.int (x % z) :: st) := r.go fun X hx b _ _ _ t q => iremM X hx rfl (hb b hd) rfl hz q
theorem ineg {x : Int32} (r : Rch l Z n0 R y bytes mx rt D h k n pc Ls (.int x :: st)) (hd : decode bytes pc = .ok (.ineg, 1)) : Rch l Z n0 R y bytes mx rt D h k n (pc + 1) Ls (.int (-x) :: st) := r.go fun X hx b _ _ _ t q => XS.ineg X.here hx rfl (hb b hd) rfl q
theorem ladd {x z : Int64} (r : Rch l Z n0 R y bytes mx rt D h k n pc Ls (.long z :: .long x :: st)) (hd : decode bytes pc = .ok (.ladd, 1)) : Rch l Z n0 R y bytes mx rt D h k n (pc + 1) Ls (.long (x + z) :: st) := r.go fun X hx b _ _ _ t q => XS.ladd X.here hx rfl (hb b hd) rfl q
theorem lsub {x z : Int64} (r : Rch l Z n0 R y bytes mx rt D h k n pc Ls (.long z :: .long x :: st)) (hd : decode bytes pc = .ok (.lsub, 1)) : Rch l Z n0 R y bytes mx rt D h k n (pc + 1) Ls (.long (x - z) :: st) := r.go fun X hx b _ _ _ t q => XS.lsub X.here hx rfl (hb b hd) rfl q
theorem lmul {x z : Int64} (r : Rch l Z n0 R y bytes mx rt D h k n pc Ls (.long z :: .long x :: st)) (hd : decode bytes pc = .ok (.lmul, 1)) : Rch l Z n0 R y bytes mx rt D h k n (pc + 1) Ls (.long (x * z) :: st) := r.go fun X hx b _ _ _ t q => XS.lmul X.here hx rfl (hb b hd) rfl q
theorem land {x z : Int64} (r : Rch l Z n0 R y bytes mx rt D h k n pc Ls (.long z :: .long x :: st)) (hd : decode bytes pc = .ok (.land, 1)) : Rch l Z n0 R y bytes mx rt D h k n (pc + 1) Ls (.long (x &&& z) :: st) := r.go fun X hx b _ _ _ t q => XS.land X.here hx rfl (hb b hd) rfl q
theorem lor {x z : Int64} (r : Rch l Z n0 R y bytes mx rt D h k n pc Ls (.long z :: .long x :: st)) (hd : decode bytes pc = .ok (.lor, 1)) : Rch l Z n0 R y bytes mx rt D h k n (pc + 1) Ls (.long (x ||| z) :: st) := r.go fun X hx b _ _ _ t q => XS.lor X.here hx rfl (hb b hd) rfl q
theorem lxor {x z : Int64} (r : Rch l Z n0 R y bytes mx rt D h k n pc Ls (.long z :: .long x :: st)) (hd : decode bytes pc = .ok (.lxor, 1)) : Rch l Z n0 R y bytes mx rt D h k n (pc + 1) Ls (.long (x ^^^ z) :: st) := r.go fun X hx b _ _ _ t q => XS.lxor X.here hx rfl (hb b hd) rfl q
theorem ldiv {x z : Int64} (r : Rch l Z n0 R y bytes mx rt D h k n pc Ls (.long z :: .long x :: st)) (hd : decode bytes pc = .ok (.ldiv, 1)) (hz : z ≠ 0) : Rch l Z n0 R y bytes mx rt D h k n (pc + 1) Ls (.long (x / z) :: st) := r.go fun X hx b _ _ _ t q => XS.ldiv X.here hx rfl (hb b hd) rfl hz q
theorem lrem {x z : Int64} (r : Rch l Z n0 R y bytes mx rt D h k n pc Ls (.long z :: .long x :: st)) (hd : decode bytes pc = .ok (.lrem, 1)) (hz : z ≠ 0) : Rch l Z n0 R y bytes mx rt D h k n (pc + 1) Ls (.long (lremW x z) :: st) := r.go fun X hx b _ _ _ t q => XS.lrem X.here hx rfl (hb b hd) rfl hz q
theorem lcmp {x z : Int64} (r : Rch l Z n0 R y bytes mx rt D h k n pc Ls (.long z :: .long x :: st)) (hd : decode bytes pc = .ok (.lcmp, 1)) : Rch l Z n0 R y bytes mx rt D h k n (pc + 1) Ls (.int (XT.cmpL x z) :: st) := r.go fun X hx b _ _ _ t q => XT.lcmp X.here hx rfl (hb b hd) rfl q
theorem lneg {x : Int64} (r : Rch l Z n0 R y bytes mx rt D h k n pc Ls (.long x :: st)) (hd : decode bytes pc = .ok (.lneg, 1)) : Rch l Z n0 R y bytes mx rt D h k n (pc + 1) Ls (.long (-x) :: st) := r.go fun X hx b _ _ _ t q => XS.lneg X.here hx rfl (hb b hd) rfl q
theorem lshl {x : Int64} {z : Int32} (r : Rch l Z n0 R y bytes mx rt D h k n pc Ls (.int z :: .long x :: st)) (hd : decode bytes pc = .ok (.lshl, 1)) : Rch l Z n0 R y bytes mx rt D h k n (pc + 1) Ls (.long (lshlW x z) :: st) := r.go fun X hx b _ _ _ t q => XS.lshl X.here hx rfl (hb b hd) rfl q
theorem lshr {x : Int64} {z : Int32} (r : Rch l Z n0 R y bytes mx rt D h k n pc Ls (.int z :: .long x :: st)) (hd : decode bytes pc = .ok (.lshr, 1)) : Rch l Z n0 R y bytes mx rt D h k n (pc + 1) Ls (.long (lshrW x z) :: st) := r.go fun X hx b _ _ _ t q => XS.lshr X.here hx rfl (hb b hd) rfl q
theorem lushr {x : Int64} {z : Int32} (r : Rch l Z n0 R y bytes mx rt D h k n pc Ls (.int z :: .long x :: st)) (hd : decode bytes pc = .ok (.lushr, 1)) : Rch l Z n0 R y bytes mx rt D h k n (pc + 1) Ls (.long (lushrW x z) :: st) := r.go fun X hx b _ _ _ t q => XS.lushr X.here hx rfl (hb b hd) rfl q
theorem i2l {x : Int32} (r : Rch l Z n0 R y bytes mx rt D h k n pc Ls (.int x :: st)) (hd : decode bytes pc = .ok (.i2l, 1)) : Rch l Z n0 R y bytes mx rt D h k n (pc + 1) Ls (.long x.toInt64 :: st) := r.go fun X hx b _ _ _ t q => XS.i2l X.here hx rfl (hb b hd) rfl q
theorem l2i {x : Int64} (r : Rch l Z n0 R y bytes mx rt D h k n pc Ls (.long x :: st)) (hd : decode bytes pc = .ok (.l2i, 1)) : Rch l Z n0 R y bytes mx rt D h k n (pc + 1) Ls (.int x.toInt32 :: st) := r.go fun X hx b _ _ _ t q => XS.l2i X.here hx rfl (hb b hd) rfl q
theorem i2b {x : Int32} (r : Rch l Z n0 R y bytes mx rt D h k n pc Ls (.int x :: st)) (hd : decode bytes pc = .ok (.i2b, 1)) : Rch l Z n0 R y bytes mx rt D h k n (pc + 1) Ls (.int (i2bW x) :: st) := r.go fun X hx b _ _ _ t q => XS.i2b X.here hx rfl (hb b hd) rfl q
theorem i2c {x : Int32} (r : Rch l Z n0 R y bytes mx rt D h k n pc Ls (.int x :: st)) (hd : decode bytes pc = .ok (.i2c, 1)) : Rch l Z n0 R y bytes mx rt D h k n (pc + 1) Ls (.int (i2cW x) :: st) := r.go fun X hx b _ _ _ t q => XS.i2c X.here hx rfl (hb b hd) rfl q
theorem i2s {x : Int32} (r : Rch l Z n0 R y bytes mx rt D h k n pc Ls (.int x :: st)) (hd : decode bytes pc = .ok (.i2s, 1)) : Rch l Z n0 R y bytes mx rt D h k n (pc + 1) Ls (.int (i2sW x) :: st) := r.go fun X hx b _ _ _ t q => XS.i2s X.here hx rfl (hb b hd) rfl q
theorem iinc {i : Nat} {cst : Int} {x v : Int32} {L' : Array Slot} (r : Rch l Z n0 R y bytes mx rt D h k n pc Ls st) (hd : decode bytes pc = .ok (.iinc i cst, 3)) (hl : Ls[i]? = some (.val (.int x))) (hv : Int32.ofInt cst = v) (hl' : storeLocals Ls i (.int (x + v)) = some L') : Rch l Z n0 R y bytes mx rt D h k n (pc + 3) L' st := by subst hv; exact r.go fun X hx b _ _ _ t q => XS.iinc X.here hx rfl (hb b hd) hl hl' q
theorem istoreS {x : Int32} {i : Nat} {o : Slot} (r : Rch l Z n0 R y bytes mx rt D h k n pc Ls (.int x :: st)) (hd : decode bytes pc = .ok (.istore i, 2)) (hold : Ls[i]? = some o) (ho : o = .unset ∨ ∃ w, o = .val w ∧ w.category = 1) : Rch l Z n0 R y bytes mx rt D h k n (pc + 2) (Ls.setIfInBounds i (.val (.int x))) st := r.go fun X hx b _ _ _ t q => XS.istoreS X.here hx rfl (hb b hd) rfl hold ho q
theorem istoreNS {x : Int32} {i : Fin 4} {o : Slot} (r : Rch l Z n0 R y bytes mx rt D h k n pc Ls (.int x :: st)) (hd : decode bytes pc = .ok (.istore_n i, 1)) (hold : Ls[i.val]? = some o) (ho : o = .unset ∨ ∃ w, o = .val w ∧ w.category = 1) : Rch l Z n0 R y bytes mx rt D h k n (pc + 1) (Ls.setIfInBounds i.val (.val (.int x))) st := r.go fun X hx b _ _ _ t q => XS.istoreNS X.here hx rfl (hb b hd) rfl hold ho q
theorem astoreS {x : Value} {i : Nat} {o : Slot} (r : Rch l Z n0 R y bytes mx rt D h k n pc Ls (x :: st)) (hd : decode bytes pc = .ok (.astore i, 2)) (hv : x.isRef = true) (hold : Ls[i]? = some o) (ho : o = .unset ∨ ∃ w, o = .val w ∧ w.category = 1) : Rch l Z n0 R y bytes mx rt D h k n (pc + 2) (Ls.setIfInBounds i (.val x)) st := r.go fun X hx b _ _ _ t q => XS.astoreS X.here hx rfl (hb b hd) rfl hv (XT.cat1 hv) hold ho q
theorem astoreNS {x : Value} {i : Fin 4} {o : Slot} (r : Rch l Z n0 R y bytes mx rt D h k n pc Ls (x :: st)) (hd : decode bytes pc = .ok (.astore_n i, 1)) (hv : x.isRef = true) (hold : Ls[i.val]? = some o) (ho : o = .unset ∨ ∃ w, o = .val w ∧ w.category = 1) : Rch l Z n0 R y bytes mx rt D h k n (pc + 1) (Ls.setIfInBounds i.val (.val x)) st := r.go fun X hx b _ _ _ t q => XT.astoreNS X.here hx rfl (hb b hd) rfl hv (XT.cat1 hv) hold ho q
/-! branches -/
theorem goto {o : Int} {pc' : Nat} (r : Rch l Z n0 R y bytes mx rt D h k n pc Ls st) (hd : decode bytes pc = .ok (.goto o, 3)) (ho : 0 ≤ (pc : Int) + o) (hp : ((pc : Int) + o).toNat = pc') : Rch l Z n0 R y bytes mx rt D h k n pc' Ls st := r.go fun X hx b _ _ _ t q => XS.goto X.here hx rfl (pc0 := pc) rfl (hb b hd) ho hp q
theorem ifYes {cd : ClassFile.Cond} {x : Int32} {o : Int} {pc' : Nat} (r : Rch l Z n0 R y bytes mx rt D h k n pc Ls (.int x :: st)) (hd : decode bytes pc = .ok (.ifCond cd o, 3)) (hc : ifCond.holds cd x = true) (ho : 0 ≤ (pc : Int) + o) (hp : ((pc : Int) + o).toNat = pc') : Rch l Z n0 R y bytes mx rt D h k n pc' Ls st := r.go fun X hx b _ _ _ t q => XS.ifYes X.here hx rfl (pc0 := pc) rfl (hb b hd) rfl hc ho hp q
theorem ifNo {cd : ClassFile.Cond} {x : Int32} {o : Int} (r : Rch l Z n0 R y bytes mx rt D h k n pc Ls (.int x :: st)) (hd : decode bytes pc = .ok (.ifCond cd o, 3)) (hc : ifCond.holds cd x = false) : Rch l Z n0 R y bytes mx rt D h k n (pc + 3) Ls st := r.go fun X hx b _ _ _ t q => XS.ifNo X.here hx rfl (hb b hd) rfl hc q
theorem icmpYes {cd : ClassFile.Cond} {x z : Int32} {o : Int} {pc' : Nat} (r : Rch l Z n0 R y bytes mx rt D h k n pc Ls (.int z :: .int x :: st)) (hd : decode bytes pc = .ok (.if_icmp cd o, 3)) (hc : if_icmp.holds cd x z = true) (ho : 0 ≤ (pc : Int) + o) (hp : ((pc : Int) + o).toNat = pc') : Rch l Z n0 R y bytes mx rt D h k n pc' Ls st := r.go fun X hx b _ _ _ t q => XS.icmpYes X.here hx rfl (pc0 := pc) rfl (hb b hd) rfl hc ho hp q
theorem icmpNo {cd : ClassFile.Cond} {x z : Int32} {o : Int} (r : Rch l Z n0 R y bytes mx rt D h k n pc Ls (.int z :: .int x :: st)) (hd : decode bytes pc = .ok (.if_icmp cd o, 3)) (hc : if_icmp.holds cd x z = false) : Rch l Z n0 R y bytes mx rt D h k n (pc + 3) Ls st := r.go fun X hx b _ _ _ t q => XS.icmpNo X.here hx rfl (hb b hd) rfl hc q
theorem ifnullYes {o : Int} {pc' : Nat} (r : Rch l Z n0 R y bytes mx rt D h k n pc Ls (.null :: st)) (hd : decode bytes pc = .ok (.ifnull o, 3)) (ho : 0 ≤ (pc : Int) + o) (hp : ((pc : Int) + o).toNat = pc') : Rch l Z n0 R y bytes mx rt D h k n pc' Ls st := r.go fun X hx b _ _ _ t q => XS.ifnullYes X.here hx rfl (pc0 := pc) rfl (hb b hd) rfl ho hp q
theorem ifnullNo {o : Int} {a : Addr} (r : Rch l Z n0 R y bytes mx rt D h k n pc Ls (.ref a :: st)) (hd : decode bytes pc = .ok (.ifnull o, 3)) : Rch l Z n0 R y bytes mx rt D h k n (pc + 3) Ls st := r.go fun X hx b _ _ _ t q => XS.ifnullNo X.here hx rfl (hb b hd) rfl q
theorem ifnonnullYes {o : Int} {a : Addr} {pc' : Nat} (r : Rch l Z n0 R y bytes mx rt D h k n pc Ls (.ref a :: st)) (hd : decode bytes pc = .ok (.ifnonnull o, 3)) (ho : 0 ≤ (pc : Int) + o) (hp : ((pc : Int) + o).toNat = pc') : Rch l Z n0 R y bytes mx rt D h k n pc' Ls st := r.go fun X hx b _ _ _ t q => XS.ifnonnullYes X.here hx rfl (pc0 := pc) rfl (hb b hd) rfl ho hp q
theorem ifnonnullNo {o : Int} (r : Rch l Z n0 R y bytes mx rt D h k n pc Ls (.null :: st)) (hd : decode bytes pc = .ok (.ifnonnull o, 3)) : Rch l Z n0 R y bytes mx rt D h k n (pc + 3) Ls st := r.go fun X hx b _ _ _ t q => XS.ifnonnullNo X.here hx rfl (hb b hd) rfl q
theorem acmp {cd : ClassFile.ACond} {x z : Value} {o : Int} {pc' : Nat} {same : Bool} (r : Rch l Z n0 R y bytes mx rt D h k n pc Ls (z :: x :: st)) (hd : decode bytes pc = .ok (.if_acmp cd o, 3)) (h1 : x.isRef = true) (h2 : z.isRef = true) (hq : decide (x = z) = same) (ho : 0 ≤ (pc : Int) + o) (hp : pc' = if acV cd same = true then ((pc : Int) + o).toNat else pc + 3) : Rch l Z n0 R y bytes mx rt D h k n pc' Ls st := r.go fun X hx b _ _ _ t q => Jvm.RoadKit.acmp X hx rfl h1 h2 (pc0 := pc) rfl (hb b hd) rfl hq ho hp q
/-! constants, fields, new cells -/
theorem ldcI {index : Nat} {v : Int32} (r : Rch l Z n0 R y bytes mx rt D h k n pc Ls st) (hd : decode bytes pc = .ok (.ldc index, 2)) (w : (Jvm.Cond.constant y.cls index v).before a0 Z = true) : Rch l Z n0 R y bytes mx rt D h k n (pc + 2) Ls (.int v :: st) := r.go fun X hx b hZ ho _ t q => X.ldcInt hx ho (mvT hZ w) (g := mkF _ pc Ls st) rfl (hb b hd) t q
theorem ldcJ {index : Nat} {v : Int64} (r : Rch l Z n0 R y bytes mx rt D h k n pc Ls st) (hd : decode bytes pc = .ok (.ldc2_w index, 3)) (w : (Jvm.Cond.constantLong y.cls index v).before a0 Z = true) : Rch l Z n0 R y bytes mx rt D h k n (pc + 3) Ls (.long v :: st) := r.go fun X hx b hZ ho _ t q => X.ldc2Long hx ho (mvT hZ w) (g := mkF _ pc Ls st) rfl (hb b hd) t q
theorem ldcWI {index : Nat} {v : Int32} (r : Rch l Z n0 R y bytes mx rt D h k n pc Ls st) (hd : decode bytes pc = .ok (.ldc_w index, 3)) (w : (Jvm.Cond.constant y.cls index v).before a0 Z = true) : Rch l Z n0 R y bytes mx rt D h k n (pc + 3) Ls (.int v :: st) := r.go fun X hx b hZ ho _ t q => X.ldcwInt hx ho (mvT hZ w) (g := mkF _ pc Ls st) rfl (hb b hd) t q
theorem getfield {R0 O nm d host : String} {index : Nat} {a : Addr} {v : Value} (r : Rch l Z n0 R y bytes mx rt D h k n pc Ls (.ref a :: st)) (hd : decode bytes pc = .ok (.getfield index, 3)) (w : (Jvm.Cond.fieldLink y.cls index R0 nm d).before a0 Z = true ∨ (Jvm.Cond.fieldLinkNest y.cls index R0 nm d host).before a0 Z = true) (via : Via Z R0 O nm d) (F : Fld Z h a O nm d v) : Rch l Z n0 R y bytes mx rt D h k n (pc + 3) Ls (v :: st) := by
  obtain ⟨h', rfl, r'⟩ := r.mv (P := fun h' => h = h') (st' := fun _ => v :: st) (k' := k) (n' := n) (pc' := pc + 3) (Ls' := Ls) fun X hx b _ _ hZ ho eT N => by
    obtain ⟨T', X', e', s'⟩ := getF X hx hZ ho w via eT F (g := mkF _ pc Ls (.ref a :: st)) rfl rfl (hb b hd)
    exact ⟨T', h, _, X', e', rfl, N, s' _ (Steps.refl _)⟩
  exact r'
theorem getstatic {R0 O nm d : String} {index : Nat} {v : Value} (r : Rch l Z n0 R y bytes mx rt D h k n pc Ls st) (hd : decode bytes pc = .ok (.getstatic index, 3)) (w : (Jvm.Cond.fieldLink y.cls index R0 nm d).before a0 Z = true) (via : Via Z R0 O nm d) (F : Sta Z h O nm d v) : Rch l Z n0 R y bytes mx rt D h k n (pc + 3) Ls (v :: st) := by
  obtain ⟨h', rfl, r'⟩ := r.mv (P := fun h' => h = h') (st' := fun _ => v :: st) (k' := k) (n' := n) (pc' := pc + 3) (Ls' := Ls) fun X hx b _ _ hZ ho eT N => by
    obtain ⟨T', X', e', s'⟩ := getS X hx hZ (host := "") ho w via eT F (g := mkF _ pc Ls st) rfl (hb b hd)
    exact ⟨T', h, _, X', e', rfl, N, s' _ (Steps.refl _)⟩
  exact r'
theorem putfield {R0 O nm d host C : String} {index kk : Nat} {ty : FieldType} {a : Addr} {v old : Value} (r : Rch l Z n0 R y bytes mx rt D h k n pc Ls (v :: .ref a :: st)) (hd : decode bytes pc = .ok (.putfield index, 3)) (w : (Jvm.Cond.fieldLink y.cls index R0 nm d).before a0 Z = true ∨ (Jvm.Cond.fieldLinkNest y.cls index R0 nm d host).before a0 Z = true) (via : Via Z R0 O nm d) (F : Fld Z h a O nm d old) (E : Exa Z h a C)
    (L : (Jvm.Cond.lays C O nm d).before a0 Z = true ∨ ((Jvm.Cond.laysFinal C O nm d).before a0 Z = true ∧ y.cls = O ∧ y.name = "<init>")) (wi : (Jvm.Cond.instantiable C kk).before a0 Z = true) (hty : parseFieldDescriptor d = some ty) (hn : narrow ty v = v) (hf : fits ty v = true) (hg : n0 ≤ a) :
    ∃ h', Wr h h' a (Jvm.RoadKit.slotOf Z O nm d) v ∧ Rch l Z n0 R y bytes mx rt D h' k n (pc + 3) Ls st :=
  r.mv (P := fun h' => Wr h h' a (Jvm.RoadKit.slotOf Z O nm d) v) (st' := fun _ => st) fun X hx b _ hnm hZ ho eT N => by
    obtain ⟨T', h', X', e', W, s'⟩ := putF X hx hZ ho w via eT F E (L.imp id fun q => ⟨q.1, q.2.1, hnm.trans q.2.2⟩) wi hty hn hf (g := mkF _ pc Ls (v :: .ref a :: st)) rfl rfl (hb b hd)
    exact ⟨T', h', _, X', e', W, Fr.snoc X' N hg, s' _ (Steps.refl _)⟩
theorem newObj {C : String} {index nn : Nat} (r : Rch l Z n0 R y bytes mx rt D h k n pc Ls st) (hd : decode bytes pc = .ok (.new index, 3)) (w : (Jvm.Cond.classLink y.cls index C).before a0 Z = true) (wi : (Jvm.Cond.instantiable C nn).before a0 Z = true) (wz : (Jvm.Cond.initialized C).before a0 Z = true) (hc : k + 1 ≤ R.cells) (hl : n + nn ≤ R.slots) :
    ∃ h', (Ext h h' ∧ Exa Z h' h.size C ∧ ∀ {O nm d : String} {ty : FieldType}, Laid Z a0 C O nm d → parseFieldDescriptor d = some ty → Fld Z h' h.size O nm d (defaultValue ty)) ∧ Rch l Z n0 R y bytes mx rt D h' (k + 1) (n + nn) (pc + 3) Ls (.ref h.size :: st) :=
  r.mv (P := fun h' => Ext h h' ∧ Exa Z h' h.size C ∧ ∀ {O nm d : String} {ty : FieldType}, Laid Z a0 C O nm d → parseFieldDescriptor d = some ty → Fld Z h' h.size O nm d (defaultValue ty)) (st' := fun _ => .ref h.size :: st) fun X hx b _ _ hZ ho eT N => by
    obtain ⟨T', h', X', e', E', A', D', -, s'⟩ := newO X hx hZ ho w wi wz eT (g := mkF _ pc Ls st) rfl (hb b hd) hc hl
    exact ⟨T', h', _, X', e', ⟨E', A', D'⟩, N, s' _ (Steps.refl _)⟩
theorem initObj {index : Nat} {a : Addr} {W : Nat} (r : Rch l Z n0 R y bytes mx rt D h k n pc Ls (.ref a :: st)) (hd : decode bytes pc = .ok (.invokespecial index, 3)) (w1 : (Jvm.Cond.methodLink y.cls index Lib.objectInit).before a0 Z = true) (w2 : (Jvm.Cond.instanceMethod Lib.objectInit).before a0 Z = true) (w3 : (Jvm.Cond.code Lib.objectInit ⟨#[0xb1]⟩ 1 none).before a0 Z = true) (hsz : Ls.size = mx) (hf : 1 ≤ R.frames) (hW : (st.map fun v => v.category).sum ≤ W) (hl : W + 12 ≤ R.locals) : Rch l Z n0 R y bytes mx rt D h k n (pc + 3) Ls st := by
  obtain ⟨h', rfl, r'⟩ := r.mv (P := fun h' => h = h') (st' := fun _ => st) (k' := k) (n' := n) (pc' := pc + 3) (Ls' := Ls) fun X hx b hml _ hZ ho eT N => by
    obtain ⟨T', X', e', s'⟩ := initO X hx hZ ho w1 w2 w3 eT (g := mkF _ pc Ls (.ref a :: st)) rfl (hsz.trans hml.symm) rfl (hb b hd) hf (W := W) (by show 2 * 0 + _ ≤ _; omega) hl
    exact ⟨T', h, _, X', e', rfl, N, s' _ (Steps.refl _)⟩
  exact r'
theorem instYes {K : String} {index : Nat} {a : Addr} (r : Rch l Z n0 R y bytes mx rt D h k n pc Ls (.ref a :: st)) (hd : decode bytes pc = .ok (.instanceof index, 3)) (w : (Jvm.Cond.classLink y.cls index K).before a0 Z = true) (F : Ins Z h a K true) : Rch l Z n0 R y bytes mx rt D h k n (pc + 3) Ls (.int 1 :: st) := by
  obtain ⟨h', rfl, r'⟩ := r.mv (P := fun h' => h = h') (st' := fun _ => .int 1 :: st) (k' := k) (n' := n) (pc' := pc + 3) (Ls' := Ls) fun X hx b _ _ hZ ho eT N => by
    obtain ⟨T', X', e', s'⟩ := instY X hx hZ ho w eT F (g := mkF _ pc Ls (.ref a :: st)) rfl rfl (hb b hd)
    exact ⟨T', h, _, X', e', rfl, N, s' _ (Steps.refl _)⟩
  exact r'
theorem instNo {K C : String} {index : Nat} {a : Addr} (r : Rch l Z n0 R y bytes mx rt D h k n pc Ls (.ref a :: st)) (hd : decode bytes pc = .ok (.instanceof index, 3)) (w : (Jvm.Cond.classLink y.cls index K).before a0 Z = true) (E : Exa Z h a C) (F : ∃ c t, Z.vm.findClass C = some c ∧ Z.vm.findClass K = some t ∧ Z.vm.assignable c t = false) : Rch l Z n0 R y bytes mx rt D h k n (pc + 3) Ls (.int 0 :: st) := by
  obtain ⟨h', rfl, r'⟩ := r.mv (P := fun h' => h = h') (st' := fun _ => .int 0 :: st) (k' := k) (n' := n) (pc' := pc + 3) (Ls' := Ls) fun X hx b _ _ hZ ho eT N => by
    obtain ⟨T', X', e', s'⟩ := Jvm.RoadKit.instNo X hx hZ ho w eT E F (g := mkF _ pc Ls (.ref a :: st)) rfl rfl (hb b hd)
    exact ⟨T', h, _, X', e', rfl, N, s' _ (Steps.refl _)⟩
  exact r'
theorem instNull {index : Nat} (r : Rch l Z n0 R y bytes mx rt D h k n pc Ls (.null :: st)) (hd : decode bytes pc = .ok (.instanceof index, 3)) : Rch l Z n0 R y bytes mx rt D h k n (pc + 3) Ls (.int 0 :: st) := r.go fun X hx b _ _ _ t q => X.instanceofNull hx (g := mkF _ pc Ls (.null :: st)) rfl rfl (hb b hd) t q
theorem castYes {K : String} {index : Nat} {a : Addr} (r : Rch l Z n0 R y bytes mx rt D h k n pc Ls (.ref a :: st)) (hd : decode bytes pc = .ok (.checkcast index, 3)) (w : (Jvm.Cond.classLink y.cls index K).before a0 Z = true) (F : Ins Z h a K true) : Rch l Z n0 R y bytes mx rt D h k n (pc + 3) Ls (.ref a :: st) := by
  obtain ⟨h', rfl, r'⟩ := r.mv (P := fun h' => h = h') (st' := fun _ => .ref a :: st) (k' := k) (n' := n) (pc' := pc + 3) (Ls' := Ls) fun X hx b _ _ hZ ho eT N => by
    obtain ⟨T', X', e', s'⟩ := castY X hx hZ ho w eT F (g := mkF _ pc Ls (.ref a :: st)) rfl rfl (hb b hd)
    exact ⟨T', h, _, X', e', rfl, N, s' _ (Steps.refl _)⟩
  exact r'
theorem aaload {a : Addr} {c : Cell} {ty : FieldType} {j : Int32} {v : Value} (r : Rch l Z n0 R y bytes mx rt D h k n pc Ls (.int j :: .ref a :: st)) (hd : decode bytes pc = .ok (.aaload, 1)) (A : Arr Z h a c ty) (ht : ty.isReference = true) (hi : ¬ (j < 0 ∨ c.slots.size ≤ j.toNatClampNeg)) (hv : c.slots[j.toNatClampNeg]? = some v) : Rch l Z n0 R y bytes mx rt D h k n (pc + 1) Ls (v :: st) :=
  r.go fun X hx b hZ _ eT t q => X.aaload hx (j := j) (v := v) (by rw [eT]; exact A.1) (State.isArrayOf_alike hZ.alike A.2.1) ht A.2.2 hi hv (g := mkF _ pc Ls (.int j :: .ref a :: st)) rfl rfl (hb b hd) t q
/-! arrays: their elements as a list -/
def VA (Z : State) (h : Heap) (a : Addr) (ty : FieldType) (vs : List Value) : Prop := ∃ c : Cell, Arr Z h a c ty ∧ c.slots = vs.toArray ∧ vs.length < 2 ^ 31
section Facts
variable {a b : Addr} {ty : FieldType} {vs : List Value} {sl : Nat} {v : Value} {ws : List Addr}
theorem VA.lt (A : VA Z h a ty vs) : a < h.size := by obtain ⟨c, A, -⟩ := A; exact A.lt
theorem VA.len (A : VA Z h a ty vs) : vs.length < 2 ^ 31 := by obtain ⟨c, -, -, q⟩ := A; exact q
theorem VA.ext (A : VA Z h a ty vs) (E : Ext h h') : VA Z h' a ty vs := by obtain ⟨c, A, r⟩ := A; exact ⟨c, A.ext E, r⟩
theorem VA.other (A : VA Z h b ty vs) (W : Wr h h' a sl v) (q : b ≠ a) : VA Z h' b ty vs := by obtain ⟨c, A, r⟩ := A; exact ⟨c, A.other W q, r⟩
theorem VA.keep (A : VA Z h a ty vs) (K : Keep h h' ws) (q : a ∉ ws) : VA Z h' a ty vs := by obtain ⟨c, A, r⟩ := A; exact ⟨c, ⟨K.2.1 a c A.1 q, A.2⟩, r⟩
theorem VA.set (A : VA Z h a ty vs) (W : Wr h h' a sl v) : VA Z h' a ty (vs.set sl v) := by
  obtain ⟨c, A, e, q⟩ := A
  refine ⟨c.setSlot sl v, A.same W, ?_, by simpa using q⟩
  show c.slots.setIfInBounds sl v = _
  rw [e]; simp
theorem VA.new {cA : ClassId} {z : Int32} (A : Arr Z h a (newA cA ty z) ty) (q : ¬ z < 0) : VA Z h a ty (List.replicate z.toNatClampNeg (defaultValue ty)) := by
  refine ⟨_, A, ?_, ?_⟩
  · simp [newA]
  · rw [List.length_replicate]; exact (back32 q).2
theorem VA.inb (A : VA Z h a ty vs) {j : Int32} (hj : ¬ j < 0) (hlt : j.toNatClampNeg < vs.length) : ∃ c, Arr Z h a c ty ∧ c.slots = vs.toArray ∧ ¬ (j < 0 ∨ c.slots.size ≤ j.toNatClampNeg) := by
  obtain ⟨c, A, e, -⟩ := A
  exact ⟨c, A, e, fun q => q.elim hj fun q => by rw [e] at q; simp at q; omega⟩
theorem ne_lt {x z : Addr} {H : Heap} (p : x < H.size) (q : z = H.size) : x ≠ z := fun e => by rw [e, q] at p; exact Nat.lt_irrefl _ p
end Facts
theorem newArr {aty : ArrayType} {z : Int32} {cap : Nat} (r : Rch l Z n0 R y bytes mx rt D h k n pc Ls (.int z :: st)) (hd : decode bytes pc = .ok (.newarray aty, 2)) (w : (Jvm.Cond.arrayClass (newarray.typeOf aty)).before a0 Z = true) (hz : ¬ z < 0) (hcap : z.toNatClampNeg ≤ cap) (h8 : cap * 8 ≤ 536870912) (hc : k + 1 ≤ R.cells) (hl : n + cap ≤ R.slots) :
    ∃ h', (Ext h h' ∧ VA Z h' h.size (newarray.typeOf aty) (List.replicate z.toNatClampNeg (defaultValue (newarray.typeOf aty)))) ∧ Rch l Z n0 R y bytes mx rt D h' (k + 1) (n + cap) (pc + 2) Ls (.ref h.size :: st) :=
  r.mv (P := fun h' => Ext h h' ∧ VA Z h' h.size (newarray.typeOf aty) (List.replicate z.toNatClampNeg (defaultValue (newarray.typeOf aty)))) (st' := fun _ => .ref h.size :: st) fun X hx b _ _ hZ ho eT N => by
    obtain ⟨T', h', cA, X', e', E', A', s'⟩ := newP X hx hZ w eT (g := mkF _ pc Ls (.int z :: st)) rfl (hb b hd) rfl hz hcap h8 hc hl
    exact ⟨T', h', _, X', e', ⟨E', VA.new A' hz⟩, N, s' _ (Steps.refl _)⟩
theorem arrlen {a : Addr} {ty : FieldType} {vs : List Value} {z : Int32} (r : Rch l Z n0 R y bytes mx rt D h k n pc Ls (.ref a :: st)) (hd : decode bytes pc = .ok (.arraylength, 1)) (A : VA Z h a ty vs) (hz : vs.length.toInt32 = z) : Rch l Z n0 R y bytes mx rt D h k n (pc + 1) Ls (.int z :: st) := by
  subst hz
  obtain ⟨c, A, e, -⟩ := A
  have q : vs.length = c.slots.size := by rw [e]; simp
  rw [q]
  exact r.go fun X hx b hZ _ eT t q => X.arraylength hx (by rw [eT]; exact A.1) (State.isArrayOf_alike hZ.alike A.2.1) (g := mkF _ pc Ls (.ref a :: st)) rfl rfl (hb b hd) t q
theorem iaload {a : Addr} {vs : List Value} {j : Int32} {v : Value} (r : Rch l Z n0 R y bytes mx rt D h k n pc Ls (.int j :: .ref a :: st)) (hd : decode bytes pc = .ok (.iaload, 1)) (A : VA Z h a .int vs) (hj : ¬ j < 0) (hv : vs[j.toNatClampNeg]? = some v) : Rch l Z n0 R y bytes mx rt D h k n (pc + 1) Ls (v :: st) := by
  obtain ⟨c, A, e, hi⟩ := A.inb hj (List.getElem?_eq_some_iff.mp hv).1
  exact r.go fun X hx b hZ _ eT t q => X.iaload hx (j := j) (v := v) (by rw [eT]; exact A.1) (State.isArrayOf_alike hZ.alike A.2.1) A.2.2 hi (by rw [e]; simpa using hv) (g := mkF _ pc Ls (.int j :: .ref a :: st)) rfl rfl (hb b hd) t q
theorem laload {a : Addr} {vs : List Value} {j : Int32} {v : Value} (r : Rch l Z n0 R y bytes mx rt D h k n pc Ls (.int j :: .ref a :: st)) (hd : decode bytes pc = .ok (.laload, 1)) (A : VA Z h a .long vs) (hj : ¬ j < 0) (hv : vs[j.toNatClampNeg]? = some v) : Rch l Z n0 R y bytes mx rt D h k n (pc + 1) Ls (v :: st) := by
  obtain ⟨c, A, e, hi⟩ := A.inb hj (List.getElem?_eq_some_iff.mp hv).1
  exact r.go fun X hx b hZ _ eT t q => X.laload hx (j := j) (v := v) (by rw [eT]; exact A.1) (State.isArrayOf_alike hZ.alike A.2.1) A.2.2 hi (by rw [e]; simpa using hv) (g := mkF _ pc Ls (.int j :: .ref a :: st)) rfl rfl (hb b hd) t q
theorem caload {a : Addr} {vs : List Value} {j : Int32} {v : Value} (r : Rch l Z n0 R y bytes mx rt D h k n pc Ls (.int j :: .ref a :: st)) (hd : decode bytes pc = .ok (.caload, 1)) (A : VA Z h a .char vs) (hj : ¬ j < 0) (hv : vs[j.toNatClampNeg]? = some v) : Rch l Z n0 R y bytes mx rt D h k n (pc + 1) Ls (v :: st) := by
  obtain ⟨c, A, e, hi⟩ := A.inb hj (List.getElem?_eq_some_iff.mp hv).1
  exact r.go fun X hx b hZ _ eT t q => X.caload hx (j := j) (v := v) (by rw [eT]; exact A.1) (State.isArrayOf_alike hZ.alike A.2.1) A.2.2 hi (by rw [e]; simpa using hv) (g := mkF _ pc Ls (.int j :: .ref a :: st)) rfl rfl (hb b hd) t q
theorem baload {a : Addr} {vs : List Value} {j : Int32} {v : Value} (r : Rch l Z n0 R y bytes mx rt D h k n pc Ls (.int j :: .ref a :: st)) (hd : decode bytes pc = .ok (.baload, 1)) (A : VA Z h a .byte vs) (hj : ¬ j < 0) (hv : vs[j.toNatClampNeg]? = some v) : Rch l Z n0 R y bytes mx rt D h k n (pc + 1) Ls (v :: st) := by
  obtain ⟨c, A, e, hi⟩ := A.inb hj (List.getElem?_eq_some_iff.mp hv).1
  exact r.go fun X hx b hZ _ eT t q => X.baloadBytes hx (j := j) (v := v) (by rw [eT]; exact A.1) (State.isArrayOf_alike hZ.alike A.2.1) A.2.2 hi (by rw [e]; simpa using hv) (g := mkF _ pc Ls (.int j :: .ref a :: st)) rfl rfl (hb b hd) t q
theorem zaload {a : Addr} {vs : List Value} {j : Int32} {v : Value} (r : Rch l Z n0 R y bytes mx rt D h k n pc Ls (.int j :: .ref a :: st)) (hd : decode bytes pc = .ok (.baload, 1)) (A : VA Z h a .boolean vs) (hj : ¬ j < 0) (hv : vs[j.toNatClampNeg]? = some v) : Rch l Z n0 R y bytes mx rt D h k n (pc + 1) Ls (v :: st) := by
  obtain ⟨c, A, e, hi⟩ := A.inb hj (List.getElem?_eq_some_iff.mp hv).1
  exact r.go fun X hx b hZ _ eT t q => X.baloadBooleans hx (j := j) (v := v) (by rw [eT]; exact A.1) (State.isArrayOf_alike hZ.alike A.2.1) A.2.2 hi (by rw [e]; simpa using hv) (g := mkF _ pc Ls (.int j :: .ref a :: st)) rfl rfl (hb b hd) t q
theorem iastore {a : Addr} {vs : List Value} {j : Int32} {x : Int32} (r : Rch l Z n0 R y bytes mx rt D h k n pc Ls (.int x :: .int j :: .ref a :: st)) (hd : decode bytes pc = .ok (.iastore, 1)) (A : VA Z h a .int vs) (hj : ¬ j < 0) (hlt : j.toNatClampNeg < vs.length) (hg : n0 ≤ a) :
    ∃ h', (Wr h h' a j.toNatClampNeg (.int x) ∧ VA Z h' a .int (vs.set j.toNatClampNeg (.int x))) ∧ Rch l Z n0 R y bytes mx rt D h' k n (pc + 1) Ls st :=
  r.mv (P := fun h' => Wr h h' a j.toNatClampNeg (.int x) ∧ VA Z h' a .int (vs.set j.toNatClampNeg (.int x))) (st' := fun _ => st) fun X hx b _ _ hZ ho eT N => by
    obtain ⟨c, A', e, hi⟩ := A.inb hj hlt
    obtain ⟨T', h', X', e', W, s'⟩ := stI X hx hZ eT A' (j := j) hi (g := mkF _ pc Ls (.int x :: .int j :: .ref a :: st)) rfl rfl (hb b hd)
    exact ⟨T', h', _, X', e', ⟨W, A.set W⟩, Fr.snoc X' N hg, s' _ (Steps.refl _)⟩
theorem lastore {a : Addr} {vs : List Value} {j : Int32} {x : Int64} (r : Rch l Z n0 R y bytes mx rt D h k n pc Ls (.long x :: .int j :: .ref a :: st)) (hd : decode bytes pc = .ok (.lastore, 1)) (A : VA Z h a .long vs) (hj : ¬ j < 0) (hlt : j.toNatClampNeg < vs.length) (hg : n0 ≤ a) :
    ∃ h', (Wr h h' a j.toNatClampNeg (.long x) ∧ VA Z h' a .long (vs.set j.toNatClampNeg (.long x))) ∧ Rch l Z n0 R y bytes mx rt D h' k n (pc + 1) Ls st :=
  r.mv (P := fun h' => Wr h h' a j.toNatClampNeg (.long x) ∧ VA Z h' a .long (vs.set j.toNatClampNeg (.long x))) (st' := fun _ => st) fun X hx b _ _ hZ ho eT N => by
    obtain ⟨c, A', e, hi⟩ := A.inb hj hlt
    obtain ⟨T', h', X', e', W, s'⟩ := stJ X hx hZ eT A' (j := j) hi (g := mkF _ pc Ls (.long x :: .int j :: .ref a :: st)) rfl rfl (hb b hd)
    exact ⟨T', h', _, X', e', ⟨W, A.set W⟩, Fr.snoc X' N hg, s' _ (Steps.refl _)⟩
theorem castore {a : Addr} {vs : List Value} {j : Int32} {x : Int32} (r : Rch l Z n0 R y bytes mx rt D h k n pc Ls (.int x :: .int j :: .ref a :: st)) (hd : decode bytes pc = .ok (.castore, 1)) (A : VA Z h a .char vs) (hj : ¬ j < 0) (hlt : j.toNatClampNeg < vs.length) (hg : n0 ≤ a) :
    ∃ h', (Wr h h' a j.toNatClampNeg (.int (nar .char x)) ∧ VA Z h' a .char (vs.set j.toNatClampNeg (.int (nar .char x)))) ∧ Rch l Z n0 R y bytes mx rt D h' k n (pc + 1) Ls st :=
  r.mv (P := fun h' => Wr h h' a j.toNatClampNeg (.int (nar .char x)) ∧ VA Z h' a .char (vs.set j.toNatClampNeg (.int (nar .char x)))) (st' := fun _ => st) fun X hx b _ _ hZ ho eT N => by
    obtain ⟨c, A', e, hi⟩ := A.inb hj hlt
    obtain ⟨T', h', X', e', W, s'⟩ := stC X hx hZ eT A' (j := j) hi (g := mkF _ pc Ls (.int x :: .int j :: .ref a :: st)) rfl rfl (hb b hd)
    exact ⟨T', h', _, X', e', ⟨W, A.set W⟩, Fr.snoc X' N hg, s' _ (Steps.refl _)⟩
theorem bastore {a : Addr} {vs : List Value} {j : Int32} {x : Int32} (r : Rch l Z n0 R y bytes mx rt D h k n pc Ls (.int x :: .int j :: .ref a :: st)) (hd : decode bytes pc = .ok (.bastore, 1)) (A : VA Z h a .byte vs) (hj : ¬ j < 0) (hlt : j.toNatClampNeg < vs.length) (hg : n0 ≤ a) :
    ∃ h', (Wr h h' a j.toNatClampNeg (.int (nar .byte x)) ∧ VA Z h' a .byte (vs.set j.toNatClampNeg (.int (nar .byte x)))) ∧ Rch l Z n0 R y bytes mx rt D h' k n (pc + 1) Ls st :=
  r.mv (P := fun h' => Wr h h' a j.toNatClampNeg (.int (nar .byte x)) ∧ VA Z h' a .byte (vs.set j.toNatClampNeg (.int (nar .byte x)))) (st' := fun _ => st) fun X hx b _ _ hZ ho eT N => by
    obtain ⟨c, A', e, hi⟩ := A.inb hj hlt
    obtain ⟨T', h', X', e', W, s'⟩ := stB X hx hZ eT A' (j := j) hi (g := mkF _ pc Ls (.int x :: .int j :: .ref a :: st)) rfl rfl (hb b hd)
    exact ⟨T', h', _, X', e', ⟨W, A.set W⟩, Fr.snoc X' N hg, s' _ (Steps.refl _)⟩
theorem zastore {a : Addr} {vs : List Value} {j : Int32} {x : Int32} (r : Rch l Z n0 R y bytes mx rt D h k n pc Ls (.int x :: .int j :: .ref a :: st)) (hd : decode bytes pc = .ok (.bastore, 1)) (A : VA Z h a .boolean vs) (hj : ¬ j < 0) (hlt : j.toNatClampNeg < vs.length) (hg : n0 ≤ a) :
    ∃ h', (Wr h h' a j.toNatClampNeg (.int (nar .boolean x)) ∧ VA Z h' a .boolean (vs.set j.toNatClampNeg (.int (nar .boolean x)))) ∧ Rch l Z n0 R y bytes mx rt D h' k n (pc + 1) Ls st :=
  r.mv (P := fun h' => Wr h h' a j.toNatClampNeg (.int (nar .boolean x)) ∧ VA Z h' a .boolean (vs.set j.toNatClampNeg (.int (nar .boolean x)))) (st' := fun _ => st) fun X hx b _ _ hZ ho eT N => by
    obtain ⟨c, A', e, hi⟩ := A.inb hj hlt
    obtain ⟨T', h', X', e', W, s'⟩ := stZ X hx hZ eT A' (j := j) hi (g := mkF _ pc Ls (.int x :: .int j :: .ref a :: st)) rfl rfl (hb b hd)
    exact ⟨T', h', _, X', e', ⟨W, A.set W⟩, Fr.snoc X' N hg, s' _ (Steps.refl _)⟩
/-! the end -/
theorem Rch.ret0 (r : Rch l Z n0 R y bytes mx none D h k n pc Ls []) (hd : decode bytes pc = .ok (.return_, 1)) : Don l Z n0 R D h k n none := by
  obtain ⟨p, e, s, m, args, below, meth, c, s₁, g0⟩ := D
  obtain ⟨⟨hx, hbb, hml, ho, hZ, hr, hlk, hnm⟩, T, locs, X, eT, N, hs⟩ := r
  obtain ⟨fs, hl, hrun, hended, hW, hsame⟩ := X.leave (v := none) (fun _ => rfl) hlk
  exact ⟨T, locs, fs, X, eT, N, hs.trans (X.returnOut hx hr (hb hbb hd) hl), eT, hrun, hended, hW, hsame⟩
theorem Rch.retV {i : Instr} {t : FieldType} {w : Value} (r : Rch l Z n0 R y bytes mx (some t) D h k n pc Ls (w :: st)) (hd : decode bytes pc = .ok (i, 1)) (hn : narrow t w = w)
    (hi : (i = .ireturn ∧ (t = .int ∨ t = .boolean ∨ t = .byte ∨ t = .char ∨ t = .short) ∧ ∃ z, w = .int z) ∨ (i = .lreturn ∧ t = .long ∧ ∃ z, w = .long z) ∨ (i = .dreturn ∧ t = .double ∧ ∃ z, w = .double z) ∨ (i = .freturn ∧ t = .float ∧ ∃ z, w = .float z) ∨ (i = .areturn ∧ t.isReference = true ∧ w.isRef = true)) : Don l Z n0 R D h k n (some w) := by
  obtain ⟨p, e, s, m, args, below, meth, c, s₁, g0⟩ := D
  obtain ⟨⟨hx, hbb, hml, ho, hZ, hr, hlk, hnm⟩, T, locs, X, eT, N, hs⟩ := r
  obtain ⟨fs, hl, hrun, hended, hW, hsame⟩ := X.leave (v := some w) (fun q => by rw [hr] at q; cases q) hlk
  exact ⟨T, locs, fs, X, eT, N, hs.trans (retOut X hx hr hn hi (hb hbb hd) hl), eT, hrun, hended, hW, hsame⟩
theorem Rch.retI {z : Int32} (r : Rch l Z n0 R y bytes mx (some .int) D h k n pc Ls (.int z :: st)) (hd : decode bytes pc = .ok (.ireturn, 1)) : Don l Z n0 R D h k n (some (.int z)) := r.retV hd rfl (Or.inl ⟨rfl, Or.inl rfl, z, rfl⟩)
theorem Rch.retJ {z : Int64} (r : Rch l Z n0 R y bytes mx (some .long) D h k n pc Ls (.long z :: st)) (hd : decode bytes pc = .ok (.lreturn, 1)) : Don l Z n0 R D h k n (some (.long z)) := r.retV hd rfl (Or.inr (Or.inl ⟨rfl, rfl, z, rfl⟩))
theorem Rch.retZ {z : Int32} (r : Rch l Z n0 R y bytes mx (some .boolean) D h k n pc Ls (.int z :: st)) (hd : decode bytes pc = .ok (.ireturn, 1)) (hz : z &&& 1 = z) : Don l Z n0 R D h k n (some (.int z)) := r.retV hd (congrArg Value.int hz) (Or.inl ⟨rfl, Or.inr (Or.inl rfl), z, rfl⟩)
theorem Rch.retB {z : Int32} (r : Rch l Z n0 R y bytes mx (some .byte) D h k n pc Ls (.int z :: st)) (hd : decode bytes pc = .ok (.ireturn, 1)) (hz : z.toInt8.toInt32 = z) : Don l Z n0 R D h k n (some (.int z)) := r.retV hd (congrArg Value.int hz) (Or.inl ⟨rfl, Or.inr (Or.inr (Or.inl rfl)), z, rfl⟩)
theorem Rch.retA {t : FieldType} {w : Value} (r : Rch l Z n0 R y bytes mx (some t) D h k n pc Ls (w :: st)) (hd : decode bytes pc = .ok (.areturn, 1)) (ht : t.isReference = true) (hw : w.isRef = true) : Don l Z n0 R D h k n (some w) := r.retV hd (by rcases ref_cases hw with rfl | ⟨q, rfl⟩ <;> cases t <;> first | rfl | cases ht) (Or.inr (Or.inr (Or.inr (Or.inr ⟨rfl, ht, hw⟩))))
theorem Don.more {v : Option Value} (r : Don l Z n0 R D h k n v) {k' n' : Nat} (hk : k ≤ k') (hn : n ≤ n') : Don l Z n0 R D h k' n' v := by
  obtain ⟨p, e, s, m, args, below, meth, c, s₁, g0⟩ := D
  obtain ⟨T, locs, fs, X, eT, N, hs, hh, hrun, hend, hW, hsame⟩ := r
  exact ⟨T, locs, fs, X.more hk hn, eT, N, hs, hh, hrun, hend, hW, hsame.mono hk hn⟩
/-! calls -/
section Calls
variable {index : Nat} {y' : MethodName} {bytes' : ByteArray} {mx' : Nat} {rt' : Option FieldType} {rm : Room} {as' : Array Value} {Q : Option Value → Heap → Prop} {W : Nat} {rest : List Value}
theorem callS (argsL : List Value) (r : Rch l Z n0 R y bytes mx rt D h k n pc Ls st) (hd : decode bytes pc = .ok (.invokestatic index, 3)) (K : Con l Z n0 y' bytes' mx' rt' rm as' h Q) (w1 : (Jvm.Cond.methodLink y.cls index y').before a0 Z = true) (w2 : (Jvm.Cond.static y').before a0 Z = true) (w3 : (Jvm.Cond.initialized y'.cls).before a0 Z = true) (w4 : (Jvm.Cond.code y' bytes' mx' rt').before a0 Z = true)
    (hlen : ∀ sig, parseMethodDescriptor y'.desc = some sig → argsL.length = sig.parameters.length) (has : argsL.toArray = as') (hst : st = argsL.reverse ++ rest) (hW : (rest.map fun v => v.category).sum ≤ W) (hsz : Ls.size = mx) (hy : y'.cls ≠ "java/lang/invoke/MethodHandle" ∧ y'.cls ≠ "java/lang/invoke/VarHandle") (hf : rm.frames + 1 ≤ R.frames) (hlo : W + (mx' + 11) + rm.locals ≤ R.locals) (hc : k + rm.cells ≤ R.cells) (hs : n + rm.slots ≤ R.slots) :
    ∃ v h', Q v h' ∧ Rch l Z n0 R y bytes mx rt D h' (k + rm.cells) (n + rm.slots) (pc + 3) Ls (v.toList ++ rest) := by
  obtain ⟨p, e, s, m, args, below, meth, c, s₁, g0⟩ := D
  obtain ⟨hB, T, locs, X, eT, N, hs0⟩ := r
  obtain ⟨hx, hbb, hml, ho, hZ, hr, hlk, hnm⟩ := id hB
  subst hst
  obtain ⟨v, vm₁, ⟨T', L', k', n'⟩, -, X', ⟨Lc, ⟨N', hQ⟩, l1, y1, z1⟩, s'⟩ := Jvm.LawKit.callS X hx (y := y') ho (mvT hZ w1) (mvT hZ w2) (mvT hZ w3) (mvT hZ w4) hy (backOf (W := W) (Q := fun v h L => Fr n0 L ∧ Q v h) (K []) hZ w4 w3 hf hlo) (g := mkF m pc Ls (argsL.reverse ++ rest)) rfl (hsz.trans hml.symm) (argsL := argsL) (rest := rest) hlen rfl (by show 2 * 0 + _ ≤ _; omega) (hb hbb hd) (fun _ _ => ⟨has, eT, hc, hs⟩)
  dsimp only [Pt.U, Pt.locs, Pt.cells, Pt.slots] at X' l1 y1 z1 s' hQ
  subst l1 y1 z1
  exact ⟨v, T'.heap, hQ, hB, T', _, X', rfl, Fr.app N N', hs0.trans (s' _ (Steps.refl _))⟩
theorem callI {a : Addr} (argsL : List Value) (r : Rch l Z n0 R y bytes mx rt D h k n pc Ls st) (hd : decode bytes pc = .ok (.invokespecial index, 3)) (K : Con l Z n0 y' bytes' mx' none rm as' h Q) (w1 : (Jvm.Cond.methodLink y.cls index y').before a0 Z = true) (w2 : (Jvm.Cond.instanceMethod y').before a0 Z = true) (w3 : (Jvm.Cond.initialized y'.cls).before a0 Z = true) (w4 : (Jvm.Cond.code y' bytes' mx' none).before a0 Z = true) (hin : y'.name = "<init>")
    (hlen : ∀ sig, parseMethodDescriptor y'.desc = some sig → argsL.length = sig.parameters.length) (has : (.ref a :: argsL).toArray = as') (hst : st = argsL.reverse ++ .ref a :: rest) (hW : (rest.map fun v => v.category).sum ≤ W) (hsz : Ls.size = mx) (hy : y'.cls ≠ "java/lang/invoke/MethodHandle" ∧ y'.cls ≠ "java/lang/invoke/VarHandle") (hf : rm.frames + 1 ≤ R.frames) (hlo : W + (mx' + 11) + rm.locals ≤ R.locals) (hc : k + rm.cells ≤ R.cells) (hs : n + rm.slots ≤ R.slots) :
    ∃ v h', Q v h' ∧ Rch l Z n0 R y bytes mx rt D h' (k + rm.cells) (n + rm.slots) (pc + 3) Ls (v.toList ++ rest) := by
  obtain ⟨p, e, s, m, args, below, meth, c, s₁, g0⟩ := D
  obtain ⟨hB, T, locs, X, eT, N, hs0⟩ := r
  obtain ⟨hx, hbb, hml, ho, hZ, hr, hlk, hnm⟩ := id hB
  subst hst
  obtain ⟨v, vm₁, ⟨T', L', k', n'⟩, -, X', ⟨Lc, ⟨N', hQ⟩, l1, y1, z1⟩, s'⟩ := X.specialBack hx (y := y') hin ho (mvT hZ w1) (mvT hZ w2) (mvT hZ w4) hy (backOf (W := W) (Q := fun v h L => Fr n0 L ∧ Q v h) (K []) hZ w4 w3 hf hlo) (g := mkF m pc Ls (argsL.reverse ++ .ref a :: rest)) rfl (hsz.trans hml.symm) (Steps.refl _) (a := a) (argsL := argsL) (rest := rest) hlen rfl (by show 2 * 0 + _ ≤ _; omega) (hb hbb hd) (fun _ _ => ⟨has, eT, hc, hs⟩)
  dsimp only [Pt.U, Pt.locs, Pt.cells, Pt.slots] at X' l1 y1 z1 s' hQ
  subst l1 y1 z1
  exact ⟨v, T'.heap, hQ, hB, T', _, X', rfl, Fr.app N N', hs0.trans s'⟩
theorem callV {a : Addr} {yr : MethodName} {C : String} (argsL : List Value) (r : Rch l Z n0 R y bytes mx rt D h k n pc Ls st) (hd : decode bytes pc = .ok (.invokevirtual index, 3)) (K : Con l Z n0 y' bytes' mx' rt' rm as' h Q) (E : Exa Z h a C) (w1 : (Jvm.Cond.methodLink y.cls index yr).before a0 Z = true) (w2 : (Jvm.Cond.declares yr).before a0 Z = true) (nf : ∀ s : State, Z.Warmed39 s.vm → NotFace s yr) (w5 : (Jvm.Cond.selects C yr y').before a0 Z = true) (w6 : (Jvm.Cond.instanceMethod y').before a0 Z = true) (w3 : (Jvm.Cond.initialized y'.cls).before a0 Z = true) (w4 : (Jvm.Cond.code y' bytes' mx' rt').before a0 Z = true)
    (hlen : ∀ sig, parseMethodDescriptor yr.desc = some sig → argsL.length = sig.parameters.length) (has : (.ref a :: argsL).toArray = as') (hst : st = argsL.reverse ++ .ref a :: rest) (hW : (rest.map fun v => v.category).sum ≤ W) (hsz : Ls.size = mx) (hy : yr.cls ≠ "java/lang/invoke/MethodHandle" ∧ yr.cls ≠ "java/lang/invoke/VarHandle") (hf : rm.frames + 1 ≤ R.frames) (hlo : W + (mx' + 11) + rm.locals ≤ R.locals) (hc : k + rm.cells ≤ R.cells) (hs : n + rm.slots ≤ R.slots) :
    ∃ v h', Q v h' ∧ Rch l Z n0 R y bytes mx rt D h' (k + rm.cells) (n + rm.slots) (pc + 3) Ls (v.toList ++ rest) := by
  obtain ⟨p, e, s, m, args, below, meth, c, s₁, g0⟩ := D
  obtain ⟨hB, T, locs, X, eT, N, hs0⟩ := r
  obtain ⟨hx, hbb, hml, ho, hZ, hr, hlk, hnm⟩ := id hB
  subst hst
  obtain ⟨cq, kq, qa, qb, qc⟩ := isOf hZ eT E
  obtain ⟨v, vm₁, ⟨T', L', k', n'⟩, -, X', ⟨Lc, ⟨N', hQ⟩, l1, y1, z1⟩, s'⟩ := X.virtualBack hx (y := yr) (z := y') ho (mvT hZ w1) (mvT hZ w2) (nf s hZ) (mvT hZ w5) (mvT hZ w6) hy (backOf (W := W) (Q := fun v h L => Fr n0 L ∧ Q v h) (K []) hZ w4 w3 hf hlo) qa qc (g := mkF m pc Ls (argsL.reverse ++ .ref a :: rest)) rfl (hsz.trans hml.symm) (Steps.refl _) (argsL := argsL) (rest := rest) hlen rfl (by show 2 * 0 + _ ≤ _; omega) (hb hbb hd) (fun _ _ => ⟨has, eT, hc, hs⟩)
  dsimp only [Pt.U, Pt.locs, Pt.cells, Pt.slots] at X' l1 y1 z1 s' hQ
  subst l1 y1 z1
  exact ⟨v, T'.heap, hQ, hB, T', _, X', rfl, Fr.app N N', hs0.trans s'⟩
theorem nfS {yr : MethodName} {C : String} (w : (Jvm.Cond.selects C yr yr).before a0 Z = true) : ∀ s : State, Z.Warmed39 s.vm → NotFace s yr := fun s hZ => notFace_of_selects (args := #[]) (mvT hZ w)
theorem callP {a : Addr} {C : String} (argsL : List Value) (r : Rch l Z n0 R y bytes mx rt D h k n pc Ls st) (hd : decode bytes pc = .ok (.invokevirtual index, 3)) (K : Con l Z n0 y' bytes' mx' rt' rm as' h Q) (E : Exa Z h a C) (w1 : (Jvm.Cond.methodLink y.cls index y').before a0 Z = true) (w6 : (Jvm.Cond.instanceMethod y').before a0 Z = true) {kk : Nat} (wi : (Jvm.Cond.instantiable y'.cls kk).before a0 Z = true) (w7 : (Jvm.Cond.privateMethod y').before a0 Z = true) (w3 : (Jvm.Cond.initialized y'.cls).before a0 Z = true) (w4 : (Jvm.Cond.code y' bytes' mx' rt').before a0 Z = true)
    (hlen : ∀ sig, parseMethodDescriptor y'.desc = some sig → argsL.length = sig.parameters.length) (has : (.ref a :: argsL).toArray = as') (hst : st = argsL.reverse ++ .ref a :: rest) (hW : (rest.map fun v => v.category).sum ≤ W) (hsz : Ls.size = mx) (hy : y'.cls ≠ "java/lang/invoke/MethodHandle" ∧ y'.cls ≠ "java/lang/invoke/VarHandle") (hf : rm.frames + 1 ≤ R.frames) (hlo : W + (mx' + 11) + rm.locals ≤ R.locals) (hc : k + rm.cells ≤ R.cells) (hs : n + rm.slots ≤ R.slots) :
    ∃ v h', Q v h' ∧ Rch l Z n0 R y bytes mx rt D h' (k + rm.cells) (n + rm.slots) (pc + 3) Ls (v.toList ++ rest) := by
  obtain ⟨p, e, s, m, args, below, meth, c, s₁, g0⟩ := D
  obtain ⟨hB, T, locs, X, eT, N, hs0⟩ := r
  obtain ⟨hx, hbb, hml, ho, hZ, hr, hlk, hnm⟩ := id hB
  subst hst
  obtain ⟨cq, q1, q2⟩ := E.cell
  have hpv : s.PrivateAt y' := Cond.privateMethod_at (mvP hZ w7 (args := #[]))
  obtain ⟨ci, ki, i1, i2, -, i4, -, -⟩ := Cond.instantiable_spec (mvT (args := args) hZ wi)
  have hni : ki.isInterface = false := by
    cases q : ki.isInterface with
    | false => rfl
    | true => rw [q] at i4; simp at i4
  have hsel := selects_self_of_private (args := args) i1 i2 hni hpv (mvT hZ w6) hy
  obtain ⟨v, vm₁, ⟨T', L', k', n'⟩, -, X', ⟨Lc, ⟨N', hQ⟩, l1, y1, z1⟩, s'⟩ := X.privateBack hx (y := y') ho (mvT hZ w1) (mvT hZ w6) hsel hpv (mvT hZ w4) hy (backOf (W := W) (Q := fun v h L => Fr n0 L ∧ Q v h) (K []) hZ w4 w3 hf hlo) (g := mkF m pc Ls (argsL.reverse ++ .ref a :: rest)) rfl (hsz.trans hml.symm) (Steps.refl _) (a := a) (by rw [eT]; exact q1) q2 (argsL := argsL) (rest := rest) hlen rfl (by show 2 * 0 + _ ≤ _; omega) (hb hbb hd) (fun _ _ => ⟨has, eT, hc, hs⟩)
  dsimp only [Pt.U, Pt.locs, Pt.cells, Pt.slots] at X' l1 y1 z1 s' hQ
  subst l1 y1 z1
  exact ⟨v, T'.heap, hQ, hB, T', _, X', rfl, Fr.app N N', hs0.trans s'⟩
end Calls
end Kit
end Jvm.Own

namespace Jvm.Pilot.@@N@@
open Jvm Jvm.ClassFile Sem Op Lib Jvm.Free Jvm.Stand Jvm.LawKit Jvm.RoadKit Bundle Jvm.Pilot.@@N@@.Jvm.D

theorem own_get {L : List Int32} {j : Int32} (h1 : 0 ≤ j.toInt) (h2 : j.toInt < L.length) : ¬ j < 0 ∧ (L.map Value.int)[j.toNatClampNeg]? = some (.int (Own.ga L j)) := by
  refine ⟨by rw [Int32.lt_iff_toInt_lt]; have : (0 : Int32).toInt = 0 := rfl; omega, ?_⟩
  have q : j.toNatClampNeg < L.length := by unfold Int32.toNatClampNeg; omega
  rw [List.getElem?_map, List.getElem?_eq_getElem q]
  simp [Own.ga, q]
def own_sl (g : Int32) : Int32 := ((Own.iushrW (g * (-1640531535 : Int32)) ((32 : Int32) - (10 : Int32))) &&& ((1024 : Int32) - (1 : Int32)))
theorem own_slb (g : Int32) : 0 ≤ (own_sl g).toInt ∧ (own_sl g).toInt ≤ 1023 := c_and _ ((1024 : Int32) - (1 : Int32)) (by decide)
theorem own_slotin {M : List Int32} (hM : M.length = 1024) (p1 : Int32) : ¬ ((Own.iushrW (p1 * (-1640531535 : Int32)) ((32 : Int32) - (10 : Int32))) &&& ((1024 : Int32) - (1 : Int32))) < 0 ∧ (M.map Value.int)[((Own.iushrW (p1 * (-1640531535 : Int32)) ((32 : Int32) - (10 : Int32))) &&& ((1024 : Int32) - (1 : Int32))).toNatClampNeg]? = some (.int (Own.ga M ((Own.iushrW (p1 * (-1640531535 : Int32)) ((32 : Int32) - (10 : Int32))) &&& ((1024 : Int32) - (1 : Int32))))) := by
  have b := own_slb p1
  exact own_get (j := own_sl p1) b.1 (by omega)
theorem own_slot_nn (g : Int32) : ¬ ((Own.iushrW (g * (-1640531535 : Int32)) ((32 : Int32) - (10 : Int32))) &&& ((1024 : Int32) - (1 : Int32))) < 0 := by
  have b := own_slb g
  show ¬ own_sl g < 0
  rw [Int32.lt_iff_toInt_lt]; have : (0 : Int32).toInt = 0 := rfl; omega
theorem own_slot_lt {M : List Int32} (hM : M.length = 1024) (g : Int32) : ((Own.iushrW (g * (-1640531535 : Int32)) ((32 : Int32) - (10 : Int32))) &&& ((1024 : Int32) - (1 : Int32))).toNatClampNeg < (M.map Value.int).length := by
  have b := own_slb g
  show (own_sl g).toNatClampNeg < _
  rw [List.length_map, hM]; unfold Int32.toNatClampNeg; omega

theorem d3_0 : decode jdk_33_method_47_code 0 = .ok (.iload_n 0, 1) := by decide +kernel
theorem d3_1 : decode jdk_33_method_47_code 1 = .ok (.ifCond .gt 14, 3) := by decide +kernel
theorem d3_4 : decode jdk_33_method_47_code 4 = .ok (.iload_n 0, 1) := by decide +kernel
theorem d3_5 : decode jdk_33_method_47_code 5 = .ok (.ifCond .ne 8, 3) := by decide +kernel
theorem d3_8 : decode jdk_33_method_47_code 8 = .ok (.bipush 32, 2) := by decide +kernel
theorem d3_10 : decode jdk_33_method_47_code 10 = .ok (.goto 4, 3) := by decide +kernel
theorem d3_13 : decode jdk_33_method_47_code 13 = .ok (.iconst 0, 1) := by decide +kernel
theorem d3_14 : decode jdk_33_method_47_code 14 = .ok (.ireturn, 1) := by decide +kernel
theorem d3_15 : decode jdk_33_method_47_code 15 = .ok (.bipush 31, 2) := by decide +kernel
theorem d3_17 : decode jdk_33_method_47_code 17 = .ok (.istore_n 1, 1) := by decide +kernel
theorem d3_18 : decode jdk_33_method_47_code 18 = .ok (.iload_n 0, 1) := by decide +kernel
theorem d3_19 : decode jdk_33_method_47_code 19 = .ok (.ldc_w 264, 3) := by decide +kernel
theorem d3_22 : decode jdk_33_method_47_code 22 = .ok (.if_icmp .lt 11, 3) := by decide +kernel
theorem d3_25 : decode jdk_33_method_47_code 25 = .ok (.iinc 1 (-16), 3) := by decide +kernel
theorem d3_28 : decode jdk_33_method_47_code 28 = .ok (.iload_n 0, 1) := by decide +kernel
theorem d3_29 : decode jdk_33_method_47_code 29 = .ok (.bipush 16, 2) := by decide +kernel
theorem d3_31 : decode jdk_33_method_47_code 31 = .ok (.iushr, 1) := by decide +kernel
theorem d3_32 : decode jdk_33_method_47_code 32 = .ok (.istore_n 0, 1) := by decide +kernel
theorem d3_33 : decode jdk_33_method_47_code 33 = .ok (.iload_n 0, 1) := by decide +kernel
theorem d3_34 : decode jdk_33_method_47_code 34 = .ok (.sipush 256, 3) := by decide +kernel
theorem d3_37 : decode jdk_33_method_47_code 37 = .ok (.if_icmp .lt 11, 3) := by decide +kernel
theorem d3_40 : decode jdk_33_method_47_code 40 = .ok (.iinc 1 (-8), 3) := by decide +kernel
theorem d3_43 : decode jdk_33_method_47_code 43 = .ok (.iload_n 0, 1) := by decide +kernel
theorem d3_44 : decode jdk_33_method_47_code 44 = .ok (.bipush 8, 2) := by decide +kernel
theorem d3_46 : decode jdk_33_method_47_code 46 = .ok (.iushr, 1) := by decide +kernel
theorem d3_47 : decode jdk_33_method_47_code 47 = .ok (.istore_n 0, 1) := by decide +kernel
theorem d3_48 : decode jdk_33_method_47_code 48 = .ok (.iload_n 0, 1) := by decide +kernel
theorem d3_49 : decode jdk_33_method_47_code 49 = .ok (.bipush 16, 2) := by decide +kernel
theorem d3_51 : decode jdk_33_method_47_code 51 = .ok (.if_icmp .lt 10, 3) := by decide +kernel
theorem d3_54 : decode jdk_33_method_47_code 54 = .ok (.iinc 1 (-4), 3) := by decide +kernel
theorem d3_57 : decode jdk_33_method_47_code 57 = .ok (.iload_n 0, 1) := by decide +kernel
theorem d3_58 : decode jdk_33_method_47_code 58 = .ok (.iconst 4, 1) := by decide +kernel
theorem d3_59 : decode jdk_33_method_47_code 59 = .ok (.iushr, 1) := by decide +kernel
theorem d3_60 : decode jdk_33_method_47_code 60 = .ok (.istore_n 0, 1) := by decide +kernel
theorem d3_61 : decode jdk_33_method_47_code 61 = .ok (.iload_n 0, 1) := by decide +kernel
theorem d3_62 : decode jdk_33_method_47_code 62 = .ok (.iconst 4, 1) := by decide +kernel
theorem d3_63 : decode jdk_33_method_47_code 63 = .ok (.if_icmp .lt 10, 3) := by decide +kernel
theorem d3_66 : decode jdk_33_method_47_code 66 = .ok (.iinc 1 (-2), 3) := by decide +kernel
theorem d3_69 : decode jdk_33_method_47_code 69 = .ok (.iload_n 0, 1) := by decide +kernel
theorem d3_70 : decode jdk_33_method_47_code 70 = .ok (.iconst 2, 1) := by decide +kernel
theorem d3_71 : decode jdk_33_method_47_code 71 = .ok (.iushr, 1) := by decide +kernel
theorem d3_72 : decode jdk_33_method_47_code 72 = .ok (.istore_n 0, 1) := by decide +kernel
theorem d3_73 : decode jdk_33_method_47_code 73 = .ok (.iload_n 1, 1) := by decide +kernel
theorem d3_74 : decode jdk_33_method_47_code 74 = .ok (.iload_n 0, 1) := by decide +kernel
theorem d3_75 : decode jdk_33_method_47_code 75 = .ok (.iconst 1, 1) := by decide +kernel
theorem d3_76 : decode jdk_33_method_47_code 76 = .ok (.iushr, 1) := by decide +kernel
theorem d3_77 : decode jdk_33_method_47_code 77 = .ok (.isub, 1) := by decide +kernel
theorem d3_78 : decode jdk_33_method_47_code 78 = .ok (.ireturn, 1) := by decide +kernel
theorem pn_3 : plainFor (⟨"java/lang/Integer", "numberOfLeadingZeros", "(I)I"⟩ : MethodName) = true := plainFor_of_name (by first | (simp [plainName, overriddenIn, x]; done) | decide +kernel)
theorem ef_3 (p0 : Int32) (m : MethodId) : entryFrame m #[(.int p0)] 2 = mkF m 0 #[.val (.int p0), .unset] [] := by first | (simp [entryFrame, mkF, argsToLocals, Value.category, maxLocals]; done) | rfl
abbrev R3 : Room := ({ frames := 0, cells := 0, slots := 0, locals := 0 } : Room)
abbrev A3 (l : Launch) (Z : State) (n0 : Nat) (D : Own.Dyn) := Own.Rch l Z n0 R3 (⟨"java/lang/Integer", "numberOfLeadingZeros", "(I)I"⟩ : MethodName) jdk_33_method_47_code 2 (some .int) D
def S3 (p0 : Int32) (w : Int32) : Prop := (((0 : Int32) < p0 → ∃ m2 : Int32, m2 = (if p0 < (65536 : Int32) then p0 else (Own.iushrW p0 (16 : Int32))) ∧ ∃ m3 : Int32, m3 = (if p0 < (65536 : Int32) then (31 : Int32) else ((31 : Int32) + (-16 : Int32))) ∧ ∃ m5 : Int32, m5 = (if m2 < (256 : Int32) then m2 else (Own.iushrW m2 (8 : Int32))) ∧ ∃ m6 : Int32, m6 = (if m2 < (256 : Int32) then m3 else (m3 + (-8 : Int32))) ∧ ∃ m8 : Int32, m8 = (if m5 < (16 : Int32) then m5 else (Own.iushrW m5 (4 : Int32))) ∧ ∃ m9 : Int32, m9 = (if m5 < (16 : Int32) then m6 else (m6 + (-4 : Int32))) ∧ ∃ m11 : Int32, m11 = (if m8 < (4 : Int32) then m8 else (Own.iushrW m8 (2 : Int32))) ∧ ∃ m12 : Int32, m12 = (if m8 < (4 : Int32) then m9 else (m9 + (-2 : Int32))) ∧ w = (m12 - (Own.iushrW m11 (1 : Int32)))) ∧ (¬ ((0 : Int32) < p0) → ∃ m14 : Int32, m14 = (if p0 = (0 : Int32) then (32 : Int32) else (0 : Int32)) ∧ w = m14))
set_option maxRecDepth 65536 in
set_option maxHeartbeats 40000000 in
theorem c3 (l : Launch) (Z : State) (a0 : Array Value) (hw : ∀ d ∈ tables_1, d.before a0 Z = true) (n0 : Nat) (h : Heap) (Zs : n0 ≤ h.size) (p0 : Int32)  :
    Own.Con l Z n0 (⟨"java/lang/Integer", "numberOfLeadingZeros", "(I)I"⟩ : MethodName) jdk_33_method_47_code 2 (some .int) R3 #[(.int p0)] h (fun v h' => h = h' ∧ ∃ w : Int32, v = some (.int w) ∧ S3 p0 w) := by
  refine Own.Con.enter pn_3 (ef_3 p0) fun D r => ?_
  replace r : A3 l Z n0 D h 0 0 1 #[.val (.int p0), .unset] [(.int p0)] := Own.iloadN r d3_0 rfl
  by_cases br1 : (0 : Int32) < p0
  · skip
    replace r : A3 l Z n0 D h 0 0 15 #[.val (.int p0), .unset] [] := Own.ifYes r d3_1 ((if0 _ _).trans (tlt br1).2.2.1) (by decide) (by decide)
    replace r : A3 l Z n0 D h 0 0 17 #[.val (.int p0), .unset] [(.int (31 : Int32))] := Own.bipush r d3_15 rfl
    replace r : A3 l Z n0 D h 0 0 18 #[.val (.int p0), .val (.int (31 : Int32))] [] := Own.istoreN r d3_17 rfl
    replace r : A3 l Z n0 D h 0 0 19 #[.val (.int p0), .val (.int (31 : Int32))] [(.int p0)] := Own.iloadN r d3_18 rfl
    replace r : A3 l Z n0 D h 0 0 22 #[.val (.int p0), .val (.int (31 : Int32))] [(.int (65536 : Int32)), (.int p0)] := Own.ldcWI r d3_19 (hw _ (List.mem_of_getElem? (i := 19) rfl))
    obtain ⟨m2, m3, e_m2, e_m3, r⟩ : ∃ (m2 : Int32), ∃ (m3 : Int32), m2 = (if p0 < (65536 : Int32) then p0 else (Own.iushrW p0 (16 : Int32))) ∧ m3 = (if p0 < (65536 : Int32) then (31 : Int32) else ((31 : Int32) + (-16 : Int32))) ∧ A3 l Z n0 D h 0 0 33 #[.val (.int m2), .val (.int m3)] [] := by
      by_cases br4 : p0 < (65536 : Int32)
      · skip
        replace r : A3 l Z n0 D h 0 0 33 #[.val (.int p0), .val (.int (31 : Int32))] [] := Own.icmpYes r d3_22 (tlt br4).1 (by decide) (by decide)
        exact ⟨_, _, by rw [if_pos br4], by rw [if_pos br4], r⟩
      · skip
        replace r : A3 l Z n0 D h 0 0 25 #[.val (.int p0), .val (.int (31 : Int32))] [] := Own.icmpNo r d3_22 (flt br4).1
        replace r : A3 l Z n0 D h 0 0 28 #[.val (.int p0), .val (.int ((31 : Int32) + (-16 : Int32)))] [] := Own.iinc r d3_25 rfl rfl rfl
        replace r : A3 l Z n0 D h 0 0 29 #[.val (.int p0), .val (.int ((31 : Int32) + (-16 : Int32)))] [(.int p0)] := Own.iloadN r d3_28 rfl
        replace r : A3 l Z n0 D h 0 0 31 #[.val (.int p0), .val (.int ((31 : Int32) + (-16 : Int32)))] [(.int (16 : Int32)), (.int p0)] := Own.bipush r d3_29 rfl
        replace r : A3 l Z n0 D h 0 0 32 #[.val (.int p0), .val (.int ((31 : Int32) + (-16 : Int32)))] [(.int (Own.iushrW p0 (16 : Int32)))] := Own.iushr r d3_31
        replace r : A3 l Z n0 D h 0 0 33 #[.val (.int (Own.iushrW p0 (16 : Int32))), .val (.int ((31 : Int32) + (-16 : Int32)))] [] := Own.istoreN r d3_32 rfl
        exact ⟨_, _, by rw [if_neg br4], by rw [if_neg br4], r⟩
    replace r : A3 l Z n0 D h 0 0 34 #[.val (.int m2), .val (.int m3)] [(.int m2)] := Own.iloadN r d3_33 rfl
    replace r : A3 l Z n0 D h 0 0 37 #[.val (.int m2), .val (.int m3)] [(.int (256 : Int32)), (.int m2)] := Own.sipush r d3_34 rfl
    obtain ⟨m5, m6, e_m5, e_m6, r⟩ : ∃ (m5 : Int32), ∃ (m6 : Int32), m5 = (if m2 < (256 : Int32) then m2 else (Own.iushrW m2 (8 : Int32))) ∧ m6 = (if m2 < (256 : Int32) then m3 else (m3 + (-8 : Int32))) ∧ A3 l Z n0 D h 0 0 48 #[.val (.int m5), .val (.int m6)] [] := by
      by_cases br7 : m2 < (256 : Int32)
      · skip
        replace r : A3 l Z n0 D h 0 0 48 #[.val (.int m2), .val (.int m3)] [] := Own.icmpYes r d3_37 (tlt br7).1 (by decide) (by decide)
        exact ⟨_, _, by rw [if_pos br7], by rw [if_pos br7], r⟩
      · skip
        replace r : A3 l Z n0 D h 0 0 40 #[.val (.int m2), .val (.int m3)] [] := Own.icmpNo r d3_37 (flt br7).1
        replace r : A3 l Z n0 D h 0 0 43 #[.val (.int m2), .val (.int (m3 + (-8 : Int32)))] [] := Own.iinc r d3_40 rfl rfl rfl
        replace r : A3 l Z n0 D h 0 0 44 #[.val (.int m2), .val (.int (m3 + (-8 : Int32)))] [(.int m2)] := Own.iloadN r d3_43 rfl
        replace r : A3 l Z n0 D h 0 0 46 #[.val (.int m2), .val (.int (m3 + (-8 : Int32)))] [(.int (8 : Int32)), (.int m2)] := Own.bipush r d3_44 rfl
        replace r : A3 l Z n0 D h 0 0 47 #[.val (.int m2), .val (.int (m3 + (-8 : Int32)))] [(.int (Own.iushrW m2 (8 : Int32)))] := Own.iushr r d3_46
        replace r : A3 l Z n0 D h 0 0 48 #[.val (.int (Own.iushrW m2 (8 : Int32))), .val (.int (m3 + (-8 : Int32)))] [] := Own.istoreN r d3_47 rfl
        exact ⟨_, _, by rw [if_neg br7], by rw [if_neg br7], r⟩
    replace r : A3 l Z n0 D h 0 0 49 #[.val (.int m5), .val (.int m6)] [(.int m5)] := Own.iloadN r d3_48 rfl
    replace r : A3 l Z n0 D h 0 0 51 #[.val (.int m5), .val (.int m6)] [(.int (16 : Int32)), (.int m5)] := Own.bipush r d3_49 rfl
    obtain ⟨m8, m9, e_m8, e_m9, r⟩ : ∃ (m8 : Int32), ∃ (m9 : Int32), m8 = (if m5 < (16 : Int32) then m5 else (Own.iushrW m5 (4 : Int32))) ∧ m9 = (if m5 < (16 : Int32) then m6 else (m6 + (-4 : Int32))) ∧ A3 l Z n0 D h 0 0 61 #[.val (.int m8), .val (.int m9)] [] := by
      by_cases br10 : m5 < (16 : Int32)
      · skip
        replace r : A3 l Z n0 D h 0 0 61 #[.val (.int m5), .val (.int m6)] [] := Own.icmpYes r d3_51 (tlt br10).1 (by decide) (by decide)
        exact ⟨_, _, by rw [if_pos br10], by rw [if_pos br10], r⟩
      · skip
        replace r : A3 l Z n0 D h 0 0 54 #[.val (.int m5), .val (.int m6)] [] := Own.icmpNo r d3_51 (flt br10).1
        replace r : A3 l Z n0 D h 0 0 57 #[.val (.int m5), .val (.int (m6 + (-4 : Int32)))] [] := Own.iinc r d3_54 rfl rfl rfl
        replace r : A3 l Z n0 D h 0 0 58 #[.val (.int m5), .val (.int (m6 + (-4 : Int32)))] [(.int m5)] := Own.iloadN r d3_57 rfl
        replace r : A3 l Z n0 D h 0 0 59 #[.val (.int m5), .val (.int (m6 + (-4 : Int32)))] [(.int (4 : Int32)), (.int m5)] := Own.iconst r d3_58 rfl
        replace r : A3 l Z n0 D h 0 0 60 #[.val (.int m5), .val (.int (m6 + (-4 : Int32)))] [(.int (Own.iushrW m5 (4 : Int32)))] := Own.iushr r d3_59
        replace r : A3 l Z n0 D h 0 0 61 #[.val (.int (Own.iushrW m5 (4 : Int32))), .val (.int (m6 + (-4 : Int32)))] [] := Own.istoreN r d3_60 rfl
        exact ⟨_, _, by rw [if_neg br10], by rw [if_neg br10], r⟩
    replace r : A3 l Z n0 D h 0 0 62 #[.val (.int m8), .val (.int m9)] [(.int m8)] := Own.iloadN r d3_61 rfl
    replace r : A3 l Z n0 D h 0 0 63 #[.val (.int m8), .val (.int m9)] [(.int (4 : Int32)), (.int m8)] := Own.iconst r d3_62 rfl
    obtain ⟨m11, m12, e_m11, e_m12, r⟩ : ∃ (m11 : Int32), ∃ (m12 : Int32), m11 = (if m8 < (4 : Int32) then m8 else (Own.iushrW m8 (2 : Int32))) ∧ m12 = (if m8 < (4 : Int32) then m9 else (m9 + (-2 : Int32))) ∧ A3 l Z n0 D h 0 0 73 #[.val (.int m11), .val (.int m12)] [] := by
      by_cases br13 : m8 < (4 : Int32)
      · skip
        replace r : A3 l Z n0 D h 0 0 73 #[.val (.int m8), .val (.int m9)] [] := Own.icmpYes r d3_63 (tlt br13).1 (by decide) (by decide)
        exact ⟨_, _, by rw [if_pos br13], by rw [if_pos br13], r⟩
      · skip
        replace r : A3 l Z n0 D h 0 0 66 #[.val (.int m8), .val (.int m9)] [] := Own.icmpNo r d3_63 (flt br13).1
        replace r : A3 l Z n0 D h 0 0 69 #[.val (.int m8), .val (.int (m9 + (-2 : Int32)))] [] := Own.iinc r d3_66 rfl rfl rfl
        replace r : A3 l Z n0 D h 0 0 70 #[.val (.int m8), .val (.int (m9 + (-2 : Int32)))] [(.int m8)] := Own.iloadN r d3_69 rfl
        replace r : A3 l Z n0 D h 0 0 71 #[.val (.int m8), .val (.int (m9 + (-2 : Int32)))] [(.int (2 : Int32)), (.int m8)] := Own.iconst r d3_70 rfl
        replace r : A3 l Z n0 D h 0 0 72 #[.val (.int m8), .val (.int (m9 + (-2 : Int32)))] [(.int (Own.iushrW m8 (2 : Int32)))] := Own.iushr r d3_71
        replace r : A3 l Z n0 D h 0 0 73 #[.val (.int (Own.iushrW m8 (2 : Int32))), .val (.int (m9 + (-2 : Int32)))] [] := Own.istoreN r d3_72 rfl
        exact ⟨_, _, by rw [if_neg br13], by rw [if_neg br13], r⟩
    replace r : A3 l Z n0 D h 0 0 74 #[.val (.int m11), .val (.int m12)] [(.int m12)] := Own.iloadN r d3_73 rfl
    replace r : A3 l Z n0 D h 0 0 75 #[.val (.int m11), .val (.int m12)] [(.int m11), (.int m12)] := Own.iloadN r d3_74 rfl
    replace r : A3 l Z n0 D h 0 0 76 #[.val (.int m11), .val (.int m12)] [(.int (1 : Int32)), (.int m11), (.int m12)] := Own.iconst r d3_75 rfl
    replace r : A3 l Z n0 D h 0 0 77 #[.val (.int m11), .val (.int m12)] [(.int (Own.iushrW m11 (1 : Int32))), (.int m12)] := Own.iushr r d3_76
    replace r : A3 l Z n0 D h 0 0 78 #[.val (.int m11), .val (.int m12)] [(.int (m12 - (Own.iushrW m11 (1 : Int32))))] := Own.isub r d3_77
    exact ⟨_, _, (Own.Rch.retI r d3_78).more (by decide) (by decide), rfl, _, rfl, ⟨fun _ => ⟨m2, e_m2, ⟨m3, e_m3, ⟨m5, e_m5, ⟨m6, e_m6, ⟨m8, e_m8, ⟨m9, e_m9, ⟨m11, e_m11, ⟨m12, e_m12, rfl⟩⟩⟩⟩⟩⟩⟩⟩, fun q => absurd br1 q⟩⟩
  · skip
    replace r : A3 l Z n0 D h 0 0 4 #[.val (.int p0), .unset] [] := Own.ifNo r d3_1 ((if0 _ _).trans (flt br1).2.2.1)
    replace r : A3 l Z n0 D h 0 0 5 #[.val (.int p0), .unset] [(.int p0)] := Own.iloadN r d3_4 rfl
    obtain ⟨m14, e_m14, r⟩ : ∃ (m14 : Int32), m14 = (if p0 = (0 : Int32) then (32 : Int32) else (0 : Int32)) ∧ A3 l Z n0 D h 0 0 14 #[.val (.int p0), .unset] [(.int m14)] := by
      by_cases br15 : p0 = (0 : Int32)
      · skip
        replace r : A3 l Z n0 D h 0 0 8 #[.val (.int p0), .unset] [] := Own.ifNo r d3_5 ((if0 _ _).trans (teq br15).2)
        replace r : A3 l Z n0 D h 0 0 10 #[.val (.int p0), .unset] [(.int (32 : Int32))] := Own.bipush r d3_8 rfl
        replace r : A3 l Z n0 D h 0 0 14 #[.val (.int p0), .unset] [(.int (32 : Int32))] := Own.goto r d3_10 (by decide) (by decide)
        exact ⟨_, by rw [if_pos br15], r⟩
      · skip
        replace r : A3 l Z n0 D h 0 0 13 #[.val (.int p0), .unset] [] := Own.ifYes r d3_5 ((if0 _ _).trans (feq br15).2) (by decide) (by decide)
        replace r : A3 l Z n0 D h 0 0 14 #[.val (.int p0), .unset] [(.int (0 : Int32))] := Own.iconst r d3_13 rfl
        exact ⟨_, by rw [if_neg br15], r⟩
    exact ⟨_, _, (Own.Rch.retI r d3_14).more (by decide) (by decide), rfl, _, rfl, ⟨fun q => absurd q br1, fun _ => ⟨m14, e_m14, rfl⟩⟩⟩
theorem d4_0 : decode jdk_29_method_69_code 0 = .ok (.iload_n 0, 1) := by decide +kernel
theorem d4_1 : decode jdk_29_method_69_code 1 = .ok (.iload_n 1, 1) := by decide +kernel
theorem d4_2 : decode jdk_29_method_69_code 2 = .ok (.if_icmp .gt 7, 3) := by decide +kernel
theorem d4_5 : decode jdk_29_method_69_code 5 = .ok (.iload_n 0, 1) := by decide +kernel
theorem d4_6 : decode jdk_29_method_69_code 6 = .ok (.goto 4, 3) := by decide +kernel
theorem d4_9 : decode jdk_29_method_69_code 9 = .ok (.iload_n 1, 1) := by decide +kernel
theorem d4_10 : decode jdk_29_method_69_code 10 = .ok (.ireturn, 1) := by decide +kernel
theorem pn_4 : plainFor (⟨"java/lang/Math", "min", "(II)I"⟩ : MethodName) = true := Jvm.Free.JP.mathPlain rfl (by decide +kernel)
theorem ef_4 (p0 : Int32) (p1 : Int32) (m : MethodId) : entryFrame m #[(.int p0), (.int p1)] 2 = mkF m 0 #[.val (.int p0), .val (.int p1)] [] := by first | (simp [entryFrame, mkF, argsToLocals, Value.category, maxLocals]; done) | rfl
abbrev R4 : Room := ({ frames := 0, cells := 0, slots := 0, locals := 0 } : Room)
abbrev A4 (l : Launch) (Z : State) (n0 : Nat) (D : Own.Dyn) := Own.Rch l Z n0 R4 (⟨"java/lang/Math", "min", "(II)I"⟩ : MethodName) jdk_29_method_69_code 2 (some .int) D
def S4 (p0 : Int32) (p1 : Int32) (w : Int32) : Prop := ∃ m1 : Int32, m1 = (if p1 < p0 then p1 else p0) ∧ w = m1
set_option maxRecDepth 65536 in
set_option maxHeartbeats 40000000 in
theorem c4 (l : Launch) (Z : State) (a0 : Array Value) (hw : ∀ d ∈ tables_1, d.before a0 Z = true) (n0 : Nat) (h : Heap) (Zs : n0 ≤ h.size) (p0 : Int32) (p1 : Int32)  :
    Own.Con l Z n0 (⟨"java/lang/Math", "min", "(II)I"⟩ : MethodName) jdk_29_method_69_code 2 (some .int) R4 #[(.int p0), (.int p1)] h (fun v h' => h = h' ∧ ∃ w : Int32, v = some (.int w) ∧ S4 p0 p1 w) := by
  refine Own.Con.enter pn_4 (ef_4 p0 p1) fun D r => ?_
  replace r : A4 l Z n0 D h 0 0 1 #[.val (.int p0), .val (.int p1)] [(.int p0)] := Own.iloadN r d4_0 rfl
  replace r : A4 l Z n0 D h 0 0 2 #[.val (.int p0), .val (.int p1)] [(.int p1), (.int p0)] := Own.iloadN r d4_1 rfl
  obtain ⟨m1, e_m1, r⟩ : ∃ (m1 : Int32), m1 = (if p1 < p0 then p1 else p0) ∧ A4 l Z n0 D h 0 0 10 #[.val (.int p0), .val (.int p1)] [(.int m1)] := by
    by_cases br2 : p1 < p0
    · skip
      replace r : A4 l Z n0 D h 0 0 9 #[.val (.int p0), .val (.int p1)] [] := Own.icmpYes r d4_2 (tlt br2).2.2.1 (by decide) (by decide)
      replace r : A4 l Z n0 D h 0 0 10 #[.val (.int p0), .val (.int p1)] [(.int p1)] := Own.iloadN r d4_9 rfl
      exact ⟨_, by rw [if_pos br2], r⟩
    · skip
      replace r : A4 l Z n0 D h 0 0 5 #[.val (.int p0), .val (.int p1)] [] := Own.icmpNo r d4_2 (flt br2).2.2.1
      replace r : A4 l Z n0 D h 0 0 6 #[.val (.int p0), .val (.int p1)] [(.int p0)] := Own.iloadN r d4_5 rfl
      replace r : A4 l Z n0 D h 0 0 10 #[.val (.int p0), .val (.int p1)] [(.int p0)] := Own.goto r d4_6 (by decide) (by decide)
      exact ⟨_, by rw [if_neg br2], r⟩
  exact ⟨_, _, (Own.Rch.retI r d4_10).more (by decide) (by decide), rfl, _, rfl, ⟨m1, e_m1, rfl⟩⟩
theorem d5_0 : decode prog_24_method_11_code 0 = .ok (.iload_n 0, 1) := by decide +kernel
theorem d5_1 : decode prog_24_method_11_code 1 = .ok (.iconst 4, 1) := by decide +kernel
theorem d5_2 : decode prog_24_method_11_code 2 = .ok (.ishl, 1) := by decide +kernel
theorem d5_3 : decode prog_24_method_11_code 3 = .ok (.iload_n 1, 1) := by decide +kernel
theorem d5_4 : decode prog_24_method_11_code 4 = .ok (.ixor, 1) := by decide +kernel
theorem d5_5 : decode prog_24_method_11_code 5 = .ok (.ireturn, 1) := by decide +kernel
theorem pn_5 : plainFor (⟨"needlework/Text", "gram", "(II)I"⟩ : MethodName) = true := plainFor_of_name (by first | (simp [plainName, overriddenIn, x]; done) | decide +kernel)
theorem ef_5 (p0 : Int32) (p1 : Int32) (m : MethodId) : entryFrame m #[(.int p0), (.int p1)] 2 = mkF m 0 #[.val (.int p0), .val (.int p1)] [] := by first | (simp [entryFrame, mkF, argsToLocals, Value.category, maxLocals]; done) | rfl
abbrev R5 : Room := ({ frames := 0, cells := 0, slots := 0, locals := 0 } : Room)
abbrev A5 (l : Launch) (Z : State) (n0 : Nat) (D : Own.Dyn) := Own.Rch l Z n0 R5 (⟨"needlework/Text", "gram", "(II)I"⟩ : MethodName) prog_24_method_11_code 2 (some .int) D
def S5 (p0 : Int32) (p1 : Int32) (w : Int32) : Prop := w = ((Own.ishlW p0 (4 : Int32)) ^^^ p1)
set_option maxRecDepth 65536 in
set_option maxHeartbeats 40000000 in
theorem c5 (l : Launch) (Z : State) (a0 : Array Value) (hw : ∀ d ∈ tables_1, d.before a0 Z = true) (n0 : Nat) (h : Heap) (Zs : n0 ≤ h.size) (p0 : Int32) (p1 : Int32)  :
    Own.Con l Z n0 (⟨"needlework/Text", "gram", "(II)I"⟩ : MethodName) prog_24_method_11_code 2 (some .int) R5 #[(.int p0), (.int p1)] h (fun v h' => h = h' ∧ ∃ w : Int32, v = some (.int w) ∧ S5 p0 p1 w) := by
  refine Own.Con.enter pn_5 (ef_5 p0 p1) fun D r => ?_
  replace r : A5 l Z n0 D h 0 0 1 #[.val (.int p0), .val (.int p1)] [(.int p0)] := Own.iloadN r d5_0 rfl
  replace r : A5 l Z n0 D h 0 0 2 #[.val (.int p0), .val (.int p1)] [(.int (4 : Int32)), (.int p0)] := Own.iconst r d5_1 rfl
  replace r : A5 l Z n0 D h 0 0 3 #[.val (.int p0), .val (.int p1)] [(.int (Own.ishlW p0 (4 : Int32)))] := Own.ishl r d5_2
  replace r : A5 l Z n0 D h 0 0 4 #[.val (.int p0), .val (.int p1)] [(.int p1), (.int (Own.ishlW p0 (4 : Int32)))] := Own.iloadN r d5_3 rfl
  replace r : A5 l Z n0 D h 0 0 5 #[.val (.int p0), .val (.int p1)] [(.int ((Own.ishlW p0 (4 : Int32)) ^^^ p1))] := Own.ixor r d5_4
  exact ⟨_, _, (Own.Rch.retI r d5_5).more (by decide) (by decide), rfl, _, rfl, rfl⟩
theorem d7_0 : decode prog_24_method_12_code 0 = .ok (.iload_n 0, 1) := by decide +kernel
theorem d7_1 : decode prog_24_method_12_code 1 = .ok (.iload_n 1, 1) := by decide +kernel
theorem d7_2 : decode prog_24_method_12_code 2 = .ok (.bipush 20, 2) := by decide +kernel
theorem d7_4 : decode prog_24_method_12_code 4 = .ok (.ishl, 1) := by decide +kernel
theorem d7_5 : decode prog_24_method_12_code 5 = .ok (.ixor, 1) := by decide +kernel
theorem d7_6 : decode prog_24_method_12_code 6 = .ok (.ireturn, 1) := by decide +kernel
theorem pn_7 : plainFor (⟨"needlework/Text", "ungram", "(II)I"⟩ : MethodName) = true := plainFor_of_name (by first | (simp [plainName, overriddenIn, x]; done) | decide +kernel)
theorem ef_7 (p0 : Int32) (p1 : Int32) (m : MethodId) : entryFrame m #[(.int p0), (.int p1)] 2 = mkF m 0 #[.val (.int p0), .val (.int p1)] [] := by first | (simp [entryFrame, mkF, argsToLocals, Value.category, maxLocals]; done) | rfl
abbrev R7 : Room := ({ frames := 0, cells := 0, slots := 0, locals := 0 } : Room)
abbrev A7 (l : Launch) (Z : State) (n0 : Nat) (D : Own.Dyn) := Own.Rch l Z n0 R7 (⟨"needlework/Text", "ungram", "(II)I"⟩ : MethodName) prog_24_method_12_code 2 (some .int) D
def S7 (p0 : Int32) (p1 : Int32) (w : Int32) : Prop := w = (p0 ^^^ (Own.ishlW p1 (20 : Int32)))
set_option maxRecDepth 65536 in
set_option maxHeartbeats 40000000 in
theorem c7 (l : Launch) (Z : State) (a0 : Array Value) (hw : ∀ d ∈ tables_1, d.before a0 Z = true) (n0 : Nat) (h : Heap) (Zs : n0 ≤ h.size) (p0 : Int32) (p1 : Int32)  :
    Own.Con l Z n0 (⟨"needlework/Text", "ungram", "(II)I"⟩ : MethodName) prog_24_method_12_code 2 (some .int) R7 #[(.int p0), (.int p1)] h (fun v h' => h = h' ∧ ∃ w : Int32, v = some (.int w) ∧ S7 p0 p1 w) := by
  refine Own.Con.enter pn_7 (ef_7 p0 p1) fun D r => ?_
  replace r : A7 l Z n0 D h 0 0 1 #[.val (.int p0), .val (.int p1)] [(.int p0)] := Own.iloadN r d7_0 rfl
  replace r : A7 l Z n0 D h 0 0 2 #[.val (.int p0), .val (.int p1)] [(.int p1), (.int p0)] := Own.iloadN r d7_1 rfl
  replace r : A7 l Z n0 D h 0 0 4 #[.val (.int p0), .val (.int p1)] [(.int (20 : Int32)), (.int p1), (.int p0)] := Own.bipush r d7_2 rfl
  replace r : A7 l Z n0 D h 0 0 5 #[.val (.int p0), .val (.int p1)] [(.int (Own.ishlW p1 (20 : Int32))), (.int p0)] := Own.ishl r d7_4
  replace r : A7 l Z n0 D h 0 0 6 #[.val (.int p0), .val (.int p1)] [(.int (p0 ^^^ (Own.ishlW p1 (20 : Int32))))] := Own.ixor r d7_5
  exact ⟨_, _, (Own.Rch.retI r d7_6).more (by decide) (by decide), rfl, _, rfl, rfl⟩
theorem d10_0 : decode jdk_2056_method_24_code 0 = .ok (.iload_n 0, 1) := by decide +kernel
theorem d10_1 : decode jdk_2056_method_24_code 1 = .ok (.sipush 255, 3) := by decide +kernel
theorem d10_4 : decode jdk_2056_method_24_code 4 = .ok (.iand, 1) := by decide +kernel
theorem d10_5 : decode jdk_2056_method_24_code 5 = .ok (.ireturn, 1) := by decide +kernel
theorem pn_10 : plainFor (⟨"java/lang/Byte", "toUnsignedInt", "(B)I"⟩ : MethodName) = true := plainFor_of_name (by first | (simp [plainName, overriddenIn, x]; done) | decide +kernel)
theorem ef_10 (p0 : Int32) (m : MethodId) : entryFrame m #[(.int p0)] 1 = mkF m 0 #[.val (.int p0)] [] := by first | (simp [entryFrame, mkF, argsToLocals, Value.category, maxLocals]; done) | rfl
abbrev R10 : Room := ({ frames := 0, cells := 0, slots := 0, locals := 0 } : Room)
abbrev A10 (l : Launch) (Z : State) (n0 : Nat) (D : Own.Dyn) := Own.Rch l Z n0 R10 (⟨"java/lang/Byte", "toUnsignedInt", "(B)I"⟩ : MethodName) jdk_2056_method_24_code 1 (some .int) D
def S10 (p0 : Int32) (w : Int32) : Prop := w = (p0 &&& (255 : Int32))
set_option maxRecDepth 65536 in
set_option maxHeartbeats 40000000 in
theorem c10 (l : Launch) (Z : State) (a0 : Array Value) (hw : ∀ d ∈ tables_1, d.before a0 Z = true) (n0 : Nat) (h : Heap) (Zs : n0 ≤ h.size) (p0 : Int32)  :
    Own.Con l Z n0 (⟨"java/lang/Byte", "toUnsignedInt", "(B)I"⟩ : MethodName) jdk_2056_method_24_code 1 (some .int) R10 #[(.int p0)] h (fun v h' => h = h' ∧ ∃ w : Int32, v = some (.int w) ∧ S10 p0 w) := by
  refine Own.Con.enter pn_10 (ef_10 p0) fun D r => ?_
  replace r : A10 l Z n0 D h 0 0 1 #[.val (.int p0)] [(.int p0)] := Own.iloadN r d10_0 rfl
  replace r : A10 l Z n0 D h 0 0 4 #[.val (.int p0)] [(.int (255 : Int32)), (.int p0)] := Own.sipush r d10_1 rfl
  replace r : A10 l Z n0 D h 0 0 5 #[.val (.int p0)] [(.int (p0 &&& (255 : Int32)))] := Own.iand r d10_4
  exact ⟨_, _, (Own.Rch.retI r d10_5).more (by decide) (by decide), rfl, _, rfl, rfl⟩
theorem d12_0 : decode jdk_29_method_65_code 0 = .ok (.iload_n 0, 1) := by decide +kernel
theorem d12_1 : decode jdk_29_method_65_code 1 = .ok (.iload_n 1, 1) := by decide +kernel
theorem d12_2 : decode jdk_29_method_65_code 2 = .ok (.if_icmp .lt 7, 3) := by decide +kernel
theorem d12_5 : decode jdk_29_method_65_code 5 = .ok (.iload_n 0, 1) := by decide +kernel
theorem d12_6 : decode jdk_29_method_65_code 6 = .ok (.goto 4, 3) := by decide +kernel
theorem d12_9 : decode jdk_29_method_65_code 9 = .ok (.iload_n 1, 1) := by decide +kernel
theorem d12_10 : decode jdk_29_method_65_code 10 = .ok (.ireturn, 1) := by decide +kernel
theorem pn_12 : plainFor (⟨"java/lang/Math", "max", "(II)I"⟩ : MethodName) = true := Jvm.Free.JP.mathPlain rfl (by decide +kernel)
theorem ef_12 (p0 : Int32) (p1 : Int32) (m : MethodId) : entryFrame m #[(.int p0), (.int p1)] 2 = mkF m 0 #[.val (.int p0), .val (.int p1)] [] := by first | (simp [entryFrame, mkF, argsToLocals, Value.category, maxLocals]; done) | rfl
abbrev R12 : Room := ({ frames := 0, cells := 0, slots := 0, locals := 0 } : Room)
abbrev A12 (l : Launch) (Z : State) (n0 : Nat) (D : Own.Dyn) := Own.Rch l Z n0 R12 (⟨"java/lang/Math", "max", "(II)I"⟩ : MethodName) jdk_29_method_65_code 2 (some .int) D
def S12 (p0 : Int32) (p1 : Int32) (w : Int32) : Prop := ∃ m1 : Int32, m1 = (if p0 < p1 then p1 else p0) ∧ w = m1
set_option maxRecDepth 65536 in
set_option maxHeartbeats 40000000 in
theorem c12 (l : Launch) (Z : State) (a0 : Array Value) (hw : ∀ d ∈ tables_1, d.before a0 Z = true) (n0 : Nat) (h : Heap) (Zs : n0 ≤ h.size) (p0 : Int32) (p1 : Int32)  :
    Own.Con l Z n0 (⟨"java/lang/Math", "max", "(II)I"⟩ : MethodName) jdk_29_method_65_code 2 (some .int) R12 #[(.int p0), (.int p1)] h (fun v h' => h = h' ∧ ∃ w : Int32, v = some (.int w) ∧ S12 p0 p1 w) := by
  refine Own.Con.enter pn_12 (ef_12 p0 p1) fun D r => ?_
  replace r : A12 l Z n0 D h 0 0 1 #[.val (.int p0), .val (.int p1)] [(.int p0)] := Own.iloadN r d12_0 rfl
  replace r : A12 l Z n0 D h 0 0 2 #[.val (.int p0), .val (.int p1)] [(.int p1), (.int p0)] := Own.iloadN r d12_1 rfl
  obtain ⟨m1, e_m1, r⟩ : ∃ (m1 : Int32), m1 = (if p0 < p1 then p1 else p0) ∧ A12 l Z n0 D h 0 0 10 #[.val (.int p0), .val (.int p1)] [(.int m1)] := by
    by_cases br2 : p0 < p1
    · skip
      replace r : A12 l Z n0 D h 0 0 9 #[.val (.int p0), .val (.int p1)] [] := Own.icmpYes r d12_2 (tlt br2).1 (by decide) (by decide)
      replace r : A12 l Z n0 D h 0 0 10 #[.val (.int p0), .val (.int p1)] [(.int p1)] := Own.iloadN r d12_9 rfl
      exact ⟨_, by rw [if_pos br2], r⟩
    · skip
      replace r : A12 l Z n0 D h 0 0 5 #[.val (.int p0), .val (.int p1)] [] := Own.icmpNo r d12_2 (flt br2).1
      replace r : A12 l Z n0 D h 0 0 6 #[.val (.int p0), .val (.int p1)] [(.int p0)] := Own.iloadN r d12_5 rfl
      replace r : A12 l Z n0 D h 0 0 10 #[.val (.int p0), .val (.int p1)] [(.int p0)] := Own.goto r d12_6 (by decide) (by decide)
      exact ⟨_, by rw [if_neg br2], r⟩
  exact ⟨_, _, (Own.Rch.retI r d12_10).more (by decide) (by decide), rfl, _, rfl, ⟨m1, e_m1, rfl⟩⟩
theorem d6_0 : decode prog_20_method_5_code 0 = .ok (.iload_n 1, 1) := by decide +kernel
theorem d6_1 : decode prog_20_method_5_code 1 = .ok (.ldc 55, 2) := by decide +kernel
theorem d6_3 : decode prog_20_method_5_code 3 = .ok (.imul, 1) := by decide +kernel
theorem d6_4 : decode prog_20_method_5_code 4 = .ok (.bipush 32, 2) := by decide +kernel
theorem d6_6 : decode prog_20_method_5_code 6 = .ok (.aload_n 0, 1) := by decide +kernel
theorem d6_7 : decode prog_20_method_5_code 7 = .ok (.getfield 30, 3) := by decide +kernel
theorem d6_10 : decode prog_20_method_5_code 10 = .ok (.isub, 1) := by decide +kernel
theorem d6_11 : decode prog_20_method_5_code 11 = .ok (.iushr, 1) := by decide +kernel
theorem d6_12 : decode prog_20_method_5_code 12 = .ok (.aload_n 0, 1) := by decide +kernel
theorem d6_13 : decode prog_20_method_5_code 13 = .ok (.getfield 33, 3) := by decide +kernel
theorem d6_16 : decode prog_20_method_5_code 16 = .ok (.arraylength, 1) := by decide +kernel
theorem d6_17 : decode prog_20_method_5_code 17 = .ok (.iconst 1, 1) := by decide +kernel
theorem d6_18 : decode prog_20_method_5_code 18 = .ok (.isub, 1) := by decide +kernel
theorem d6_19 : decode prog_20_method_5_code 19 = .ok (.iand, 1) := by decide +kernel
theorem d6_20 : decode prog_20_method_5_code 20 = .ok (.ireturn, 1) := by decide +kernel
theorem pn_6 : plainFor (⟨"needlework/Skip", "slot", "(I)I"⟩ : MethodName) = true := plainFor_of_name (by first | (simp [plainName, overriddenIn, x]; done) | decide +kernel)
theorem ef_6 (a0_ : Addr) (p1 : Int32) (m : MethodId) : entryFrame m #[(.ref a0_), (.int p1)] 2 = mkF m 0 #[.val (.ref a0_), .val (.int p1)] [] := by first | (simp [entryFrame, mkF, argsToLocals, Value.category, maxLocals]; done) | rfl
abbrev R6 : Room := ({ frames := 0, cells := 0, slots := 0, locals := 0 } : Room)
abbrev A6 (l : Launch) (Z : State) (n0 : Nat) (D : Own.Dyn) := Own.Rch l Z n0 R6 (⟨"needlework/Skip", "slot", "(I)I"⟩ : MethodName) prog_20_method_5_code 2 (some .int) D
def S6 (p1 : Int32) (bt : Int32) (M : List Int32) (w : Int32) : Prop := w = ((Own.iushrW (p1 * (-1640531535 : Int32)) ((32 : Int32) - bt)) &&& ((1024 : Int32) - (1 : Int32)))
set_option maxRecDepth 65536 in
set_option maxHeartbeats 40000000 in
theorem c6 (l : Launch) (Z : State) (a0 : Array Value) (hw : ∀ d ∈ tables_1, d.before a0 Z = true) (n0 : Nat) (h : Heap) (Zs : n0 ≤ h.size) (a0_ : Addr) (p1 : Int32) (bt : Int32) (tb_ : Addr) (M : List Int32) (F_bits_a0_ : Fld Z h a0_ "needlework/Skip" "bits" "I" (.int bt)) (F_table_a0_ : Fld Z h a0_ "needlework/Skip" "table" "[B" (.ref tb_)) (V_tb_ : Own.VA Z h tb_ .byte (M.map Value.int)) (hM : M.length = 1024) :
    Own.Con l Z n0 (⟨"needlework/Skip", "slot", "(I)I"⟩ : MethodName) prog_20_method_5_code 2 (some .int) R6 #[(.ref a0_), (.int p1)] h (fun v h' => h = h' ∧ ∃ w : Int32, v = some (.int w) ∧ S6 p1 bt M w) := by
  refine Own.Con.enter pn_6 (ef_6 a0_ p1) fun D r => ?_
  replace r : A6 l Z n0 D h 0 0 1 #[.val (.ref a0_), .val (.int p1)] [(.int p1)] := Own.iloadN r d6_0 rfl
  replace r : A6 l Z n0 D h 0 0 3 #[.val (.ref a0_), .val (.int p1)] [(.int (-1640531535 : Int32)), (.int p1)] := Own.ldcI r d6_1 (hw _ (List.mem_of_getElem? (i := 37) rfl))
  replace r : A6 l Z n0 D h 0 0 4 #[.val (.ref a0_), .val (.int p1)] [(.int (p1 * (-1640531535 : Int32)))] := Own.imul r d6_3
  replace r : A6 l Z n0 D h 0 0 6 #[.val (.ref a0_), .val (.int p1)] [(.int (32 : Int32)), (.int (p1 * (-1640531535 : Int32)))] := Own.bipush r d6_4 rfl
  replace r : A6 l Z n0 D h 0 0 7 #[.val (.ref a0_), .val (.int p1)] [(.ref a0_), (.int (32 : Int32)), (.int (p1 * (-1640531535 : Int32)))] := Own.aloadN r d6_6 rfl rfl
  replace r : A6 l Z n0 D h 0 0 10 #[.val (.ref a0_), .val (.int p1)] [(.int bt), (.int (32 : Int32)), (.int (p1 * (-1640531535 : Int32)))] := Own.getfield r d6_7 (host := "") (Or.inl (hw _ (List.mem_of_getElem? (i := 24) rfl))) Via.refl F_bits_a0_
  replace r : A6 l Z n0 D h 0 0 11 #[.val (.ref a0_), .val (.int p1)] [(.int ((32 : Int32) - bt)), (.int (p1 * (-1640531535 : Int32)))] := Own.isub r d6_10
  replace r : A6 l Z n0 D h 0 0 12 #[.val (.ref a0_), .val (.int p1)] [(.int (Own.iushrW (p1 * (-1640531535 : Int32)) ((32 : Int32) - bt)))] := Own.iushr r d6_11
  replace r : A6 l Z n0 D h 0 0 13 #[.val (.ref a0_), .val (.int p1)] [(.ref a0_), (.int (Own.iushrW (p1 * (-1640531535 : Int32)) ((32 : Int32) - bt)))] := Own.aloadN r d6_12 rfl rfl
  replace r : A6 l Z n0 D h 0 0 16 #[.val (.ref a0_), .val (.int p1)] [(.ref tb_), (.int (Own.iushrW (p1 * (-1640531535 : Int32)) ((32 : Int32) - bt)))] := Own.getfield r d6_13 (host := "") (Or.inl (hw _ (List.mem_of_getElem? (i := 27) rfl))) Via.refl F_table_a0_
  replace r : A6 l Z n0 D h 0 0 17 #[.val (.ref a0_), .val (.int p1)] [(.int (1024 : Int32)), (.int (Own.iushrW (p1 * (-1640531535 : Int32)) ((32 : Int32) - bt)))] := Own.arrlen r d6_16 V_tb_ (by rw [List.length_map, hM]; rfl)
  replace r : A6 l Z n0 D h 0 0 18 #[.val (.ref a0_), .val (.int p1)] [(.int (1 : Int32)), (.int (1024 : Int32)), (.int (Own.iushrW (p1 * (-1640531535 : Int32)) ((32 : Int32) - bt)))] := Own.iconst r d6_17 rfl
  replace r : A6 l Z n0 D h 0 0 19 #[.val (.ref a0_), .val (.int p1)] [(.int ((1024 : Int32) - (1 : Int32))), (.int (Own.iushrW (p1 * (-1640531535 : Int32)) ((32 : Int32) - bt)))] := Own.isub r d6_18
  replace r : A6 l Z n0 D h 0 0 20 #[.val (.ref a0_), .val (.int p1)] [(.int ((Own.iushrW (p1 * (-1640531535 : Int32)) ((32 : Int32) - bt)) &&& ((1024 : Int32) - (1 : Int32))))] := Own.iand r d6_19
  exact ⟨_, _, (Own.Rch.retI r d6_20).more (by decide) (by decide), rfl, _, rfl, rfl⟩
theorem d8_0 : decode prog_20_method_4_code 0 = .ok (.aload_n 0, 1) := by decide +kernel
theorem d8_1 : decode prog_20_method_4_code 1 = .ok (.getfield 33, 3) := by decide +kernel
theorem d8_4 : decode prog_20_method_4_code 4 = .ok (.aload_n 0, 1) := by decide +kernel
theorem d8_5 : decode prog_20_method_4_code 5 = .ok (.iload_n 1, 1) := by decide +kernel
theorem d8_6 : decode prog_20_method_4_code 6 = .ok (.invokevirtual 43, 3) := by decide +kernel
theorem d8_9 : decode prog_20_method_4_code 9 = .ok (.baload, 1) := by decide +kernel
theorem d8_10 : decode prog_20_method_4_code 10 = .ok (.ifCond .ne 7, 3) := by decide +kernel
theorem d8_13 : decode prog_20_method_4_code 13 = .ok (.iconst 1, 1) := by decide +kernel
theorem d8_14 : decode prog_20_method_4_code 14 = .ok (.goto 4, 3) := by decide +kernel
theorem d8_17 : decode prog_20_method_4_code 17 = .ok (.iconst 0, 1) := by decide +kernel
theorem d8_18 : decode prog_20_method_4_code 18 = .ok (.ireturn, 1) := by decide +kernel
theorem pd_8_0 : parseMethodDescriptor "(I)I" = some ⟨[.int], some .int⟩ := by decide +kernel
theorem pn_8 : plainFor (⟨"needlework/Skip", "absent", "(I)Z"⟩ : MethodName) = true := plainFor_of_name (by first | (simp [plainName, overriddenIn, x]; done) | decide +kernel)
theorem ef_8 (a0_ : Addr) (p1 : Int32) (m : MethodId) : entryFrame m #[(.ref a0_), (.int p1)] 2 = mkF m 0 #[.val (.ref a0_), .val (.int p1)] [] := by first | (simp [entryFrame, mkF, argsToLocals, Value.category, maxLocals]; done) | rfl
abbrev R8 : Room := ({ frames := 1, cells := 0, slots := 0, locals := 14 } : Room)
abbrev A8 (l : Launch) (Z : State) (n0 : Nat) (D : Own.Dyn) := Own.Rch l Z n0 R8 (⟨"needlework/Skip", "absent", "(I)Z"⟩ : MethodName) prog_20_method_4_code 2 (some .boolean) D
def S8 (p1 : Int32) (M : List Int32) (w : Int32) : Prop := ∃ m5 : Int32, m5 = (if (Own.ga M ((Own.iushrW (p1 * (-1640531535 : Int32)) ((32 : Int32) - (10 : Int32))) &&& ((1024 : Int32) - (1 : Int32)))) = (0 : Int32) then (1 : Int32) else (0 : Int32)) ∧ w = m5
set_option maxRecDepth 65536 in
set_option maxHeartbeats 40000000 in
theorem c8 (l : Launch) (Z : State) (a0 : Array Value) (hw : ∀ d ∈ tables_1, d.before a0 Z = true) (n0 : Nat) (h : Heap) (Zs : n0 ≤ h.size) (a0_ : Addr) (p1 : Int32) (tb_ : Addr) (M : List Int32) (F_table_a0_ : Fld Z h a0_ "needlework/Skip" "table" "[B" (.ref tb_)) (V_tb_ : Own.VA Z h tb_ .byte (M.map Value.int)) (X_a0_ : Exa Z h a0_ "needlework/Skip") (F_bits_a0_ : Fld Z h a0_ "needlework/Skip" "bits" "I" (.int (10 : Int32))) (F_full_a0_ : Fld Z h a0_ "needlework/Skip" "full" "I" (.int (60 : Int32))) (F_grain_a0_ : Fld Z h a0_ "needlework/Skip" "grain" "I" (.int (0 : Int32))) (hM : M.length = 1024) :
    Own.Con l Z n0 (⟨"needlework/Skip", "absent", "(I)Z"⟩ : MethodName) prog_20_method_4_code 2 (some .boolean) R8 #[(.ref a0_), (.int p1)] h (fun v h' => h = h' ∧ ∃ w : Int32, v = some (.int w) ∧ S8 p1 M w) := by
  refine Own.Con.enter pn_8 (ef_8 a0_ p1) fun D r => ?_
  replace r : A8 l Z n0 D h 0 0 1 #[.val (.ref a0_), .val (.int p1)] [(.ref a0_)] := Own.aloadN r d8_0 rfl rfl
  replace r : A8 l Z n0 D h 0 0 4 #[.val (.ref a0_), .val (.int p1)] [(.ref tb_)] := Own.getfield r d8_1 (host := "") (Or.inl (hw _ (List.mem_of_getElem? (i := 27) rfl))) Via.refl F_table_a0_
  replace r : A8 l Z n0 D h 0 0 5 #[.val (.ref a0_), .val (.int p1)] [(.ref a0_), (.ref tb_)] := Own.aloadN r d8_4 rfl rfl
  replace r : A8 l Z n0 D h 0 0 6 #[.val (.ref a0_), .val (.int p1)] [(.int p1), (.ref a0_), (.ref tb_)] := Own.iloadN r d8_5 rfl
  obtain ⟨rv1, h2, hQ3, r⟩ := Own.callP [(.int p1)] r d8_6 (c6 l Z a0 hw n0 h Zs a0_ p1 (10 : Int32) tb_ M F_bits_a0_ F_table_a0_ V_tb_ hM) X_a0_ (hw _ (List.mem_of_getElem? (i := 33) rfl)) (hw _ (List.mem_of_getElem? (i := 34) rfl)) (hw _ (List.mem_of_getElem? (i := 3) rfl)) (hw _ (List.mem_of_getElem? (i := 35) rfl)) (hw _ (List.mem_of_getElem? (i := 4) rfl)) (hw _ (List.mem_of_getElem? (i := 36) rfl)) (lenOf pd_8_0 rfl) rfl rfl (W := 1) (Nat.le_of_eq rfl) rfl (by decide) (by decide) (by decide) (by decide) (by decide)
  obtain ⟨rfl, y4, rfl, e_y4⟩ := hQ3
  replace e_y4 : y4 = ((Own.iushrW (p1 * (-1640531535 : Int32)) ((32 : Int32) - (10 : Int32))) &&& ((1024 : Int32) - (1 : Int32))) := e_y4
  subst e_y4
  replace r : A8 l Z n0 D h 0 0 9 #[.val (.ref a0_), .val (.int p1)] [(.int ((Own.iushrW (p1 * (-1640531535 : Int32)) ((32 : Int32) - (10 : Int32))) &&& ((1024 : Int32) - (1 : Int32)))), (.ref tb_)] := r
  replace r : A8 l Z n0 D h 0 0 10 #[.val (.ref a0_), .val (.int p1)] [(.int (Own.ga M ((Own.iushrW (p1 * (-1640531535 : Int32)) ((32 : Int32) - (10 : Int32))) &&& ((1024 : Int32) - (1 : Int32)))))] := Own.baload r d8_9 V_tb_ (own_slotin hM p1).1 (own_slotin hM p1).2
  obtain ⟨m5, e_m5, r⟩ : ∃ (m5 : Int32), m5 = (if (Own.ga M ((Own.iushrW (p1 * (-1640531535 : Int32)) ((32 : Int32) - (10 : Int32))) &&& ((1024 : Int32) - (1 : Int32)))) = (0 : Int32) then (1 : Int32) else (0 : Int32)) ∧ A8 l Z n0 D h 0 0 18 #[.val (.ref a0_), .val (.int p1)] [(.int m5)] := by
    by_cases br6 : (Own.ga M ((Own.iushrW (p1 * (-1640531535 : Int32)) ((32 : Int32) - (10 : Int32))) &&& ((1024 : Int32) - (1 : Int32)))) = (0 : Int32)
    · skip
      replace r : A8 l Z n0 D h 0 0 13 #[.val (.ref a0_), .val (.int p1)] [] := Own.ifNo r d8_10 ((if0 _ _).trans (teq br6).2)
      replace r : A8 l Z n0 D h 0 0 14 #[.val (.ref a0_), .val (.int p1)] [(.int (1 : Int32))] := Own.iconst r d8_13 rfl
      replace r : A8 l Z n0 D h 0 0 18 #[.val (.ref a0_), .val (.int p1)] [(.int (1 : Int32))] := Own.goto r d8_14 (by decide) (by decide)
      exact ⟨_, by rw [if_pos br6], r⟩
    · skip
      replace r : A8 l Z n0 D h 0 0 17 #[.val (.ref a0_), .val (.int p1)] [] := Own.ifYes r d8_10 ((if0 _ _).trans (feq br6).2) (by decide) (by decide)
      replace r : A8 l Z n0 D h 0 0 18 #[.val (.ref a0_), .val (.int p1)] [(.int (0 : Int32))] := Own.iconst r d8_17 rfl
      exact ⟨_, by rw [if_neg br6], r⟩
  exact ⟨_, _, (Own.Rch.retZ r d8_18 (by rw [e_m5]; (repeat' split) <;> rfl)).more (by decide) (by decide), rfl, _, rfl, ⟨m5, e_m5, rfl⟩⟩
theorem d9_0 : decode prog_20_method_3_code 0 = .ok (.aload_n 0, 1) := by decide +kernel
theorem d9_1 : decode prog_20_method_3_code 1 = .ok (.getfield 33, 3) := by decide +kernel
theorem d9_4 : decode prog_20_method_3_code 4 = .ok (.aload_n 0, 1) := by decide +kernel
theorem d9_5 : decode prog_20_method_3_code 5 = .ok (.iload_n 1, 1) := by decide +kernel
theorem d9_6 : decode prog_20_method_3_code 6 = .ok (.invokevirtual 43, 3) := by decide +kernel
theorem d9_9 : decode prog_20_method_3_code 9 = .ok (.baload, 1) := by decide +kernel
theorem d9_10 : decode prog_20_method_3_code 10 = .ok (.invokestatic 46, 3) := by decide +kernel
theorem d9_13 : decode prog_20_method_3_code 13 = .ok (.istore_n 2, 1) := by decide +kernel
theorem d9_14 : decode prog_20_method_3_code 14 = .ok (.iload_n 2, 1) := by decide +kernel
theorem d9_15 : decode prog_20_method_3_code 15 = .ok (.ifCond .ne 8, 3) := by decide +kernel
theorem d9_18 : decode prog_20_method_3_code 18 = .ok (.aload_n 0, 1) := by decide +kernel
theorem d9_19 : decode prog_20_method_3_code 19 = .ok (.getfield 9, 3) := by decide +kernel
theorem d9_22 : decode prog_20_method_3_code 22 = .ok (.ireturn, 1) := by decide +kernel
theorem d9_23 : decode prog_20_method_3_code 23 = .ok (.iload_n 2, 1) := by decide +kernel
theorem d9_24 : decode prog_20_method_3_code 24 = .ok (.sipush 255, 3) := by decide +kernel
theorem d9_27 : decode prog_20_method_3_code 27 = .ok (.if_icmp .ne 5, 3) := by decide +kernel
theorem d9_30 : decode prog_20_method_3_code 30 = .ok (.iconst 0, 1) := by decide +kernel
theorem d9_31 : decode prog_20_method_3_code 31 = .ok (.ireturn, 1) := by decide +kernel
theorem d9_32 : decode prog_20_method_3_code 32 = .ok (.iconst 1, 1) := by decide +kernel
theorem d9_33 : decode prog_20_method_3_code 33 = .ok (.aload_n 0, 1) := by decide +kernel
theorem d9_34 : decode prog_20_method_3_code 34 = .ok (.getfield 9, 3) := by decide +kernel
theorem d9_37 : decode prog_20_method_3_code 37 = .ok (.iload_n 2, 1) := by decide +kernel
theorem d9_38 : decode prog_20_method_3_code 38 = .ok (.aload_n 0, 1) := by decide +kernel
theorem d9_39 : decode prog_20_method_3_code 39 = .ok (.getfield 15, 3) := by decide +kernel
theorem d9_42 : decode prog_20_method_3_code 42 = .ok (.ishl, 1) := by decide +kernel
theorem d9_43 : decode prog_20_method_3_code 43 = .ok (.isub, 1) := by decide +kernel
theorem d9_44 : decode prog_20_method_3_code 44 = .ok (.invokestatic 52, 3) := by decide +kernel
theorem d9_47 : decode prog_20_method_3_code 47 = .ok (.ireturn, 1) := by decide +kernel
theorem pd_9_0 : parseMethodDescriptor "(I)I" = some ⟨[.int], some .int⟩ := by decide +kernel
theorem pd_9_1 : parseMethodDescriptor "(B)I" = some ⟨[.byte], some .int⟩ := by decide +kernel
theorem pd_9_2 : parseMethodDescriptor "(II)I" = some ⟨[.int, .int], some .int⟩ := by decide +kernel
theorem pn_9 : plainFor (⟨"needlework/Skip", "shift", "(I)I"⟩ : MethodName) = true := plainFor_of_name (by first | (simp [plainName, overriddenIn, x]; done) | decide +kernel)
theorem ef_9 (a0_ : Addr) (p1 : Int32) (m : MethodId) : entryFrame m #[(.ref a0_), (.int p1)] 3 = mkF m 0 #[.val (.ref a0_), .val (.int p1), .unset] [] := by first | (simp [entryFrame, mkF, argsToLocals, Value.category, maxLocals]; done) | rfl
abbrev R9 : Room := ({ frames := 1, cells := 0, slots := 0, locals := 14 } : Room)
abbrev A9 (l : Launch) (Z : State) (n0 : Nat) (D : Own.Dyn) := Own.Rch l Z n0 R9 (⟨"needlework/Skip", "shift", "(I)I"⟩ : MethodName) prog_20_method_3_code 3 (some .int) D
def S9 (p1 : Int32) (M : List Int32) (w : Int32) : Prop := ∃ v2_9 : Int32, v2_9 = ((Own.ga M ((Own.iushrW (p1 * (-1640531535 : Int32)) ((32 : Int32) - (10 : Int32))) &&& ((1024 : Int32) - (1 : Int32)))) &&& (255 : Int32)) ∧ ((v2_9 = (0 : Int32) → w = (60 : Int32)) ∧ (¬ (v2_9 = (0 : Int32)) → ((v2_9 = (255 : Int32) → w = (0 : Int32)) ∧ (¬ (v2_9 = (255 : Int32)) → ∃ y15 : Int32, S12 (1 : Int32) ((60 : Int32) - (Own.ishlW v2_9 (0 : Int32))) y15 ∧ w = y15))))
set_option maxRecDepth 65536 in
set_option maxHeartbeats 40000000 in
theorem c9 (l : Launch) (Z : State) (a0 : Array Value) (hw : ∀ d ∈ tables_1, d.before a0 Z = true) (n0 : Nat) (h : Heap) (Zs : n0 ≤ h.size) (a0_ : Addr) (p1 : Int32) (tb_ : Addr) (M : List Int32) (F_table_a0_ : Fld Z h a0_ "needlework/Skip" "table" "[B" (.ref tb_)) (V_tb_ : Own.VA Z h tb_ .byte (M.map Value.int)) (X_a0_ : Exa Z h a0_ "needlework/Skip") (F_bits_a0_ : Fld Z h a0_ "needlework/Skip" "bits" "I" (.int (10 : Int32))) (F_full_a0_ : Fld Z h a0_ "needlework/Skip" "full" "I" (.int (60 : Int32))) (F_grain_a0_ : Fld Z h a0_ "needlework/Skip" "grain" "I" (.int (0 : Int32))) (hM : M.length = 1024) :
    Own.Con l Z n0 (⟨"needlework/Skip", "shift", "(I)I"⟩ : MethodName) prog_20_method_3_code 3 (some .int) R9 #[(.ref a0_), (.int p1)] h (fun v h' => h = h' ∧ ∃ w : Int32, v = some (.int w) ∧ S9 p1 M w) := by
  refine Own.Con.enter pn_9 (ef_9 a0_ p1) fun D r => ?_
  replace r : A9 l Z n0 D h 0 0 1 #[.val (.ref a0_), .val (.int p1), .unset] [(.ref a0_)] := Own.aloadN r d9_0 rfl rfl
  replace r : A9 l Z n0 D h 0 0 4 #[.val (.ref a0_), .val (.int p1), .unset] [(.ref tb_)] := Own.getfield r d9_1 (host := "") (Or.inl (hw _ (List.mem_of_getElem? (i := 27) rfl))) Via.refl F_table_a0_
  replace r : A9 l Z n0 D h 0 0 5 #[.val (.ref a0_), .val (.int p1), .unset] [(.ref a0_), (.ref tb_)] := Own.aloadN r d9_4 rfl rfl
  replace r : A9 l Z n0 D h 0 0 6 #[.val (.ref a0_), .val (.int p1), .unset] [(.int p1), (.ref a0_), (.ref tb_)] := Own.iloadN r d9_5 rfl
  obtain ⟨rv1, h2, hQ3, r⟩ := Own.callP [(.int p1)] r d9_6 (c6 l Z a0 hw n0 h Zs a0_ p1 (10 : Int32) tb_ M F_bits_a0_ F_table_a0_ V_tb_ hM) X_a0_ (hw _ (List.mem_of_getElem? (i := 33) rfl)) (hw _ (List.mem_of_getElem? (i := 34) rfl)) (hw _ (List.mem_of_getElem? (i := 3) rfl)) (hw _ (List.mem_of_getElem? (i := 35) rfl)) (hw _ (List.mem_of_getElem? (i := 4) rfl)) (hw _ (List.mem_of_getElem? (i := 36) rfl)) (lenOf pd_9_0 rfl) rfl rfl (W := 1) (Nat.le_of_eq rfl) rfl (by decide) (by decide) (by decide) (by decide) (by decide)
  obtain ⟨rfl, y4, rfl, e_y4⟩ := hQ3
  replace e_y4 : y4 = ((Own.iushrW (p1 * (-1640531535 : Int32)) ((32 : Int32) - (10 : Int32))) &&& ((1024 : Int32) - (1 : Int32))) := e_y4
  subst e_y4
  replace r : A9 l Z n0 D h 0 0 9 #[.val (.ref a0_), .val (.int p1), .unset] [(.int ((Own.iushrW (p1 * (-1640531535 : Int32)) ((32 : Int32) - (10 : Int32))) &&& ((1024 : Int32) - (1 : Int32)))), (.ref tb_)] := r
  replace r : A9 l Z n0 D h 0 0 10 #[.val (.ref a0_), .val (.int p1), .unset] [(.int (Own.ga M ((Own.iushrW (p1 * (-1640531535 : Int32)) ((32 : Int32) - (10 : Int32))) &&& ((1024 : Int32) - (1 : Int32)))))] := Own.baload r d9_9 V_tb_ (own_slotin hM p1).1 (own_slotin hM p1).2
  obtain ⟨rv5, h6, hQ7, r⟩ := Own.callS [(.int (Own.ga M ((Own.iushrW (p1 * (-1640531535 : Int32)) ((32 : Int32) - (10 : Int32))) &&& ((1024 : Int32) - (1 : Int32)))))] r d9_10 (c10 l Z a0 hw n0 h Zs (Own.ga M ((Own.iushrW (p1 * (-1640531535 : Int32)) ((32 : Int32) - (10 : Int32))) &&& ((1024 : Int32) - (1 : Int32))))) (hw _ (List.mem_of_getElem? (i := 51) rfl)) (hw _ (List.mem_of_getElem? (i := 52) rfl)) (hw _ (List.mem_of_getElem? (i := 53) rfl)) (hw _ (List.mem_of_getElem? (i := 54) rfl)) (lenOf pd_9_1 rfl) rfl rfl (W := 0) (Nat.le_of_eq rfl) rfl (by decide) (by decide) (by decide) (by decide) (by decide)
  obtain ⟨rfl, y8, rfl, e_y8⟩ := hQ7
  replace e_y8 : y8 = ((Own.ga M ((Own.iushrW (p1 * (-1640531535 : Int32)) ((32 : Int32) - (10 : Int32))) &&& ((1024 : Int32) - (1 : Int32)))) &&& (255 : Int32)) := e_y8
  subst e_y8
  replace r : A9 l Z n0 D h 0 0 13 #[.val (.ref a0_), .val (.int p1), .unset] [(.int ((Own.ga M ((Own.iushrW (p1 * (-1640531535 : Int32)) ((32 : Int32) - (10 : Int32))) &&& ((1024 : Int32) - (1 : Int32)))) &&& (255 : Int32)))] := r
  obtain ⟨v2_9, e_v2_9⟩ : ∃ z : Int32, z = ((Own.ga M ((Own.iushrW (p1 * (-1640531535 : Int32)) ((32 : Int32) - (10 : Int32))) &&& ((1024 : Int32) - (1 : Int32)))) &&& (255 : Int32)) := ⟨_, rfl⟩
  replace r : A9 l Z n0 D h 0 0 13 #[.val (.ref a0_), .val (.int p1), .unset] [(.int v2_9)] := by rw [e_v2_9]; exact r
  replace r : A9 l Z n0 D h 0 0 14 #[.val (.ref a0_), .val (.int p1), .val (.int v2_9)] [] := Own.istoreN r d9_13 rfl
  replace r : A9 l Z n0 D h 0 0 15 #[.val (.ref a0_), .val (.int p1), .val (.int v2_9)] [(.int v2_9)] := Own.iloadN r d9_14 rfl
  by_cases br10 : v2_9 = (0 : Int32)
  · skip
    replace r : A9 l Z n0 D h 0 0 18 #[.val (.ref a0_), .val (.int p1), .val (.int v2_9)] [] := Own.ifNo r d9_15 ((if0 _ _).trans (teq br10).2)
    replace r : A9 l Z n0 D h 0 0 19 #[.val (.ref a0_), .val (.int p1), .val (.int v2_9)] [(.ref a0_)] := Own.aloadN r d9_18 rfl rfl
    replace r : A9 l Z n0 D h 0 0 22 #[.val (.ref a0_), .val (.int p1), .val (.int v2_9)] [(.int (60 : Int32))] := Own.getfield r d9_19 (host := "") (Or.inl (hw _ (List.mem_of_getElem? (i := 11) rfl))) Via.refl F_full_a0_
    exact ⟨_, _, (Own.Rch.retI r d9_22).more (by decide) (by decide), rfl, _, rfl, ⟨v2_9, e_v2_9, ⟨fun _ => rfl, fun q => absurd br10 q⟩⟩⟩
  · skip
    replace r : A9 l Z n0 D h 0 0 23 #[.val (.ref a0_), .val (.int p1), .val (.int v2_9)] [] := Own.ifYes r d9_15 ((if0 _ _).trans (feq br10).2) (by decide) (by decide)
    replace r : A9 l Z n0 D h 0 0 24 #[.val (.ref a0_), .val (.int p1), .val (.int v2_9)] [(.int v2_9)] := Own.iloadN r d9_23 rfl
    replace r : A9 l Z n0 D h 0 0 27 #[.val (.ref a0_), .val (.int p1), .val (.int v2_9)] [(.int (255 : Int32)), (.int v2_9)] := Own.sipush r d9_24 rfl
    by_cases br11 : v2_9 = (255 : Int32)
    · skip
      replace r : A9 l Z n0 D h 0 0 30 #[.val (.ref a0_), .val (.int p1), .val (.int v2_9)] [] := Own.icmpNo r d9_27 (teq br11).2
      replace r : A9 l Z n0 D h 0 0 31 #[.val (.ref a0_), .val (.int p1), .val (.int v2_9)] [(.int (0 : Int32))] := Own.iconst r d9_30 rfl
      exact ⟨_, _, (Own.Rch.retI r d9_31).more (by decide) (by decide), rfl, _, rfl, ⟨v2_9, e_v2_9, ⟨fun q => absurd q br10, fun _ => ⟨fun _ => rfl, fun q => absurd br11 q⟩⟩⟩⟩
    · skip
      replace r : A9 l Z n0 D h 0 0 32 #[.val (.ref a0_), .val (.int p1), .val (.int v2_9)] [] := Own.icmpYes r d9_27 (feq br11).2 (by decide) (by decide)
      replace r : A9 l Z n0 D h 0 0 33 #[.val (.ref a0_), .val (.int p1), .val (.int v2_9)] [(.int (1 : Int32))] := Own.iconst r d9_32 rfl
      replace r : A9 l Z n0 D h 0 0 34 #[.val (.ref a0_), .val (.int p1), .val (.int v2_9)] [(.ref a0_), (.int (1 : Int32))] := Own.aloadN r d9_33 rfl rfl
      replace r : A9 l Z n0 D h 0 0 37 #[.val (.ref a0_), .val (.int p1), .val (.int v2_9)] [(.int (60 : Int32)), (.int (1 : Int32))] := Own.getfield r d9_34 (host := "") (Or.inl (hw _ (List.mem_of_getElem? (i := 11) rfl))) Via.refl F_full_a0_
      replace r : A9 l Z n0 D h 0 0 38 #[.val (.ref a0_), .val (.int p1), .val (.int v2_9)] [(.int v2_9), (.int (60 : Int32)), (.int (1 : Int32))] := Own.iloadN r d9_37 rfl
      replace r : A9 l Z n0 D h 0 0 39 #[.val (.ref a0_), .val (.int p1), .val (.int v2_9)] [(.ref a0_), (.int v2_9), (.int (60 : Int32)), (.int (1 : Int32))] := Own.aloadN r d9_38 rfl rfl
      replace r : A9 l Z n0 D h 0 0 42 #[.val (.ref a0_), .val (.int p1), .val (.int v2_9)] [(.int (0 : Int32)), (.int v2_9), (.int (60 : Int32)), (.int (1 : Int32))] := Own.getfield r d9_39 (host := "") (Or.inl (hw _ (List.mem_of_getElem? (i := 13) rfl))) Via.refl F_grain_a0_
      replace r : A9 l Z n0 D h 0 0 43 #[.val (.ref a0_), .val (.int p1), .val (.int v2_9)] [(.int (Own.ishlW v2_9 (0 : Int32))), (.int (60 : Int32)), (.int (1 : Int32))] := Own.ishl r d9_42
      replace r : A9 l Z n0 D h 0 0 44 #[.val (.ref a0_), .val (.int p1), .val (.int v2_9)] [(.int ((60 : Int32) - (Own.ishlW v2_9 (0 : Int32)))), (.int (1 : Int32))] := Own.isub r d9_43
      obtain ⟨rv12, h13, hQ14, r⟩ := Own.callS [(.int (1 : Int32)), (.int ((60 : Int32) - (Own.ishlW v2_9 (0 : Int32))))] r d9_44 (c12 l Z a0 hw n0 h Zs (1 : Int32) ((60 : Int32) - (Own.ishlW v2_9 (0 : Int32)))) (hw _ (List.mem_of_getElem? (i := 60) rfl)) (hw _ (List.mem_of_getElem? (i := 61) rfl)) (hw _ (List.mem_of_getElem? (i := 22) rfl)) (hw _ (List.mem_of_getElem? (i := 62) rfl)) (lenOf pd_9_2 rfl) rfl rfl (W := 0) (Nat.le_of_eq rfl) rfl (by decide) (by decide) (by decide) (by decide) (by decide)
      obtain ⟨rfl, y15, rfl, e_y15⟩ := hQ14
      replace r : A9 l Z n0 D h 0 0 47 #[.val (.ref a0_), .val (.int p1), .val (.int v2_9)] [(.int y15)] := r
      exact ⟨_, _, (Own.Rch.retI r d9_47).more (by decide) (by decide), rfl, _, rfl, ⟨v2_9, e_v2_9, ⟨fun q => absurd q br10, fun _ => ⟨fun q => absurd q br11, fun _ => ⟨y15, e_y15, rfl⟩⟩⟩⟩⟩
theorem d11_0 : decode prog_20_method_2_code 0 = .ok (.aload_n 0, 1) := by decide +kernel
theorem d11_1 : decode prog_20_method_2_code 1 = .ok (.getfield 9, 3) := by decide +kernel
theorem d11_4 : decode prog_20_method_2_code 4 = .ok (.ireturn, 1) := by decide +kernel
theorem pn_11 : plainFor (⟨"needlework/Skip", "full", "()I"⟩ : MethodName) = true := plainFor_of_name (by first | (simp [plainName, overriddenIn, x]; done) | decide +kernel)
theorem ef_11 (a0_ : Addr) (m : MethodId) : entryFrame m #[(.ref a0_)] 1 = mkF m 0 #[.val (.ref a0_)] [] := by first | (simp [entryFrame, mkF, argsToLocals, Value.category, maxLocals]; done) | rfl
abbrev R11 : Room := ({ frames := 0, cells := 0, slots := 0, locals := 0 } : Room)
abbrev A11 (l : Launch) (Z : State) (n0 : Nat) (D : Own.Dyn) := Own.Rch l Z n0 R11 (⟨"needlework/Skip", "full", "()I"⟩ : MethodName) prog_20_method_2_code 1 (some .int) D
def S11 (fu : Int32) (w : Int32) : Prop := w = fu
set_option maxRecDepth 65536 in
set_option maxHeartbeats 40000000 in
theorem c11 (l : Launch) (Z : State) (a0 : Array Value) (hw : ∀ d ∈ tables_1, d.before a0 Z = true) (n0 : Nat) (h : Heap) (Zs : n0 ≤ h.size) (a0_ : Addr) (fu : Int32) (F_full_a0_ : Fld Z h a0_ "needlework/Skip" "full" "I" (.int fu)) :
    Own.Con l Z n0 (⟨"needlework/Skip", "full", "()I"⟩ : MethodName) prog_20_method_2_code 1 (some .int) R11 #[(.ref a0_)] h (fun v h' => h = h' ∧ ∃ w : Int32, v = some (.int w) ∧ S11 fu w) := by
  refine Own.Con.enter pn_11 (ef_11 a0_) fun D r => ?_
  replace r : A11 l Z n0 D h 0 0 1 #[.val (.ref a0_)] [(.ref a0_)] := Own.aloadN r d11_0 rfl rfl
  replace r : A11 l Z n0 D h 0 0 4 #[.val (.ref a0_)] [(.int fu)] := Own.getfield r d11_1 (host := "") (Or.inl (hw _ (List.mem_of_getElem? (i := 11) rfl))) Via.refl F_full_a0_
  exact ⟨_, _, (Own.Rch.retI r d11_4).more (by decide) (by decide), rfl, _, rfl, rfl⟩
theorem own_ex {α : Type} {a : α} {P : α → Prop} : (∃ v, v = a ∧ P v) ↔ P a := ⟨fun ⟨v, e, p⟩ => e ▸ p, fun p => ⟨a, rfl, p⟩⟩
theorem own_nlz {y : Int32} (h : S3 (64 : Int32) y) : y = (25 : Int32) := by
  simp only [S3, own_ex] at h
  exact (h.1 (by decide)).trans (by decide)
theorem own_min {y : Int32} (h : S4 (16 : Int32) (10 : Int32) y) : y = (10 : Int32) := by
  simp only [S4, own_ex] at h
  exact h.trans (by decide)
def own_E (e : Nat) : Int32 := Int32.ofInt ((e : Int) + 1)
theorem own_Ei {e : Nat} (h : e ≤ 100) : (own_E e).toInt = (e : Int) + 1 := by
  unfold own_E; rw [Int32.toInt_ofInt]; exact XT.bmod32 ⟨by omega, by omega⟩
theorem own_ei {e : Nat} (h : e < 64) : 1 ≤ (own_E e).toInt ∧ (own_E e).toInt ≤ 64 := by rw [own_Ei (by omega)]; omega
theorem own_E1 (e : Nat) : own_E e + (1 : Int32) = own_E (e + 1) := by
  unfold own_E
  have : (1 : Int32) = Int32.ofInt 1 := rfl
  rw [this, ← Int32.ofInt_add]; rfl
def own_G (L : List Int32) : Nat → Int32
  | 0 => 0
  | e + 1 => if 5 < e + 1 then ((Own.ishlW (own_G L e) (4 : Int32)) ^^^ L.getD e 0) ^^^ (Own.ishlW (L.getD (e - 5) 0) (20 : Int32)) else (Own.ishlW (own_G L e) (4 : Int32)) ^^^ L.getD e 0
def own_v (e : Nat) : Int32 := nar .byte (Own.i2bW (if (64 : Int32) - own_E e = (0 : Int32) then (255 : Int32) else (Own.ishrW ((((60 : Int32) - ((64 : Int32) - own_E e)) + (1 : Int32)) - (1 : Int32)) (0 : Int32))))
def own_T (L : List Int32) : Nat → List Int32
  | 0 => List.replicate 1024 (0 : Int32)
  | e + 1 => if e + 1 < 5 then own_T L e else (own_T L e).set (own_sl (own_G L (e + 1))).toNatClampNeg (own_v e)
theorem own_tlen (L : List Int32) (e : Nat) : (own_T L e).length = 1024 := by
  induction e with
  | zero => unfold own_T; exact List.length_replicate
  | succ e ih => unfold own_T; split <;> simp [ih]
theorem own_go {p5 : Int32} (h64 : p5.toInt ≤ 64) : ¬ (64 : Int32) < p5 := by rw [Int32.lt_iff_toInt_lt]; have : (64 : Int32).toInt = 64 := rfl; omega
theorem own_stop : (64 : Int32) < own_E 64 := by decide
theorem own_pk {L : List Int32} {p5 k : Int32} (hL : L.length = 64) (h1 : k.toInt ≤ p5.toInt) (hk : 1 ≤ k.toInt) (h64 : p5.toInt ≤ 64) : ¬ (p5 - k) < 0 ∧ (L.map Value.int)[(p5 - k).toNatClampNeg]? = some (.int (Own.ga L (p5 - k))) := by
  have := c_isub p5 k; have := (p5 - k).toInt_lt; have := (p5 - k).le_toInt
  exact own_get (by omega) (by omega)
theorem own_p1 {L : List Int32} {p5 : Int32} (hL : L.length = 64) (h1 : 1 ≤ p5.toInt) (h64 : p5.toInt ≤ 64) : ¬ (p5 - (1 : Int32)) < 0 ∧ (L.map Value.int)[(p5 - (1 : Int32)).toNatClampNeg]? = some (.int (Own.ga L (p5 - (1 : Int32)))) := own_pk hL h1 (by decide) h64
theorem own_s15 (p : Int32) : (p - (1 : Int32)) - (5 : Int32) = p - (6 : Int32) := by
  apply Int32.toInt_inj.mp
  have := c_isub p 1; have := c_isub (p - 1) 5; have := c_isub p 6; have : (1 : Int32).toInt = 1 := rfl; have : (5 : Int32).toInt = 5 := rfl; have : (6 : Int32).toInt = 6 := rfl
  have := (p - 1 - 5).toInt_lt; have := (p - 1 - 5).le_toInt; have := (p - 6).toInt_lt; have := (p - 6).le_toInt
  omega
theorem own_p5 {L : List Int32} {p5 : Int32} (hL : L.length = 64) (h1 : 1 ≤ p5.toInt) (h64 : p5.toInt ≤ 64) (c : (5 : Int32) < p5) : ¬ ((p5 - (1 : Int32)) - (5 : Int32)) < 0 ∧ (L.map Value.int)[((p5 - (1 : Int32)) - (5 : Int32)).toNatClampNeg]? = some (.int (Own.ga L ((p5 - (1 : Int32)) - (5 : Int32)))) := by
  rw [own_s15]
  rw [Int32.lt_iff_toInt_lt] at c
  have : (5 : Int32).toInt = 5 := rfl; have : (6 : Int32).toInt = 6 := rfl
  exact own_pk hL (by omega) (by decide) h64

theorem d1_0 : decode prog_20_method_1_code 0 = .ok (.aload_n 0, 1) := by decide +kernel
theorem d1_1 : decode prog_20_method_1_code 1 = .ok (.invokespecial 1, 3) := by decide +kernel
theorem d1_4 : decode prog_20_method_1_code 4 = .ok (.aload_n 1, 1) := by decide +kernel
theorem d1_5 : decode prog_20_method_1_code 5 = .ok (.arraylength, 1) := by decide +kernel
theorem d1_6 : decode prog_20_method_1_code 6 = .ok (.istore_n 2, 1) := by decide +kernel
theorem d1_7 : decode prog_20_method_1_code 7 = .ok (.aload_n 0, 1) := by decide +kernel
theorem d1_8 : decode prog_20_method_1_code 8 = .ok (.iload_n 2, 1) := by decide +kernel
theorem d1_9 : decode prog_20_method_1_code 9 = .ok (.iconst 5, 1) := by decide +kernel
theorem d1_10 : decode prog_20_method_1_code 10 = .ok (.isub, 1) := by decide +kernel
theorem d1_11 : decode prog_20_method_1_code 11 = .ok (.iconst 1, 1) := by decide +kernel
theorem d1_12 : decode prog_20_method_1_code 12 = .ok (.iadd, 1) := by decide +kernel
theorem d1_13 : decode prog_20_method_1_code 13 = .ok (.putfield 9, 3) := by decide +kernel
theorem d1_16 : decode prog_20_method_1_code 16 = .ok (.iconst 0, 1) := by decide +kernel
theorem d1_17 : decode prog_20_method_1_code 17 = .ok (.istore_n 3, 1) := by decide +kernel
theorem d1_18 : decode prog_20_method_1_code 18 = .ok (.aload_n 0, 1) := by decide +kernel
theorem d1_19 : decode prog_20_method_1_code 19 = .ok (.getfield 9, 3) := by decide +kernel
theorem d1_22 : decode prog_20_method_1_code 22 = .ok (.iconst 1, 1) := by decide +kernel
theorem d1_23 : decode prog_20_method_1_code 23 = .ok (.isub, 1) := by decide +kernel
theorem d1_24 : decode prog_20_method_1_code 24 = .ok (.iload_n 3, 1) := by decide +kernel
theorem d1_25 : decode prog_20_method_1_code 25 = .ok (.ishr, 1) := by decide +kernel
theorem d1_26 : decode prog_20_method_1_code 26 = .ok (.sipush 254, 3) := by decide +kernel
theorem d1_29 : decode prog_20_method_1_code 29 = .ok (.if_icmp .lt 9, 3) := by decide +kernel
theorem d1_38 : decode prog_20_method_1_code 38 = .ok (.aload_n 0, 1) := by decide +kernel
theorem d1_39 : decode prog_20_method_1_code 39 = .ok (.iload_n 3, 1) := by decide +kernel
theorem d1_40 : decode prog_20_method_1_code 40 = .ok (.putfield 15, 3) := by decide +kernel
theorem d1_43 : decode prog_20_method_1_code 43 = .ok (.aload_n 0, 1) := by decide +kernel
theorem d1_44 : decode prog_20_method_1_code 44 = .ok (.bipush 16, 2) := by decide +kernel
theorem d1_46 : decode prog_20_method_1_code 46 = .ok (.bipush 32, 2) := by decide +kernel
theorem d1_48 : decode prog_20_method_1_code 48 = .ok (.iload_n 2, 1) := by decide +kernel
theorem d1_49 : decode prog_20_method_1_code 49 = .ok (.invokestatic 18, 3) := by decide +kernel
theorem d1_52 : decode prog_20_method_1_code 52 = .ok (.isub, 1) := by decide +kernel
theorem d1_53 : decode prog_20_method_1_code 53 = .ok (.iconst 3, 1) := by decide +kernel
theorem d1_54 : decode prog_20_method_1_code 54 = .ok (.iadd, 1) := by decide +kernel
theorem d1_55 : decode prog_20_method_1_code 55 = .ok (.invokestatic 24, 3) := by decide +kernel
theorem d1_58 : decode prog_20_method_1_code 58 = .ok (.putfield 30, 3) := by decide +kernel
theorem d1_61 : decode prog_20_method_1_code 61 = .ok (.aload_n 0, 1) := by decide +kernel
theorem d1_62 : decode prog_20_method_1_code 62 = .ok (.iconst 1, 1) := by decide +kernel
theorem d1_63 : decode prog_20_method_1_code 63 = .ok (.aload_n 0, 1) := by decide +kernel
theorem d1_64 : decode prog_20_method_1_code 64 = .ok (.getfield 30, 3) := by decide +kernel
theorem d1_67 : decode prog_20_method_1_code 67 = .ok (.ishl, 1) := by decide +kernel
theorem d1_68 : decode prog_20_method_1_code 68 = .ok (.newarray .byte, 2) := by decide +kernel
theorem d1_70 : decode prog_20_method_1_code 70 = .ok (.putfield 33, 3) := by decide +kernel
theorem d1_73 : decode prog_20_method_1_code 73 = .ok (.iconst 0, 1) := by decide +kernel
theorem d1_74 : decode prog_20_method_1_code 74 = .ok (.istore 4, 2) := by decide +kernel
theorem d1_76 : decode prog_20_method_1_code 76 = .ok (.iconst 1, 1) := by decide +kernel
theorem d1_77 : decode prog_20_method_1_code 77 = .ok (.istore 5, 2) := by decide +kernel
theorem d1_79 : decode prog_20_method_1_code 79 = .ok (.iload 5, 2) := by decide +kernel
theorem d1_81 : decode prog_20_method_1_code 81 = .ok (.iload_n 2, 1) := by decide +kernel
theorem d1_82 : decode prog_20_method_1_code 82 = .ok (.if_icmp .gt 96, 3) := by decide +kernel
theorem d1_85 : decode prog_20_method_1_code 85 = .ok (.iload 4, 2) := by decide +kernel
theorem d1_87 : decode prog_20_method_1_code 87 = .ok (.aload_n 1, 1) := by decide +kernel
theorem d1_88 : decode prog_20_method_1_code 88 = .ok (.iload 5, 2) := by decide +kernel
theorem d1_90 : decode prog_20_method_1_code 90 = .ok (.iconst 1, 1) := by decide +kernel
theorem d1_91 : decode prog_20_method_1_code 91 = .ok (.isub, 1) := by decide +kernel
theorem d1_92 : decode prog_20_method_1_code 92 = .ok (.iaload, 1) := by decide +kernel
theorem d1_93 : decode prog_20_method_1_code 93 = .ok (.invokestatic 37, 3) := by decide +kernel
theorem d1_96 : decode prog_20_method_1_code 96 = .ok (.istore 4, 2) := by decide +kernel
theorem d1_98 : decode prog_20_method_1_code 98 = .ok (.iload 5, 2) := by decide +kernel
theorem d1_100 : decode prog_20_method_1_code 100 = .ok (.iconst 5, 1) := by decide +kernel
theorem d1_101 : decode prog_20_method_1_code 101 = .ok (.if_icmp .le 18, 3) := by decide +kernel
theorem d1_104 : decode prog_20_method_1_code 104 = .ok (.iload 4, 2) := by decide +kernel
theorem d1_106 : decode prog_20_method_1_code 106 = .ok (.aload_n 1, 1) := by decide +kernel
theorem d1_107 : decode prog_20_method_1_code 107 = .ok (.iload 5, 2) := by decide +kernel
theorem d1_109 : decode prog_20_method_1_code 109 = .ok (.iconst 1, 1) := by decide +kernel
theorem d1_110 : decode prog_20_method_1_code 110 = .ok (.isub, 1) := by decide +kernel
theorem d1_111 : decode prog_20_method_1_code 111 = .ok (.iconst 5, 1) := by decide +kernel
theorem d1_112 : decode prog_20_method_1_code 112 = .ok (.isub, 1) := by decide +kernel
theorem d1_113 : decode prog_20_method_1_code 113 = .ok (.iaload, 1) := by decide +kernel
theorem d1_114 : decode prog_20_method_1_code 114 = .ok (.invokestatic 40, 3) := by decide +kernel
theorem d1_117 : decode prog_20_method_1_code 117 = .ok (.istore 4, 2) := by decide +kernel
theorem d1_119 : decode prog_20_method_1_code 119 = .ok (.iload 5, 2) := by decide +kernel
theorem d1_121 : decode prog_20_method_1_code 121 = .ok (.iconst 5, 1) := by decide +kernel
theorem d1_122 : decode prog_20_method_1_code 122 = .ok (.if_icmp .ge 6, 3) := by decide +kernel
theorem d1_125 : decode prog_20_method_1_code 125 = .ok (.goto 47, 3) := by decide +kernel
theorem d1_128 : decode prog_20_method_1_code 128 = .ok (.iload_n 2, 1) := by decide +kernel
theorem d1_129 : decode prog_20_method_1_code 129 = .ok (.iload 5, 2) := by decide +kernel
theorem d1_131 : decode prog_20_method_1_code 131 = .ok (.isub, 1) := by decide +kernel
theorem d1_132 : decode prog_20_method_1_code 132 = .ok (.istore 6, 2) := by decide +kernel
theorem d1_134 : decode prog_20_method_1_code 134 = .ok (.aload_n 0, 1) := by decide +kernel
theorem d1_135 : decode prog_20_method_1_code 135 = .ok (.getfield 33, 3) := by decide +kernel
theorem d1_138 : decode prog_20_method_1_code 138 = .ok (.aload_n 0, 1) := by decide +kernel
theorem d1_139 : decode prog_20_method_1_code 139 = .ok (.iload 4, 2) := by decide +kernel
theorem d1_141 : decode prog_20_method_1_code 141 = .ok (.invokevirtual 43, 3) := by decide +kernel
theorem d1_144 : decode prog_20_method_1_code 144 = .ok (.iload 6, 2) := by decide +kernel
theorem d1_146 : decode prog_20_method_1_code 146 = .ok (.ifCond .ne 9, 3) := by decide +kernel
theorem d1_149 : decode prog_20_method_1_code 149 = .ok (.sipush 255, 3) := by decide +kernel
theorem d1_152 : decode prog_20_method_1_code 152 = .ok (.goto 18, 3) := by decide +kernel
theorem d1_155 : decode prog_20_method_1_code 155 = .ok (.aload_n 0, 1) := by decide +kernel
theorem d1_156 : decode prog_20_method_1_code 156 = .ok (.getfield 9, 3) := by decide +kernel
theorem d1_159 : decode prog_20_method_1_code 159 = .ok (.iload 6, 2) := by decide +kernel
theorem d1_161 : decode prog_20_method_1_code 161 = .ok (.isub, 1) := by decide +kernel
theorem d1_162 : decode prog_20_method_1_code 162 = .ok (.iconst 1, 1) := by decide +kernel
theorem d1_163 : decode prog_20_method_1_code 163 = .ok (.iload_n 3, 1) := by decide +kernel
theorem d1_164 : decode prog_20_method_1_code 164 = .ok (.ishl, 1) := by decide +kernel
theorem d1_165 : decode prog_20_method_1_code 165 = .ok (.iadd, 1) := by decide +kernel
theorem d1_166 : decode prog_20_method_1_code 166 = .ok (.iconst 1, 1) := by decide +kernel
theorem d1_167 : decode prog_20_method_1_code 167 = .ok (.isub, 1) := by decide +kernel
theorem d1_168 : decode prog_20_method_1_code 168 = .ok (.iload_n 3, 1) := by decide +kernel
theorem d1_169 : decode prog_20_method_1_code 169 = .ok (.ishr, 1) := by decide +kernel
theorem d1_170 : decode prog_20_method_1_code 170 = .ok (.i2b, 1) := by decide +kernel
theorem d1_171 : decode prog_20_method_1_code 171 = .ok (.bastore, 1) := by decide +kernel
theorem d1_172 : decode prog_20_method_1_code 172 = .ok (.iinc 5 1, 3) := by decide +kernel
theorem d1_175 : decode prog_20_method_1_code 175 = .ok (.goto (-96), 3) := by decide +kernel
theorem d1_178 : decode prog_20_method_1_code 178 = .ok (.return_, 1) := by decide +kernel
theorem pd_1_0 : parseMethodDescriptor "(II)I" = some ⟨[.int, .int], some .int⟩ := by decide +kernel
theorem pd_1_1 : parseMethodDescriptor "(I)I" = some ⟨[.int], some .int⟩ := by decide +kernel
theorem pn_1 : plainFor (⟨"needlework/Skip", "<init>", "([I)V"⟩ : MethodName) = true := plainFor_of_name (by first | (simp [plainName, overriddenIn, x]; done) | decide +kernel)
theorem ef_1 (a0_ : Addr) (a1_ : Addr) (m : MethodId) : entryFrame m #[(.ref a0_), (.ref a1_)] 7 = mkF m 0 #[.val (.ref a0_), .val (.ref a1_), .unset, .unset, .unset, .unset, .unset] [] := by first | (simp [entryFrame, mkF, argsToLocals, Value.category, maxLocals]; done) | rfl
abbrev R1 : Room := ({ frames := 1, cells := 1, slots := 1024, locals := 16 } : Room)
abbrev A1 (l : Launch) (Z : State) (n0 : Nat) (D : Own.Dyn) := Own.Rch l Z n0 R1 (⟨"needlework/Skip", "<init>", "([I)V"⟩ : MethodName) prog_20_method_1_code 7 none D
def u1_79_79S (p4 : Int32) (p5 : Int32) (L : List Int32) (M : List Int32) (g' : Int32) (M' : List Int32) : Prop := ∃ v4_5 : Int32, v4_5 = ((Own.ishlW p4 (4 : Int32)) ^^^ (Own.ga L (p5 - (1 : Int32)))) ∧ (((5 : Int32) < p5 → ∃ v4_11 : Int32, v4_11 = (v4_5 ^^^ (Own.ishlW (Own.ga L ((p5 - (1 : Int32)) - (5 : Int32))) (20 : Int32))) ∧ ((p5 < (5 : Int32) → (g' = v4_11 ∧ M' = M)) ∧ (¬ (p5 < (5 : Int32)) → ∃ v6_13 : Int32, v6_13 = ((64 : Int32) - p5) ∧ ∃ m18 : Int32, m18 = (if v6_13 = (0 : Int32) then (255 : Int32) else (Own.ishrW ((((60 : Int32) - v6_13) + (1 : Int32)) - (1 : Int32)) (0 : Int32))) ∧ ∃ w20 : Int32, w20 = (Own.i2bW m18) ∧ (g' = v4_11 ∧ M' = (M.set ((Own.iushrW (v4_11 * (-1640531535 : Int32)) ((32 : Int32) - (10 : Int32))) &&& ((1024 : Int32) - (1 : Int32))).toNatClampNeg (nar .byte w20)))))) ∧ (¬ ((5 : Int32) < p5) → ((p5 < (5 : Int32) → (g' = v4_5 ∧ M' = M)) ∧ (¬ (p5 < (5 : Int32)) → ∃ v6_24 : Int32, v6_24 = ((64 : Int32) - p5) ∧ ∃ m29 : Int32, m29 = (if v6_24 = (0 : Int32) then (255 : Int32) else (Own.ishrW ((((60 : Int32) - v6_24) + (1 : Int32)) - (1 : Int32)) (0 : Int32))) ∧ ∃ w31 : Int32, w31 = (Own.i2bW m29) ∧ (g' = v4_5 ∧ M' = (M.set ((Own.iushrW (v4_5 * (-1640531535 : Int32)) ((32 : Int32) - (10 : Int32))) &&& ((1024 : Int32) - (1 : Int32))).toNatClampNeg (nar .byte w31)))))))
set_option maxRecDepth 65536 in
set_option maxHeartbeats 40000000 in
theorem u1_79_79 (l : Launch) (Z : State) (a0 : Array Value) (hw : ∀ d ∈ tables_1, d.before a0 Z = true) (n0 : Nat) (h : Heap) (Zs : n0 ≤ h.size) (D : Own.Dyn) (a0_ : Addr) (a1_ : Addr) (tb : Addr) (p4 : Int32) (p5 : Int32) (sl6 : Slot) (L : List Int32) (M : List Int32) (hh : Heap) (K : Keep hh h [a0_]) (X_a0_ : Exa Z h a0_ "needlework/Skip") (F_full_a0_ : Fld Z h a0_ "needlework/Skip" "full" "I" (.int (60 : Int32))) (F_grain_a0_ : Fld Z h a0_ "needlework/Skip" "grain" "I" (.int (0 : Int32))) (F_bits_a0_ : Fld Z h a0_ "needlework/Skip" "bits" "I" (.int (10 : Int32))) (F_table_a0_ : Fld Z h a0_ "needlework/Skip" "table" "[B" (.ref tb)) (V_a1_ : Own.VA Z h a1_ .int (L.map Value.int)) (V_tb : Own.VA Z h tb .byte (M.map Value.int)) (ne_a1__a0_ : a1_ ≠ a0_) (ne_tb_a0_ : tb ≠ a0_) (ne_a1__tb : a1_ ≠ tb) (ge_a0_ : n0 ≤ a0_) (ge_tb : n0 ≤ tb) (o6 : sl6 = .unset ∨ ∃ w, sl6 = .val w ∧ w.category = 1) (hL : L.length = 64) (hM : M.length = 1024) (h1 : 1 ≤ p5.toInt) (h64 : p5.toInt ≤ 64) (sz_tb : hh.size ≤ tb) (r : A1 l Z n0 D h 1 1024 79 #[.val (.ref a0_), .val (.ref a1_), .val (.int (64 : Int32)), .val (.int (0 : Int32)), .val (.int p4), .val (.int p5), sl6] []) :
    ∃ (h' : Heap) (g' : Int32) (M' : List Int32) (sl' : Slot), n0 ≤ h'.size ∧ Keep hh h' [a0_] ∧ Exa Z h' a0_ "needlework/Skip" ∧ Fld Z h' a0_ "needlework/Skip" "full" "I" (.int (60 : Int32)) ∧ Fld Z h' a0_ "needlework/Skip" "grain" "I" (.int (0 : Int32)) ∧ Fld Z h' a0_ "needlework/Skip" "bits" "I" (.int (10 : Int32)) ∧ Fld Z h' a0_ "needlework/Skip" "table" "[B" (.ref tb) ∧ Own.VA Z h' a1_ .int (L.map Value.int) ∧ Own.VA Z h' tb .byte (M'.map Value.int) ∧ (sl' = .unset ∨ ∃ w, sl' = .val w ∧ w.category = 1) ∧ A1 l Z n0 D h' 1 1024 79 #[.val (.ref a0_), .val (.ref a1_), .val (.int (64 : Int32)), .val (.int (0 : Int32)), .val (.int g'), .val (.int (p5 + (1 : Int32))), sl'] [] ∧ u1_79_79S p4 p5 L M g' M' := by
  replace r : A1 l Z n0 D h 1 1024 81 #[.val (.ref a0_), .val (.ref a1_), .val (.int (64 : Int32)), .val (.int (0 : Int32)), .val (.int p4), .val (.int p5), sl6] [(.int p5)] := Own.iload r d1_79 rfl
  replace r : A1 l Z n0 D h 1 1024 82 #[.val (.ref a0_), .val (.ref a1_), .val (.int (64 : Int32)), .val (.int (0 : Int32)), .val (.int p4), .val (.int p5), sl6] [(.int (64 : Int32)), (.int p5)] := Own.iloadN r d1_81 rfl
  replace r : A1 l Z n0 D h 1 1024 85 #[.val (.ref a0_), .val (.ref a1_), .val (.int (64 : Int32)), .val (.int (0 : Int32)), .val (.int p4), .val (.int p5), sl6] [] := Own.icmpNo r d1_82 (flt (own_go h64)).2.2.1
  replace r : A1 l Z n0 D h 1 1024 87 #[.val (.ref a0_), .val (.ref a1_), .val (.int (64 : Int32)), .val (.int (0 : Int32)), .val (.int p4), .val (.int p5), sl6] [(.int p4)] := Own.iload r d1_85 rfl
  replace r : A1 l Z n0 D h 1 1024 88 #[.val (.ref a0_), .val (.ref a1_), .val (.int (64 : Int32)), .val (.int (0 : Int32)), .val (.int p4), .val (.int p5), sl6] [(.ref a1_), (.int p4)] := Own.aloadN r d1_87 rfl rfl
  replace r : A1 l Z n0 D h 1 1024 90 #[.val (.ref a0_), .val (.ref a1_), .val (.int (64 : Int32)), .val (.int (0 : Int32)), .val (.int p4), .val (.int p5), sl6] [(.int p5), (.ref a1_), (.int p4)] := Own.iload r d1_88 rfl
  replace r : A1 l Z n0 D h 1 1024 91 #[.val (.ref a0_), .val (.ref a1_), .val (.int (64 : Int32)), .val (.int (0 : Int32)), .val (.int p4), .val (.int p5), sl6] [(.int (1 : Int32)), (.int p5), (.ref a1_), (.int p4)] := Own.iconst r d1_90 rfl
  replace r : A1 l Z n0 D h 1 1024 92 #[.val (.ref a0_), .val (.ref a1_), .val (.int (64 : Int32)), .val (.int (0 : Int32)), .val (.int p4), .val (.int p5), sl6] [(.int (p5 - (1 : Int32))), (.ref a1_), (.int p4)] := Own.isub r d1_91
  replace r : A1 l Z n0 D h 1 1024 93 #[.val (.ref a0_), .val (.ref a1_), .val (.int (64 : Int32)), .val (.int (0 : Int32)), .val (.int p4), .val (.int p5), sl6] [(.int (Own.ga L (p5 - (1 : Int32)))), (.int p4)] := Own.iaload r d1_92 V_a1_ (own_p1 hL h1 h64).1 (own_p1 hL h1 h64).2
  obtain ⟨rv1, h2, hQ3, r⟩ := Own.callS [(.int p4), (.int (Own.ga L (p5 - (1 : Int32))))] r d1_93 (c5 l Z a0 hw n0 h Zs p4 (Own.ga L (p5 - (1 : Int32)))) (hw _ (List.mem_of_getElem? (i := 29) rfl)) (hw _ (List.mem_of_getElem? (i := 30) rfl)) (hw _ (List.mem_of_getElem? (i := 31) rfl)) (hw _ (List.mem_of_getElem? (i := 32) rfl)) (lenOf pd_1_0 rfl) rfl rfl (W := 0) (Nat.le_of_eq rfl) rfl (by decide) (by decide) (by decide) (by decide) (by decide)
  obtain ⟨rfl, y4, rfl, e_y4⟩ := hQ3
  replace e_y4 : y4 = ((Own.ishlW p4 (4 : Int32)) ^^^ (Own.ga L (p5 - (1 : Int32)))) := e_y4
  subst e_y4
  replace r : A1 l Z n0 D h 1 1024 96 #[.val (.ref a0_), .val (.ref a1_), .val (.int (64 : Int32)), .val (.int (0 : Int32)), .val (.int p4), .val (.int p5), sl6] [(.int ((Own.ishlW p4 (4 : Int32)) ^^^ (Own.ga L (p5 - (1 : Int32)))))] := r
  obtain ⟨v4_5, e_v4_5⟩ : ∃ z : Int32, z = ((Own.ishlW p4 (4 : Int32)) ^^^ (Own.ga L (p5 - (1 : Int32)))) := ⟨_, rfl⟩
  replace r : A1 l Z n0 D h 1 1024 96 #[.val (.ref a0_), .val (.ref a1_), .val (.int (64 : Int32)), .val (.int (0 : Int32)), .val (.int p4), .val (.int p5), sl6] [(.int v4_5)] := by rw [e_v4_5]; exact r
  replace r : A1 l Z n0 D h 1 1024 98 #[.val (.ref a0_), .val (.ref a1_), .val (.int (64 : Int32)), .val (.int (0 : Int32)), .val (.int v4_5), .val (.int p5), sl6] [] := Own.istore r d1_96 rfl
  replace r : A1 l Z n0 D h 1 1024 100 #[.val (.ref a0_), .val (.ref a1_), .val (.int (64 : Int32)), .val (.int (0 : Int32)), .val (.int v4_5), .val (.int p5), sl6] [(.int p5)] := Own.iload r d1_98 rfl
  replace r : A1 l Z n0 D h 1 1024 101 #[.val (.ref a0_), .val (.ref a1_), .val (.int (64 : Int32)), .val (.int (0 : Int32)), .val (.int v4_5), .val (.int p5), sl6] [(.int (5 : Int32)), (.int p5)] := Own.iconst r d1_100 rfl
  by_cases br6 : (5 : Int32) < p5
  · skip
    replace r : A1 l Z n0 D h 1 1024 104 #[.val (.ref a0_), .val (.ref a1_), .val (.int (64 : Int32)), .val (.int (0 : Int32)), .val (.int v4_5), .val (.int p5), sl6] [] := Own.icmpNo r d1_101 (tlt br6).2.2.2
    replace r : A1 l Z n0 D h 1 1024 106 #[.val (.ref a0_), .val (.ref a1_), .val (.int (64 : Int32)), .val (.int (0 : Int32)), .val (.int v4_5), .val (.int p5), sl6] [(.int v4_5)] := Own.iload r d1_104 rfl
    replace r : A1 l Z n0 D h 1 1024 107 #[.val (.ref a0_), .val (.ref a1_), .val (.int (64 : Int32)), .val (.int (0 : Int32)), .val (.int v4_5), .val (.int p5), sl6] [(.ref a1_), (.int v4_5)] := Own.aloadN r d1_106 rfl rfl
    replace r : A1 l Z n0 D h 1 1024 109 #[.val (.ref a0_), .val (.ref a1_), .val (.int (64 : Int32)), .val (.int (0 : Int32)), .val (.int v4_5), .val (.int p5), sl6] [(.int p5), (.ref a1_), (.int v4_5)] := Own.iload r d1_107 rfl
    replace r : A1 l Z n0 D h 1 1024 110 #[.val (.ref a0_), .val (.ref a1_), .val (.int (64 : Int32)), .val (.int (0 : Int32)), .val (.int v4_5), .val (.int p5), sl6] [(.int (1 : Int32)), (.int p5), (.ref a1_), (.int v4_5)] := Own.iconst r d1_109 rfl
    replace r : A1 l Z n0 D h 1 1024 111 #[.val (.ref a0_), .val (.ref a1_), .val (.int (64 : Int32)), .val (.int (0 : Int32)), .val (.int v4_5), .val (.int p5), sl6] [(.int (p5 - (1 : Int32))), (.ref a1_), (.int v4_5)] := Own.isub r d1_110
    replace r : A1 l Z n0 D h 1 1024 112 #[.val (.ref a0_), .val (.ref a1_), .val (.int (64 : Int32)), .val (.int (0 : Int32)), .val (.int v4_5), .val (.int p5), sl6] [(.int (5 : Int32)), (.int (p5 - (1 : Int32))), (.ref a1_), (.int v4_5)] := Own.iconst r d1_111 rfl
    replace r : A1 l Z n0 D h 1 1024 113 #[.val (.ref a0_), .val (.ref a1_), .val (.int (64 : Int32)), .val (.int (0 : Int32)), .val (.int v4_5), .val (.int p5), sl6] [(.int ((p5 - (1 : Int32)) - (5 : Int32))), (.ref a1_), (.int v4_5)] := Own.isub r d1_112
    replace r : A1 l Z n0 D h 1 1024 114 #[.val (.ref a0_), .val (.ref a1_), .val (.int (64 : Int32)), .val (.int (0 : Int32)), .val (.int v4_5), .val (.int p5), sl6] [(.int (Own.ga L ((p5 - (1 : Int32)) - (5 : Int32)))), (.int v4_5)] := Own.iaload r d1_113 V_a1_ (own_p5 hL h1 h64 (by assumption)).1 (own_p5 hL h1 h64 (by assumption)).2
    obtain ⟨rv7, h8, hQ9, r⟩ := Own.callS [(.int v4_5), (.int (Own.ga L ((p5 - (1 : Int32)) - (5 : Int32))))] r d1_114 (c7 l Z a0 hw n0 h Zs v4_5 (Own.ga L ((p5 - (1 : Int32)) - (5 : Int32)))) (hw _ (List.mem_of_getElem? (i := 38) rfl)) (hw _ (List.mem_of_getElem? (i := 39) rfl)) (hw _ (List.mem_of_getElem? (i := 31) rfl)) (hw _ (List.mem_of_getElem? (i := 40) rfl)) (lenOf pd_1_0 rfl) rfl rfl (W := 0) (Nat.le_of_eq rfl) rfl (by decide) (by decide) (by decide) (by decide) (by decide)
    obtain ⟨rfl, y10, rfl, e_y10⟩ := hQ9
    replace e_y10 : y10 = (v4_5 ^^^ (Own.ishlW (Own.ga L ((p5 - (1 : Int32)) - (5 : Int32))) (20 : Int32))) := e_y10
    subst e_y10
    replace r : A1 l Z n0 D h 1 1024 117 #[.val (.ref a0_), .val (.ref a1_), .val (.int (64 : Int32)), .val (.int (0 : Int32)), .val (.int v4_5), .val (.int p5), sl6] [(.int (v4_5 ^^^ (Own.ishlW (Own.ga L ((p5 - (1 : Int32)) - (5 : Int32))) (20 : Int32))))] := r
    obtain ⟨v4_11, e_v4_11⟩ : ∃ z : Int32, z = (v4_5 ^^^ (Own.ishlW (Own.ga L ((p5 - (1 : Int32)) - (5 : Int32))) (20 : Int32))) := ⟨_, rfl⟩
    replace r : A1 l Z n0 D h 1 1024 117 #[.val (.ref a0_), .val (.ref a1_), .val (.int (64 : Int32)), .val (.int (0 : Int32)), .val (.int v4_5), .val (.int p5), sl6] [(.int v4_11)] := by rw [e_v4_11]; exact r
    replace r : A1 l Z n0 D h 1 1024 119 #[.val (.ref a0_), .val (.ref a1_), .val (.int (64 : Int32)), .val (.int (0 : Int32)), .val (.int v4_11), .val (.int p5), sl6] [] := Own.istore r d1_117 rfl
    replace r : A1 l Z n0 D h 1 1024 121 #[.val (.ref a0_), .val (.ref a1_), .val (.int (64 : Int32)), .val (.int (0 : Int32)), .val (.int v4_11), .val (.int p5), sl6] [(.int p5)] := Own.iload r d1_119 rfl
    replace r : A1 l Z n0 D h 1 1024 122 #[.val (.ref a0_), .val (.ref a1_), .val (.int (64 : Int32)), .val (.int (0 : Int32)), .val (.int v4_11), .val (.int p5), sl6] [(.int (5 : Int32)), (.int p5)] := Own.iconst r d1_121 rfl
    by_cases br12 : p5 < (5 : Int32)
    · skip
      replace r : A1 l Z n0 D h 1 1024 125 #[.val (.ref a0_), .val (.ref a1_), .val (.int (64 : Int32)), .val (.int (0 : Int32)), .val (.int v4_11), .val (.int p5), sl6] [] := Own.icmpNo r d1_122 (tlt br12).2.1
      replace r : A1 l Z n0 D h 1 1024 172 #[.val (.ref a0_), .val (.ref a1_), .val (.int (64 : Int32)), .val (.int (0 : Int32)), .val (.int v4_11), .val (.int p5), sl6] [] := Own.goto r d1_125 (by decide) (by decide)
      replace r : A1 l Z n0 D h 1 1024 175 #[.val (.ref a0_), .val (.ref a1_), .val (.int (64 : Int32)), .val (.int (0 : Int32)), .val (.int v4_11), .val (.int (p5 + (1 : Int32))), sl6] [] := Own.iinc r d1_172 rfl rfl rfl
      replace r : A1 l Z n0 D h 1 1024 79 #[.val (.ref a0_), .val (.ref a1_), .val (.int (64 : Int32)), .val (.int (0 : Int32)), .val (.int v4_11), .val (.int (p5 + (1 : Int32))), sl6] [] := Own.goto r d1_175 (by decide) (by decide)
      exact ⟨_, _, _, _, Zs, K, X_a0_, F_full_a0_, F_grain_a0_, F_bits_a0_, F_table_a0_, V_a1_, V_tb, o6, r, ⟨v4_5, e_v4_5, ⟨fun _ => ⟨v4_11, e_v4_11, ⟨fun _ => ⟨rfl, rfl⟩, fun q => absurd br12 q⟩⟩, fun q => absurd br6 q⟩⟩⟩
    · skip
      replace r : A1 l Z n0 D h 1 1024 128 #[.val (.ref a0_), .val (.ref a1_), .val (.int (64 : Int32)), .val (.int (0 : Int32)), .val (.int v4_11), .val (.int p5), sl6] [] := Own.icmpYes r d1_122 (flt br12).2.1 (by decide) (by decide)
      replace r : A1 l Z n0 D h 1 1024 129 #[.val (.ref a0_), .val (.ref a1_), .val (.int (64 : Int32)), .val (.int (0 : Int32)), .val (.int v4_11), .val (.int p5), sl6] [(.int (64 : Int32))] := Own.iloadN r d1_128 rfl
      replace r : A1 l Z n0 D h 1 1024 131 #[.val (.ref a0_), .val (.ref a1_), .val (.int (64 : Int32)), .val (.int (0 : Int32)), .val (.int v4_11), .val (.int p5), sl6] [(.int p5), (.int (64 : Int32))] := Own.iload r d1_129 rfl
      replace r : A1 l Z n0 D h 1 1024 132 #[.val (.ref a0_), .val (.ref a1_), .val (.int (64 : Int32)), .val (.int (0 : Int32)), .val (.int v4_11), .val (.int p5), sl6] [(.int ((64 : Int32) - p5))] := Own.isub r d1_131
      obtain ⟨v6_13, e_v6_13⟩ : ∃ z : Int32, z = ((64 : Int32) - p5) := ⟨_, rfl⟩
      replace r : A1 l Z n0 D h 1 1024 132 #[.val (.ref a0_), .val (.ref a1_), .val (.int (64 : Int32)), .val (.int (0 : Int32)), .val (.int v4_11), .val (.int p5), sl6] [(.int v6_13)] := by rw [e_v6_13]; exact r
      replace r : A1 l Z n0 D h 1 1024 134 #[.val (.ref a0_), .val (.ref a1_), .val (.int (64 : Int32)), .val (.int (0 : Int32)), .val (.int v4_11), .val (.int p5), .val (.int v6_13)] [] := Own.istoreS r d1_132 rfl o6
      replace r : A1 l Z n0 D h 1 1024 135 #[.val (.ref a0_), .val (.ref a1_), .val (.int (64 : Int32)), .val (.int (0 : Int32)), .val (.int v4_11), .val (.int p5), .val (.int v6_13)] [(.ref a0_)] := Own.aloadN r d1_134 rfl rfl
      replace r : A1 l Z n0 D h 1 1024 138 #[.val (.ref a0_), .val (.ref a1_), .val (.int (64 : Int32)), .val (.int (0 : Int32)), .val (.int v4_11), .val (.int p5), .val (.int v6_13)] [(.ref tb)] := Own.getfield r d1_135 (host := "") (Or.inl (hw _ (List.mem_of_getElem? (i := 27) rfl))) Via.refl F_table_a0_
      replace r : A1 l Z n0 D h 1 1024 139 #[.val (.ref a0_), .val (.ref a1_), .val (.int (64 : Int32)), .val (.int (0 : Int32)), .val (.int v4_11), .val (.int p5), .val (.int v6_13)] [(.ref a0_), (.ref tb)] := Own.aloadN r d1_138 rfl rfl
      replace r : A1 l Z n0 D h 1 1024 141 #[.val (.ref a0_), .val (.ref a1_), .val (.int (64 : Int32)), .val (.int (0 : Int32)), .val (.int v4_11), .val (.int p5), .val (.int v6_13)] [(.int v4_11), (.ref a0_), (.ref tb)] := Own.iload r d1_139 rfl
      obtain ⟨rv14, h15, hQ16, r⟩ := Own.callP [(.int v4_11)] r d1_141 (c6 l Z a0 hw n0 h Zs a0_ v4_11 (10 : Int32) tb M F_bits_a0_ F_table_a0_ V_tb hM) X_a0_ (hw _ (List.mem_of_getElem? (i := 33) rfl)) (hw _ (List.mem_of_getElem? (i := 34) rfl)) (hw _ (List.mem_of_getElem? (i := 3) rfl)) (hw _ (List.mem_of_getElem? (i := 35) rfl)) (hw _ (List.mem_of_getElem? (i := 4) rfl)) (hw _ (List.mem_of_getElem? (i := 36) rfl)) (lenOf pd_1_1 rfl) rfl rfl (W := 1) (Nat.le_of_eq rfl) rfl (by decide) (by decide) (by decide) (by decide) (by decide)
      obtain ⟨rfl, y17, rfl, e_y17⟩ := hQ16
      replace e_y17 : y17 = ((Own.iushrW (v4_11 * (-1640531535 : Int32)) ((32 : Int32) - (10 : Int32))) &&& ((1024 : Int32) - (1 : Int32))) := e_y17
      subst e_y17
      replace r : A1 l Z n0 D h 1 1024 144 #[.val (.ref a0_), .val (.ref a1_), .val (.int (64 : Int32)), .val (.int (0 : Int32)), .val (.int v4_11), .val (.int p5), .val (.int v6_13)] [(.int ((Own.iushrW (v4_11 * (-1640531535 : Int32)) ((32 : Int32) - (10 : Int32))) &&& ((1024 : Int32) - (1 : Int32)))), (.ref tb)] := r
      replace r : A1 l Z n0 D h 1 1024 146 #[.val (.ref a0_), .val (.ref a1_), .val (.int (64 : Int32)), .val (.int (0 : Int32)), .val (.int v4_11), .val (.int p5), .val (.int v6_13)] [(.int v6_13), (.int ((Own.iushrW (v4_11 * (-1640531535 : Int32)) ((32 : Int32) - (10 : Int32))) &&& ((1024 : Int32) - (1 : Int32)))), (.ref tb)] := Own.iload r d1_144 rfl
      obtain ⟨m18, e_m18, r⟩ : ∃ (m18 : Int32), m18 = (if v6_13 = (0 : Int32) then (255 : Int32) else (Own.ishrW ((((60 : Int32) - v6_13) + (1 : Int32)) - (1 : Int32)) (0 : Int32))) ∧ A1 l Z n0 D h 1 1024 170 #[.val (.ref a0_), .val (.ref a1_), .val (.int (64 : Int32)), .val (.int (0 : Int32)), .val (.int v4_11), .val (.int p5), .val (.int v6_13)] [(.int m18), (.int ((Own.iushrW (v4_11 * (-1640531535 : Int32)) ((32 : Int32) - (10 : Int32))) &&& ((1024 : Int32) - (1 : Int32)))), (.ref tb)] := by
        by_cases br19 : v6_13 = (0 : Int32)
        · skip
          replace r : A1 l Z n0 D h 1 1024 149 #[.val (.ref a0_), .val (.ref a1_), .val (.int (64 : Int32)), .val (.int (0 : Int32)), .val (.int v4_11), .val (.int p5), .val (.int v6_13)] [(.int ((Own.iushrW (v4_11 * (-1640531535 : Int32)) ((32 : Int32) - (10 : Int32))) &&& ((1024 : Int32) - (1 : Int32)))), (.ref tb)] := Own.ifNo r d1_146 ((if0 _ _).trans (teq br19).2)
          replace r : A1 l Z n0 D h 1 1024 152 #[.val (.ref a0_), .val (.ref a1_), .val (.int (64 : Int32)), .val (.int (0 : Int32)), .val (.int v4_11), .val (.int p5), .val (.int v6_13)] [(.int (255 : Int32)), (.int ((Own.iushrW (v4_11 * (-1640531535 : Int32)) ((32 : Int32) - (10 : Int32))) &&& ((1024 : Int32) - (1 : Int32)))), (.ref tb)] := Own.sipush r d1_149 rfl
          replace r : A1 l Z n0 D h 1 1024 170 #[.val (.ref a0_), .val (.ref a1_), .val (.int (64 : Int32)), .val (.int (0 : Int32)), .val (.int v4_11), .val (.int p5), .val (.int v6_13)] [(.int (255 : Int32)), (.int ((Own.iushrW (v4_11 * (-1640531535 : Int32)) ((32 : Int32) - (10 : Int32))) &&& ((1024 : Int32) - (1 : Int32)))), (.ref tb)] := Own.goto r d1_152 (by decide) (by decide)
          exact ⟨_, by rw [if_pos br19], r⟩
        · skip
          replace r : A1 l Z n0 D h 1 1024 155 #[.val (.ref a0_), .val (.ref a1_), .val (.int (64 : Int32)), .val (.int (0 : Int32)), .val (.int v4_11), .val (.int p5), .val (.int v6_13)] [(.int ((Own.iushrW (v4_11 * (-1640531535 : Int32)) ((32 : Int32) - (10 : Int32))) &&& ((1024 : Int32) - (1 : Int32)))), (.ref tb)] := Own.ifYes r d1_146 ((if0 _ _).trans (feq br19).2) (by decide) (by decide)
          replace r : A1 l Z n0 D h 1 1024 156 #[.val (.ref a0_), .val (.ref a1_), .val (.int (64 : Int32)), .val (.int (0 : Int32)), .val (.int v4_11), .val (.int p5), .val (.int v6_13)] [(.ref a0_), (.int ((Own.iushrW (v4_11 * (-1640531535 : Int32)) ((32 : Int32) - (10 : Int32))) &&& ((1024 : Int32) - (1 : Int32)))), (.ref tb)] := Own.aloadN r d1_155 rfl rfl
          replace r : A1 l Z n0 D h 1 1024 159 #[.val (.ref a0_), .val (.ref a1_), .val (.int (64 : Int32)), .val (.int (0 : Int32)), .val (.int v4_11), .val (.int p5), .val (.int v6_13)] [(.int (60 : Int32)), (.int ((Own.iushrW (v4_11 * (-1640531535 : Int32)) ((32 : Int32) - (10 : Int32))) &&& ((1024 : Int32) - (1 : Int32)))), (.ref tb)] := Own.getfield r d1_156 (host := "") (Or.inl (hw _ (List.mem_of_getElem? (i := 11) rfl))) Via.refl F_full_a0_
          replace r : A1 l Z n0 D h 1 1024 161 #[.val (.ref a0_), .val (.ref a1_), .val (.int (64 : Int32)), .val (.int (0 : Int32)), .val (.int v4_11), .val (.int p5), .val (.int v6_13)] [(.int v6_13), (.int (60 : Int32)), (.int ((Own.iushrW (v4_11 * (-1640531535 : Int32)) ((32 : Int32) - (10 : Int32))) &&& ((1024 : Int32) - (1 : Int32)))), (.ref tb)] := Own.iload r d1_159 rfl
          replace r : A1 l Z n0 D h 1 1024 162 #[.val (.ref a0_), .val (.ref a1_), .val (.int (64 : Int32)), .val (.int (0 : Int32)), .val (.int v4_11), .val (.int p5), .val (.int v6_13)] [(.int ((60 : Int32) - v6_13)), (.int ((Own.iushrW (v4_11 * (-1640531535 : Int32)) ((32 : Int32) - (10 : Int32))) &&& ((1024 : Int32) - (1 : Int32)))), (.ref tb)] := Own.isub r d1_161
          replace r : A1 l Z n0 D h 1 1024 163 #[.val (.ref a0_), .val (.ref a1_), .val (.int (64 : Int32)), .val (.int (0 : Int32)), .val (.int v4_11), .val (.int p5), .val (.int v6_13)] [(.int (1 : Int32)), (.int ((60 : Int32) - v6_13)), (.int ((Own.iushrW (v4_11 * (-1640531535 : Int32)) ((32 : Int32) - (10 : Int32))) &&& ((1024 : Int32) - (1 : Int32)))), (.ref tb)] := Own.iconst r d1_162 rfl
          replace r : A1 l Z n0 D h 1 1024 164 #[.val (.ref a0_), .val (.ref a1_), .val (.int (64 : Int32)), .val (.int (0 : Int32)), .val (.int v4_11), .val (.int p5), .val (.int v6_13)] [(.int (0 : Int32)), (.int (1 : Int32)), (.int ((60 : Int32) - v6_13)), (.int ((Own.iushrW (v4_11 * (-1640531535 : Int32)) ((32 : Int32) - (10 : Int32))) &&& ((1024 : Int32) - (1 : Int32)))), (.ref tb)] := Own.iloadN r d1_163 rfl
          replace r : A1 l Z n0 D h 1 1024 165 #[.val (.ref a0_), .val (.ref a1_), .val (.int (64 : Int32)), .val (.int (0 : Int32)), .val (.int v4_11), .val (.int p5), .val (.int v6_13)] [(.int (1 : Int32)), (.int ((60 : Int32) - v6_13)), (.int ((Own.iushrW (v4_11 * (-1640531535 : Int32)) ((32 : Int32) - (10 : Int32))) &&& ((1024 : Int32) - (1 : Int32)))), (.ref tb)] := Own.ishl r d1_164
          replace r : A1 l Z n0 D h 1 1024 166 #[.val (.ref a0_), .val (.ref a1_), .val (.int (64 : Int32)), .val (.int (0 : Int32)), .val (.int v4_11), .val (.int p5), .val (.int v6_13)] [(.int (((60 : Int32) - v6_13) + (1 : Int32))), (.int ((Own.iushrW (v4_11 * (-1640531535 : Int32)) ((32 : Int32) - (10 : Int32))) &&& ((1024 : Int32) - (1 : Int32)))), (.ref tb)] := Own.iadd r d1_165
          replace r : A1 l Z n0 D h 1 1024 167 #[.val (.ref a0_), .val (.ref a1_), .val (.int (64 : Int32)), .val (.int (0 : Int32)), .val (.int v4_11), .val (.int p5), .val (.int v6_13)] [(.int (1 : Int32)), (.int (((60 : Int32) - v6_13) + (1 : Int32))), (.int ((Own.iushrW (v4_11 * (-1640531535 : Int32)) ((32 : Int32) - (10 : Int32))) &&& ((1024 : Int32) - (1 : Int32)))), (.ref tb)] := Own.iconst r d1_166 rfl
          replace r : A1 l Z n0 D h 1 1024 168 #[.val (.ref a0_), .val (.ref a1_), .val (.int (64 : Int32)), .val (.int (0 : Int32)), .val (.int v4_11), .val (.int p5), .val (.int v6_13)] [(.int ((((60 : Int32) - v6_13) + (1 : Int32)) - (1 : Int32))), (.int ((Own.iushrW (v4_11 * (-1640531535 : Int32)) ((32 : Int32) - (10 : Int32))) &&& ((1024 : Int32) - (1 : Int32)))), (.ref tb)] := Own.isub r d1_167
          replace r : A1 l Z n0 D h 1 1024 169 #[.val (.ref a0_), .val (.ref a1_), .val (.int (64 : Int32)), .val (.int (0 : Int32)), .val (.int v4_11), .val (.int p5), .val (.int v6_13)] [(.int (0 : Int32)), (.int ((((60 : Int32) - v6_13) + (1 : Int32)) - (1 : Int32))), (.int ((Own.iushrW (v4_11 * (-1640531535 : Int32)) ((32 : Int32) - (10 : Int32))) &&& ((1024 : Int32) - (1 : Int32)))), (.ref tb)] := Own.iloadN r d1_168 rfl
          replace r : A1 l Z n0 D h 1 1024 170 #[.val (.ref a0_), .val (.ref a1_), .val (.int (64 : Int32)), .val (.int (0 : Int32)), .val (.int v4_11), .val (.int p5), .val (.int v6_13)] [(.int (Own.ishrW ((((60 : Int32) - v6_13) + (1 : Int32)) - (1 : Int32)) (0 : Int32))), (.int ((Own.iushrW (v4_11 * (-1640531535 : Int32)) ((32 : Int32) - (10 : Int32))) &&& ((1024 : Int32) - (1 : Int32)))), (.ref tb)] := Own.ishr r d1_169
          exact ⟨_, by rw [if_neg br19], r⟩
      replace r : A1 l Z n0 D h 1 1024 171 #[.val (.ref a0_), .val (.ref a1_), .val (.int (64 : Int32)), .val (.int (0 : Int32)), .val (.int v4_11), .val (.int p5), .val (.int v6_13)] [(.int (Own.i2bW m18)), (.int ((Own.iushrW (v4_11 * (-1640531535 : Int32)) ((32 : Int32) - (10 : Int32))) &&& ((1024 : Int32) - (1 : Int32)))), (.ref tb)] := Own.i2b r d1_170
      obtain ⟨w20, e_w20⟩ : ∃ z : Int32, z = (Own.i2bW m18) := ⟨_, rfl⟩
      replace r : A1 l Z n0 D h 1 1024 171 #[.val (.ref a0_), .val (.ref a1_), .val (.int (64 : Int32)), .val (.int (0 : Int32)), .val (.int v4_11), .val (.int p5), .val (.int v6_13)] [(.int w20), (.int ((Own.iushrW (v4_11 * (-1640531535 : Int32)) ((32 : Int32) - (10 : Int32))) &&& ((1024 : Int32) - (1 : Int32)))), (.ref tb)] := by rw [e_w20]; exact r
      obtain ⟨h22, ⟨W21, V_tb⟩, r⟩ := Own.bastore r d1_171 V_tb (own_slot_nn _) (own_slot_lt hM _) ge_tb
      replace r : A1 l Z n0 D h22 1 1024 172 #[.val (.ref a0_), .val (.ref a1_), .val (.int (64 : Int32)), .val (.int (0 : Int32)), .val (.int v4_11), .val (.int p5), .val (.int v6_13)] [] := r
      replace X_a0_ := X_a0_.wr W21
      replace F_full_a0_ := F_full_a0_.other W21 (Or.inl (Ne.symm ne_tb_a0_))
      replace F_grain_a0_ := F_grain_a0_.other W21 (Or.inl (Ne.symm ne_tb_a0_))
      replace F_bits_a0_ := F_bits_a0_.other W21 (Or.inl (Ne.symm ne_tb_a0_))
      replace F_table_a0_ := F_table_a0_.other W21 (Or.inl (Ne.symm ne_tb_a0_))
      replace V_a1_ := V_a1_.other W21 ne_a1__tb
      replace Zs := Nat.le_trans Zs (Nat.le_of_eq W21.size.symm)
      replace K := K.wr W21 (Or.inr sz_tb)
      replace V_tb : Own.VA Z h22 tb .byte ((M.set ((Own.iushrW (v4_11 * (-1640531535 : Int32)) ((32 : Int32) - (10 : Int32))) &&& ((1024 : Int32) - (1 : Int32))).toNatClampNeg (nar .byte w20)).map Value.int) := by rw [List.map_set]; exact V_tb
      replace r : A1 l Z n0 D h22 1 1024 175 #[.val (.ref a0_), .val (.ref a1_), .val (.int (64 : Int32)), .val (.int (0 : Int32)), .val (.int v4_11), .val (.int (p5 + (1 : Int32))), .val (.int v6_13)] [] := Own.iinc r d1_172 rfl rfl rfl
      replace r : A1 l Z n0 D h22 1 1024 79 #[.val (.ref a0_), .val (.ref a1_), .val (.int (64 : Int32)), .val (.int (0 : Int32)), .val (.int v4_11), .val (.int (p5 + (1 : Int32))), .val (.int v6_13)] [] := Own.goto r d1_175 (by decide) (by decide)
      exact ⟨_, _, _, _, Zs, K, X_a0_, F_full_a0_, F_grain_a0_, F_bits_a0_, F_table_a0_, V_a1_, V_tb, (Or.inr ⟨_, rfl, rfl⟩), r, ⟨v4_5, e_v4_5, ⟨fun _ => ⟨v4_11, e_v4_11, ⟨fun q => absurd q br12, fun _ => ⟨v6_13, e_v6_13, ⟨m18, e_m18, ⟨w20, e_w20, ⟨rfl, rfl⟩⟩⟩⟩⟩⟩, fun q => absurd br6 q⟩⟩⟩
  · skip
    replace r : A1 l Z n0 D h 1 1024 119 #[.val (.ref a0_), .val (.ref a1_), .val (.int (64 : Int32)), .val (.int (0 : Int32)), .val (.int v4_5), .val (.int p5), sl6] [] := Own.icmpYes r d1_101 (flt br6).2.2.2 (by decide) (by decide)
    replace r : A1 l Z n0 D h 1 1024 121 #[.val (.ref a0_), .val (.ref a1_), .val (.int (64 : Int32)), .val (.int (0 : Int32)), .val (.int v4_5), .val (.int p5), sl6] [(.int p5)] := Own.iload r d1_119 rfl
    replace r : A1 l Z n0 D h 1 1024 122 #[.val (.ref a0_), .val (.ref a1_), .val (.int (64 : Int32)), .val (.int (0 : Int32)), .val (.int v4_5), .val (.int p5), sl6] [(.int (5 : Int32)), (.int p5)] := Own.iconst r d1_121 rfl
    by_cases br23 : p5 < (5 : Int32)
    · skip
      replace r : A1 l Z n0 D h 1 1024 125 #[.val (.ref a0_), .val (.ref a1_), .val (.int (64 : Int32)), .val (.int (0 : Int32)), .val (.int v4_5), .val (.int p5), sl6] [] := Own.icmpNo r d1_122 (tlt br23).2.1
      replace r : A1 l Z n0 D h 1 1024 172 #[.val (.ref a0_), .val (.ref a1_), .val (.int (64 : Int32)), .val (.int (0 : Int32)), .val (.int v4_5), .val (.int p5), sl6] [] := Own.goto r d1_125 (by decide) (by decide)
      replace r : A1 l Z n0 D h 1 1024 175 #[.val (.ref a0_), .val (.ref a1_), .val (.int (64 : Int32)), .val (.int (0 : Int32)), .val (.int v4_5), .val (.int (p5 + (1 : Int32))), sl6] [] := Own.iinc r d1_172 rfl rfl rfl
      replace r : A1 l Z n0 D h 1 1024 79 #[.val (.ref a0_), .val (.ref a1_), .val (.int (64 : Int32)), .val (.int (0 : Int32)), .val (.int v4_5), .val (.int (p5 + (1 : Int32))), sl6] [] := Own.goto r d1_175 (by decide) (by decide)
      exact ⟨_, _, _, _, Zs, K, X_a0_, F_full_a0_, F_grain_a0_, F_bits_a0_, F_table_a0_, V_a1_, V_tb, o6, r, ⟨v4_5, e_v4_5, ⟨fun q => absurd q br6, fun _ => ⟨fun _ => ⟨rfl, rfl⟩, fun q => absurd br23 q⟩⟩⟩⟩
    · skip
      replace r : A1 l Z n0 D h 1 1024 128 #[.val (.ref a0_), .val (.ref a1_), .val (.int (64 : Int32)), .val (.int (0 : Int32)), .val (.int v4_5), .val (.int p5), sl6] [] := Own.icmpYes r d1_122 (flt br23).2.1 (by decide) (by decide)
      replace r : A1 l Z n0 D h 1 1024 129 #[.val (.ref a0_), .val (.ref a1_), .val (.int (64 : Int32)), .val (.int (0 : Int32)), .val (.int v4_5), .val (.int p5), sl6] [(.int (64 : Int32))] := Own.iloadN r d1_128 rfl
      replace r : A1 l Z n0 D h 1 1024 131 #[.val (.ref a0_), .val (.ref a1_), .val (.int (64 : Int32)), .val (.int (0 : Int32)), .val (.int v4_5), .val (.int p5), sl6] [(.int p5), (.int (64 : Int32))] := Own.iload r d1_129 rfl
      replace r : A1 l Z n0 D h 1 1024 132 #[.val (.ref a0_), .val (.ref a1_), .val (.int (64 : Int32)), .val (.int (0 : Int32)), .val (.int v4_5), .val (.int p5), sl6] [(.int ((64 : Int32) - p5))] := Own.isub r d1_131
      obtain ⟨v6_24, e_v6_24⟩ : ∃ z : Int32, z = ((64 : Int32) - p5) := ⟨_, rfl⟩
      replace r : A1 l Z n0 D h 1 1024 132 #[.val (.ref a0_), .val (.ref a1_), .val (.int (64 : Int32)), .val (.int (0 : Int32)), .val (.int v4_5), .val (.int p5), sl6] [(.int v6_24)] := by rw [e_v6_24]; exact r
      replace r : A1 l Z n0 D h 1 1024 134 #[.val (.ref a0_), .val (.ref a1_), .val (.int (64 : Int32)), .val (.int (0 : Int32)), .val (.int v4_5), .val (.int p5), .val (.int v6_24)] [] := Own.istoreS r d1_132 rfl o6
      replace r : A1 l Z n0 D h 1 1024 135 #[.val (.ref a0_), .val (.ref a1_), .val (.int (64 : Int32)), .val (.int (0 : Int32)), .val (.int v4_5), .val (.int p5), .val (.int v6_24)] [(.ref a0_)] := Own.aloadN r d1_134 rfl rfl
      replace r : A1 l Z n0 D h 1 1024 138 #[.val (.ref a0_), .val (.ref a1_), .val (.int (64 : Int32)), .val (.int (0 : Int32)), .val (.int v4_5), .val (.int p5), .val (.int v6_24)] [(.ref tb)] := Own.getfield r d1_135 (host := "") (Or.inl (hw _ (List.mem_of_getElem? (i := 27) rfl))) Via.refl F_table_a0_
      replace r : A1 l Z n0 D h 1 1024 139 #[.val (.ref a0_), .val (.ref a1_), .val (.int (64 : Int32)), .val (.int (0 : Int32)), .val (.int v4_5), .val (.int p5), .val (.int v6_24)] [(.ref a0_), (.ref tb)] := Own.aloadN r d1_138 rfl rfl
      replace r : A1 l Z n0 D h 1 1024 141 #[.val (.ref a0_), .val (.ref a1_), .val (.int (64 : Int32)), .val (.int (0 : Int32)), .val (.int v4_5), .val (.int p5), .val (.int v6_24)] [(.int v4_5), (.ref a0_), (.ref tb)] := Own.iload r d1_139 rfl
      obtain ⟨rv25, h26, hQ27, r⟩ := Own.callP [(.int v4_5)] r d1_141 (c6 l Z a0 hw n0 h Zs a0_ v4_5 (10 : Int32) tb M F_bits_a0_ F_table_a0_ V_tb hM) X_a0_ (hw _ (List.mem_of_getElem? (i := 33) rfl)) (hw _ (List.mem_of_getElem? (i := 34) rfl)) (hw _ (List.mem_of_getElem? (i := 3) rfl)) (hw _ (List.mem_of_getElem? (i := 35) rfl)) (hw _ (List.mem_of_getElem? (i := 4) rfl)) (hw _ (List.mem_of_getElem? (i := 36) rfl)) (lenOf pd_1_1 rfl) rfl rfl (W := 1) (Nat.le_of_eq rfl) rfl (by decide) (by decide) (by decide) (by decide) (by decide)
      obtain ⟨rfl, y28, rfl, e_y28⟩ := hQ27
      replace e_y28 : y28 = ((Own.iushrW (v4_5 * (-1640531535 : Int32)) ((32 : Int32) - (10 : Int32))) &&& ((1024 : Int32) - (1 : Int32))) := e_y28
      subst e_y28
      replace r : A1 l Z n0 D h 1 1024 144 #[.val (.ref a0_), .val (.ref a1_), .val (.int (64 : Int32)), .val (.int (0 : Int32)), .val (.int v4_5), .val (.int p5), .val (.int v6_24)] [(.int ((Own.iushrW (v4_5 * (-1640531535 : Int32)) ((32 : Int32) - (10 : Int32))) &&& ((1024 : Int32) - (1 : Int32)))), (.ref tb)] := r
      replace r : A1 l Z n0 D h 1 1024 146 #[.val (.ref a0_), .val (.ref a1_), .val (.int (64 : Int32)), .val (.int (0 : Int32)), .val (.int v4_5), .val (.int p5), .val (.int v6_24)] [(.int v6_24), (.int ((Own.iushrW (v4_5 * (-1640531535 : Int32)) ((32 : Int32) - (10 : Int32))) &&& ((1024 : Int32) - (1 : Int32)))), (.ref tb)] := Own.iload r d1_144 rfl
      obtain ⟨m29, e_m29, r⟩ : ∃ (m29 : Int32), m29 = (if v6_24 = (0 : Int32) then (255 : Int32) else (Own.ishrW ((((60 : Int32) - v6_24) + (1 : Int32)) - (1 : Int32)) (0 : Int32))) ∧ A1 l Z n0 D h 1 1024 170 #[.val (.ref a0_), .val (.ref a1_), .val (.int (64 : Int32)), .val (.int (0 : Int32)), .val (.int v4_5), .val (.int p5), .val (.int v6_24)] [(.int m29), (.int ((Own.iushrW (v4_5 * (-1640531535 : Int32)) ((32 : Int32) - (10 : Int32))) &&& ((1024 : Int32) - (1 : Int32)))), (.ref tb)] := by
        by_cases br30 : v6_24 = (0 : Int32)
        · skip
          replace r : A1 l Z n0 D h 1 1024 149 #[.val (.ref a0_), .val (.ref a1_), .val (.int (64 : Int32)), .val (.int (0 : Int32)), .val (.int v4_5), .val (.int p5), .val (.int v6_24)] [(.int ((Own.iushrW (v4_5 * (-1640531535 : Int32)) ((32 : Int32) - (10 : Int32))) &&& ((1024 : Int32) - (1 : Int32)))), (.ref tb)] := Own.ifNo r d1_146 ((if0 _ _).trans (teq br30).2)
          replace r : A1 l Z n0 D h 1 1024 152 #[.val (.ref a0_), .val (.ref a1_), .val (.int (64 : Int32)), .val (.int (0 : Int32)), .val (.int v4_5), .val (.int p5), .val (.int v6_24)] [(.int (255 : Int32)), (.int ((Own.iushrW (v4_5 * (-1640531535 : Int32)) ((32 : Int32) - (10 : Int32))) &&& ((1024 : Int32) - (1 : Int32)))), (.ref tb)] := Own.sipush r d1_149 rfl
          replace r : A1 l Z n0 D h 1 1024 170 #[.val (.ref a0_), .val (.ref a1_), .val (.int (64 : Int32)), .val (.int (0 : Int32)), .val (.int v4_5), .val (.int p5), .val (.int v6_24)] [(.int (255 : Int32)), (.int ((Own.iushrW (v4_5 * (-1640531535 : Int32)) ((32 : Int32) - (10 : Int32))) &&& ((1024 : Int32) - (1 : Int32)))), (.ref tb)] := Own.goto r d1_152 (by decide) (by decide)
          exact ⟨_, by rw [if_pos br30], r⟩
        · skip
          replace r : A1 l Z n0 D h 1 1024 155 #[.val (.ref a0_), .val (.ref a1_), .val (.int (64 : Int32)), .val (.int (0 : Int32)), .val (.int v4_5), .val (.int p5), .val (.int v6_24)] [(.int ((Own.iushrW (v4_5 * (-1640531535 : Int32)) ((32 : Int32) - (10 : Int32))) &&& ((1024 : Int32) - (1 : Int32)))), (.ref tb)] := Own.ifYes r d1_146 ((if0 _ _).trans (feq br30).2) (by decide) (by decide)
          replace r : A1 l Z n0 D h 1 1024 156 #[.val (.ref a0_), .val (.ref a1_), .val (.int (64 : Int32)), .val (.int (0 : Int32)), .val (.int v4_5), .val (.int p5), .val (.int v6_24)] [(.ref a0_), (.int ((Own.iushrW (v4_5 * (-1640531535 : Int32)) ((32 : Int32) - (10 : Int32))) &&& ((1024 : Int32) - (1 : Int32)))), (.ref tb)] := Own.aloadN r d1_155 rfl rfl
          replace r : A1 l Z n0 D h 1 1024 159 #[.val (.ref a0_), .val (.ref a1_), .val (.int (64 : Int32)), .val (.int (0 : Int32)), .val (.int v4_5), .val (.int p5), .val (.int v6_24)] [(.int (60 : Int32)), (.int ((Own.iushrW (v4_5 * (-1640531535 : Int32)) ((32 : Int32) - (10 : Int32))) &&& ((1024 : Int32) - (1 : Int32)))), (.ref tb)] := Own.getfield r d1_156 (host := "") (Or.inl (hw _ (List.mem_of_getElem? (i := 11) rfl))) Via.refl F_full_a0_
          replace r : A1 l Z n0 D h 1 1024 161 #[.val (.ref a0_), .val (.ref a1_), .val (.int (64 : Int32)), .val (.int (0 : Int32)), .val (.int v4_5), .val (.int p5), .val (.int v6_24)] [(.int v6_24), (.int (60 : Int32)), (.int ((Own.iushrW (v4_5 * (-1640531535 : Int32)) ((32 : Int32) - (10 : Int32))) &&& ((1024 : Int32) - (1 : Int32)))), (.ref tb)] := Own.iload r d1_159 rfl
          replace r : A1 l Z n0 D h 1 1024 162 #[.val (.ref a0_), .val (.ref a1_), .val (.int (64 : Int32)), .val (.int (0 : Int32)), .val (.int v4_5), .val (.int p5), .val (.int v6_24)] [(.int ((60 : Int32) - v6_24)), (.int ((Own.iushrW (v4_5 * (-1640531535 : Int32)) ((32 : Int32) - (10 : Int32))) &&& ((1024 : Int32) - (1 : Int32)))), (.ref tb)] := Own.isub r d1_161
          replace r : A1 l Z n0 D h 1 1024 163 #[.val (.ref a0_), .val (.ref a1_), .val (.int (64 : Int32)), .val (.int (0 : Int32)), .val (.int v4_5), .val (.int p5), .val (.int v6_24)] [(.int (1 : Int32)), (.int ((60 : Int32) - v6_24)), (.int ((Own.iushrW (v4_5 * (-1640531535 : Int32)) ((32 : Int32) - (10 : Int32))) &&& ((1024 : Int32) - (1 : Int32)))), (.ref tb)] := Own.iconst r d1_162 rfl
          replace r : A1 l Z n0 D h 1 1024 164 #[.val (.ref a0_), .val (.ref a1_), .val (.int (64 : Int32)), .val (.int (0 : Int32)), .val (.int v4_5), .val (.int p5), .val (.int v6_24)] [(.int (0 : Int32)), (.int (1 : Int32)), (.int ((60 : Int32) - v6_24)), (.int ((Own.iushrW (v4_5 * (-1640531535 : Int32)) ((32 : Int32) - (10 : Int32))) &&& ((1024 : Int32) - (1 : Int32)))), (.ref tb)] := Own.iloadN r d1_163 rfl
          replace r : A1 l Z n0 D h 1 1024 165 #[.val (.ref a0_), .val (.ref a1_), .val (.int (64 : Int32)), .val (.int (0 : Int32)), .val (.int v4_5), .val (.int p5), .val (.int v6_24)] [(.int (1 : Int32)), (.int ((60 : Int32) - v6_24)), (.int ((Own.iushrW (v4_5 * (-1640531535 : Int32)) ((32 : Int32) - (10 : Int32))) &&& ((1024 : Int32) - (1 : Int32)))), (.ref tb)] := Own.ishl r d1_164
          replace r : A1 l Z n0 D h 1 1024 166 #[.val (.ref a0_), .val (.ref a1_), .val (.int (64 : Int32)), .val (.int (0 : Int32)), .val (.int v4_5), .val (.int p5), .val (.int v6_24)] [(.int (((60 : Int32) - v6_24) + (1 : Int32))), (.int ((Own.iushrW (v4_5 * (-1640531535 : Int32)) ((32 : Int32) - (10 : Int32))) &&& ((1024 : Int32) - (1 : Int32)))), (.ref tb)] := Own.iadd r d1_165
          replace r : A1 l Z n0 D h 1 1024 167 #[.val (.ref a0_), .val (.ref a1_), .val (.int (64 : Int32)), .val (.int (0 : Int32)), .val (.int v4_5), .val (.int p5), .val (.int v6_24)] [(.int (1 : Int32)), (.int (((60 : Int32) - v6_24) + (1 : Int32))), (.int ((Own.iushrW (v4_5 * (-1640531535 : Int32)) ((32 : Int32) - (10 : Int32))) &&& ((1024 : Int32) - (1 : Int32)))), (.ref tb)] := Own.iconst r d1_166 rfl
          replace r : A1 l Z n0 D h 1 1024 168 #[.val (.ref a0_), .val (.ref a1_), .val (.int (64 : Int32)), .val (.int (0 : Int32)), .val (.int v4_5), .val (.int p5), .val (.int v6_24)] [(.int ((((60 : Int32) - v6_24) + (1 : Int32)) - (1 : Int32))), (.int ((Own.iushrW (v4_5 * (-1640531535 : Int32)) ((32 : Int32) - (10 : Int32))) &&& ((1024 : Int32) - (1 : Int32)))), (.ref tb)] := Own.isub r d1_167
          replace r : A1 l Z n0 D h 1 1024 169 #[.val (.ref a0_), .val (.ref a1_), .val (.int (64 : Int32)), .val (.int (0 : Int32)), .val (.int v4_5), .val (.int p5), .val (.int v6_24)] [(.int (0 : Int32)), (.int ((((60 : Int32) - v6_24) + (1 : Int32)) - (1 : Int32))), (.int ((Own.iushrW (v4_5 * (-1640531535 : Int32)) ((32 : Int32) - (10 : Int32))) &&& ((1024 : Int32) - (1 : Int32)))), (.ref tb)] := Own.iloadN r d1_168 rfl
          replace r : A1 l Z n0 D h 1 1024 170 #[.val (.ref a0_), .val (.ref a1_), .val (.int (64 : Int32)), .val (.int (0 : Int32)), .val (.int v4_5), .val (.int p5), .val (.int v6_24)] [(.int (Own.ishrW ((((60 : Int32) - v6_24) + (1 : Int32)) - (1 : Int32)) (0 : Int32))), (.int ((Own.iushrW (v4_5 * (-1640531535 : Int32)) ((32 : Int32) - (10 : Int32))) &&& ((1024 : Int32) - (1 : Int32)))), (.ref tb)] := Own.ishr r d1_169
          exact ⟨_, by rw [if_neg br30], r⟩
      replace r : A1 l Z n0 D h 1 1024 171 #[.val (.ref a0_), .val (.ref a1_), .val (.int (64 : Int32)), .val (.int (0 : Int32)), .val (.int v4_5), .val (.int p5), .val (.int v6_24)] [(.int (Own.i2bW m29)), (.int ((Own.iushrW (v4_5 * (-1640531535 : Int32)) ((32 : Int32) - (10 : Int32))) &&& ((1024 : Int32) - (1 : Int32)))), (.ref tb)] := Own.i2b r d1_170
      obtain ⟨w31, e_w31⟩ : ∃ z : Int32, z = (Own.i2bW m29) := ⟨_, rfl⟩
      replace r : A1 l Z n0 D h 1 1024 171 #[.val (.ref a0_), .val (.ref a1_), .val (.int (64 : Int32)), .val (.int (0 : Int32)), .val (.int v4_5), .val (.int p5), .val (.int v6_24)] [(.int w31), (.int ((Own.iushrW (v4_5 * (-1640531535 : Int32)) ((32 : Int32) - (10 : Int32))) &&& ((1024 : Int32) - (1 : Int32)))), (.ref tb)] := by rw [e_w31]; exact r
      obtain ⟨h33, ⟨W32, V_tb⟩, r⟩ := Own.bastore r d1_171 V_tb (own_slot_nn _) (own_slot_lt hM _) ge_tb
      replace r : A1 l Z n0 D h33 1 1024 172 #[.val (.ref a0_), .val (.ref a1_), .val (.int (64 : Int32)), .val (.int (0 : Int32)), .val (.int v4_5), .val (.int p5), .val (.int v6_24)] [] := r
      replace X_a0_ := X_a0_.wr W32
      replace F_full_a0_ := F_full_a0_.other W32 (Or.inl (Ne.symm ne_tb_a0_))
      replace F_grain_a0_ := F_grain_a0_.other W32 (Or.inl (Ne.symm ne_tb_a0_))
      replace F_bits_a0_ := F_bits_a0_.other W32 (Or.inl (Ne.symm ne_tb_a0_))
      replace F_table_a0_ := F_table_a0_.other W32 (Or.inl (Ne.symm ne_tb_a0_))
      replace V_a1_ := V_a1_.other W32 ne_a1__tb
      replace Zs := Nat.le_trans Zs (Nat.le_of_eq W32.size.symm)
      replace K := K.wr W32 (Or.inr sz_tb)
      replace V_tb : Own.VA Z h33 tb .byte ((M.set ((Own.iushrW (v4_5 * (-1640531535 : Int32)) ((32 : Int32) - (10 : Int32))) &&& ((1024 : Int32) - (1 : Int32))).toNatClampNeg (nar .byte w31)).map Value.int) := by rw [List.map_set]; exact V_tb
      replace r : A1 l Z n0 D h33 1 1024 175 #[.val (.ref a0_), .val (.ref a1_), .val (.int (64 : Int32)), .val (.int (0 : Int32)), .val (.int v4_5), .val (.int (p5 + (1 : Int32))), .val (.int v6_24)] [] := Own.iinc r d1_172 rfl rfl rfl
      replace r : A1 l Z n0 D h33 1 1024 79 #[.val (.ref a0_), .val (.ref a1_), .val (.int (64 : Int32)), .val (.int (0 : Int32)), .val (.int v4_5), .val (.int (p5 + (1 : Int32))), .val (.int v6_24)] [] := Own.goto r d1_175 (by decide) (by decide)
      exact ⟨_, _, _, _, Zs, K, X_a0_, F_full_a0_, F_grain_a0_, F_bits_a0_, F_table_a0_, V_a1_, V_tb, (Or.inr ⟨_, rfl, rfl⟩), r, ⟨v4_5, e_v4_5, ⟨fun q => absurd q br6, fun _ => ⟨fun q => absurd q br23, fun _ => ⟨v6_24, e_v6_24, ⟨m29, e_m29, ⟨w31, e_w31, ⟨rfl, rfl⟩⟩⟩⟩⟩⟩⟩⟩
theorem own_gat {L : List Int32} {e k : Nat} (he : e < 64) (hk : k ≤ e) {kk : Int32} (hkk : kk.toInt = k + 1) : Own.ga L (own_E e - kk) = L.getD (e - k) 0 := by
  unfold Own.ga
  have q : (own_E e - kk).toNatClampNeg = e - k := by
    have := own_Ei (e := e) (by omega); have := c_isub (own_E e) kk; have := (own_E e - kk).toInt_lt; have := (own_E e - kk).le_toInt
    unfold Int32.toNatClampNeg; omega
  rw [q]
theorem own_Ts {L : List Int32} {e : Nat} (h : ¬ e + 1 < 5) : own_T L (e + 1) = (own_T L e).set (own_sl (own_G L (e + 1))).toNatClampNeg (own_v e) := by
  rw [own_T]; exact if_neg h
theorem own_turn {L : List Int32} {e : Nat} (he : e < 64) {g' : Int32} {M' : List Int32} (sp : u1_79_79S (own_G L e) (own_E e) L (own_T L e) g' M') : g' = own_G L (e + 1) ∧ M' = own_T L (e + 1) := by
  simp only [u1_79_79S, own_ex] at sp
  have E := own_Ei (e := e) (by omega)
  have l5 : (5 : Int32).toInt = 5 := rfl
  have g1 : Own.ga L (own_E e - (1 : Int32)) = L.getD e 0 := own_gat (k := 0) he (by omega) rfl
  rw [g1] at sp
  by_cases c : 5 < e + 1
  · have c1 : (5 : Int32) < own_E e := by rw [Int32.lt_iff_toInt_lt]; omega
    have c2 : ¬ own_E e < (5 : Int32) := by rw [Int32.lt_iff_toInt_lt]; omega
    have g6 : Own.ga L (own_E e - (1 : Int32) - (5 : Int32)) = L.getD (e - 5) 0 := by rw [own_s15]; exact own_gat (k := 5) he (by omega) rfl
    obtain ⟨h1, h2⟩ := (sp.1 c1).2 c2
    rw [g6] at h1 h2
    have hG : own_G L (e + 1) = ((Own.ishlW (own_G L e) (4 : Int32)) ^^^ L.getD e 0) ^^^ (Own.ishlW (L.getD (e - 5) 0) (20 : Int32)) := by rw [own_G, if_pos c]
    refine ⟨h1.trans hG.symm, ?_⟩
    rw [h2, own_Ts (by omega), hG]; rfl
  · have c1 : ¬ (5 : Int32) < own_E e := by rw [Int32.lt_iff_toInt_lt]; omega
    have hG : own_G L (e + 1) = (Own.ishlW (own_G L e) (4 : Int32)) ^^^ L.getD e 0 := by rw [own_G, if_neg c]
    by_cases d : e + 1 < 5
    · have c2 : own_E e < (5 : Int32) := by rw [Int32.lt_iff_toInt_lt]; omega
      obtain ⟨h1, h2⟩ := (sp.2 c1).1 c2
      exact ⟨h1.trans hG.symm, by rw [h2, own_T, if_pos d]⟩
    · have c2 : ¬ own_E e < (5 : Int32) := by rw [Int32.lt_iff_toInt_lt]; omega
      obtain ⟨h1, h2⟩ := (sp.2 c1).2 c2
      refine ⟨h1.trans hG.symm, ?_⟩
      rw [h2, own_Ts d, hG]; rfl


set_option maxRecDepth 65536 in
set_option maxHeartbeats 4000000 in
theorem own_loop (l : Launch) (Z : State) (a0 : Array Value) (hw : ∀ d ∈ tables_1, d.before a0 Z = true) (n0 : Nat) (D : Own.Dyn) (a0_ a1_ tb : Addr) (L : List Int32) (hL : L.length = 64) (hh : Heap) (sz_tb : hh.size ≤ tb) (ne1 : a1_ ≠ a0_) (ne2 : tb ≠ a0_) (ne3 : a1_ ≠ tb) (ge1 : n0 ≤ a0_) (ge2 : n0 ≤ tb) :
    ∀ (n e : Nat), e + n = 64 → ∀ (h : Heap) (sl6 : Slot), n0 ≤ h.size → Keep hh h [a0_] → Exa Z h a0_ "needlework/Skip" → Fld Z h a0_ "needlework/Skip" "full" "I" (.int (60 : Int32)) → Fld Z h a0_ "needlework/Skip" "grain" "I" (.int (0 : Int32)) → Fld Z h a0_ "needlework/Skip" "bits" "I" (.int (10 : Int32)) → Fld Z h a0_ "needlework/Skip" "table" "[B" (.ref tb) → Own.VA Z h a1_ .int (L.map Value.int) → Own.VA Z h tb .byte ((own_T L e).map Value.int) → (sl6 = .unset ∨ ∃ w, sl6 = .val w ∧ w.category = 1) → A1 l Z n0 D h 1 1024 79 #[.val (.ref a0_), .val (.ref a1_), .val (.int (64 : Int32)), .val (.int (0 : Int32)), .val (.int (own_G L e)), .val (.int (own_E e)), sl6] [] →
      ∃ (h' : Heap) (sl' : Slot), n0 ≤ h'.size ∧ Keep hh h' [a0_] ∧ Exa Z h' a0_ "needlework/Skip" ∧ Fld Z h' a0_ "needlework/Skip" "full" "I" (.int (60 : Int32)) ∧ Fld Z h' a0_ "needlework/Skip" "grain" "I" (.int (0 : Int32)) ∧ Fld Z h' a0_ "needlework/Skip" "bits" "I" (.int (10 : Int32)) ∧ Fld Z h' a0_ "needlework/Skip" "table" "[B" (.ref tb) ∧ Own.VA Z h' a1_ .int (L.map Value.int) ∧ Own.VA Z h' tb .byte ((own_T L 64).map Value.int) ∧ (sl' = .unset ∨ ∃ w, sl' = .val w ∧ w.category = 1) ∧ A1 l Z n0 D h' 1 1024 79 #[.val (.ref a0_), .val (.ref a1_), .val (.int (64 : Int32)), .val (.int (0 : Int32)), .val (.int (own_G L 64)), .val (.int (own_E 64)), sl'] [] := by
  intro n
  induction n with
  | zero =>
    intro e he h sl6 zs K f1 f2 f3 f4 f5 f6 f7 o6 r
    obtain rfl : e = 64 := by omega
    exact ⟨h, sl6, zs, K, f1, f2, f3, f4, f5, f6, f7, o6, r⟩
  | succ n ih =>
    intro e he h sl6 zs K f1 f2 f3 f4 f5 f6 f7 o6 r
    have q := own_ei (e := e) (by omega)
    obtain ⟨h', g', M', sl', zs', K', f1', f2', f3', f4', f5', f6', f7', o', r', sp⟩ := u1_79_79 l Z a0 hw n0 h zs D a0_ a1_ tb (own_G L e) (own_E e) sl6 L (own_T L e) hh K f1 f2 f3 f4 f5 f6 f7 ne1 ne2 ne3 ge1 ge2 o6 hL (own_tlen L e) q.1 q.2 sz_tb r
    obtain ⟨rfl, rfl⟩ := own_turn (e := e) (by omega) sp
    rw [own_E1 e] at r'
    exact ih (e + 1) (by omega) h' sl' zs' K' f1' f2' f3' f4' f5' f6' f7' o' r'

set_option maxRecDepth 65536 in
set_option maxHeartbeats 40000000 in
theorem c1 (l : Launch) (Z : State) (a0 : Array Value) (hw : ∀ d ∈ tables_1, d.before a0 Z = true) (n0 : Nat) (h : Heap) (Zs : n0 ≤ h.size) (a0_ : Addr) (a1_ : Addr) (u_full : Value) (u_grain : Value) (u_bits : Value) (u_table : Value) (L : List Int32) (F_full_a0_ : Fld Z h a0_ "needlework/Skip" "full" "I" u_full) (F_grain_a0_ : Fld Z h a0_ "needlework/Skip" "grain" "I" u_grain) (F_bits_a0_ : Fld Z h a0_ "needlework/Skip" "bits" "I" u_bits) (F_table_a0_ : Fld Z h a0_ "needlework/Skip" "table" "[B" u_table) (X_a0_ : Exa Z h a0_ "needlework/Skip") (ge_a0_ : n0 ≤ a0_) (V_a1_ : Own.VA Z h a1_ .int (L.map Value.int)) (ne_a1__a0_ : a1_ ≠ a0_) (hL : L.length = 64) :
    Own.Con l Z n0 (⟨"needlework/Skip", "<init>", "([I)V"⟩ : MethodName) prog_20_method_1_code 7 none R1 #[(.ref a0_), (.ref a1_)] h (fun v h' => v = none ∧ Keep h h' [a0_] ∧ Exa Z h' a0_ "needlework/Skip" ∧ Fld Z h' a0_ "needlework/Skip" "full" "I" (.int (60 : Int32)) ∧ Fld Z h' a0_ "needlework/Skip" "grain" "I" (.int (0 : Int32)) ∧ Fld Z h' a0_ "needlework/Skip" "bits" "I" (.int (10 : Int32)) ∧ ∃ tb, Fld Z h' a0_ "needlework/Skip" "table" "[B" (.ref tb) ∧ n0 ≤ tb ∧ Own.VA Z h' tb .byte ((own_T L 64).map Value.int)) := by
  refine Own.Con.enter pn_1 (ef_1 a0_ a1_) fun D r => ?_
  have K : Keep h h [a0_] := Keep.refl _ _
  replace r : A1 l Z n0 D h 0 0 1 #[.val (.ref a0_), .val (.ref a1_), .unset, .unset, .unset, .unset, .unset] [(.ref a0_)] := Own.aloadN r d1_0 rfl rfl
  replace r : A1 l Z n0 D h 0 0 4 #[.val (.ref a0_), .val (.ref a1_), .unset, .unset, .unset, .unset, .unset] [] := Own.initObj r d1_1 (hw _ (List.mem_of_getElem? (i := 8) rfl)) (hw _ (List.mem_of_getElem? (i := 9) rfl)) (hw _ (List.mem_of_getElem? (i := 10) rfl)) rfl (by decide) (W := 0) (Nat.le_of_eq rfl) (by decide)
  replace r : A1 l Z n0 D h 0 0 5 #[.val (.ref a0_), .val (.ref a1_), .unset, .unset, .unset, .unset, .unset] [(.ref a1_)] := Own.aloadN r d1_4 rfl rfl
  replace r : A1 l Z n0 D h 0 0 6 #[.val (.ref a0_), .val (.ref a1_), .unset, .unset, .unset, .unset, .unset] [(.int (64 : Int32))] := Own.arrlen r d1_5 V_a1_ (by rw [List.length_map, hL]; rfl)
  replace r : A1 l Z n0 D h 0 0 7 #[.val (.ref a0_), .val (.ref a1_), .val (.int (64 : Int32)), .unset, .unset, .unset, .unset] [] := Own.istoreN r d1_6 rfl
  replace r : A1 l Z n0 D h 0 0 8 #[.val (.ref a0_), .val (.ref a1_), .val (.int (64 : Int32)), .unset, .unset, .unset, .unset] [(.ref a0_)] := Own.aloadN r d1_7 rfl rfl
  replace r : A1 l Z n0 D h 0 0 9 #[.val (.ref a0_), .val (.ref a1_), .val (.int (64 : Int32)), .unset, .unset, .unset, .unset] [(.int (64 : Int32)), (.ref a0_)] := Own.iloadN r d1_8 rfl
  replace r : A1 l Z n0 D h 0 0 10 #[.val (.ref a0_), .val (.ref a1_), .val (.int (64 : Int32)), .unset, .unset, .unset, .unset] [(.int (5 : Int32)), (.int (64 : Int32)), (.ref a0_)] := Own.iconst r d1_9 rfl
  replace r : A1 l Z n0 D h 0 0 11 #[.val (.ref a0_), .val (.ref a1_), .val (.int (64 : Int32)), .unset, .unset, .unset, .unset] [(.int (59 : Int32)), (.ref a0_)] := Own.isub r d1_10
  replace r : A1 l Z n0 D h 0 0 12 #[.val (.ref a0_), .val (.ref a1_), .val (.int (64 : Int32)), .unset, .unset, .unset, .unset] [(.int (1 : Int32)), (.int (59 : Int32)), (.ref a0_)] := Own.iconst r d1_11 rfl
  replace r : A1 l Z n0 D h 0 0 13 #[.val (.ref a0_), .val (.ref a1_), .val (.int (64 : Int32)), .unset, .unset, .unset, .unset] [(.int (60 : Int32)), (.ref a0_)] := Own.iadd r d1_12
  obtain ⟨h2, W1, r⟩ := Own.putfield r d1_13 (host := "") (Or.inl (hw _ (List.mem_of_getElem? (i := 11) rfl))) Via.refl F_full_a0_ X_a0_ (Or.inr ⟨(hw _ (List.mem_of_getElem? (i := 12) rfl)), rfl, rfl⟩) (hw _ (List.mem_of_getElem? (i := 3) rfl)) (ty := .int) (by decide) rfl rfl ge_a0_
  replace r : A1 l Z n0 D h2 0 0 16 #[.val (.ref a0_), .val (.ref a1_), .val (.int (64 : Int32)), .unset, .unset, .unset, .unset] [] := r
  replace F_full_a0_ := F_full_a0_.same W1
  replace F_grain_a0_ := F_grain_a0_.other W1 (Or.inr (slot_ne (Or.inr (hw _ (List.mem_of_getElem? (i := 14) rfl))) (Or.inr (hw _ (List.mem_of_getElem? (i := 12) rfl))) (by decide) (t := .int) (t' := .int) (by decide) (by decide)))
  replace F_bits_a0_ := F_bits_a0_.other W1 (Or.inr (slot_ne (Or.inr (hw _ (List.mem_of_getElem? (i := 25) rfl))) (Or.inr (hw _ (List.mem_of_getElem? (i := 12) rfl))) (by decide) (t := .int) (t' := .int) (by decide) (by decide)))
  replace F_table_a0_ := F_table_a0_.other W1 (Or.inr (slot_ne (Or.inr (hw _ (List.mem_of_getElem? (i := 28) rfl))) (Or.inr (hw _ (List.mem_of_getElem? (i := 12) rfl))) (by decide) (t := (.array .byte)) (t' := .int) (by decide) (by decide)))
  replace X_a0_ := X_a0_.wr W1
  replace V_a1_ := V_a1_.other W1 ne_a1__a0_
  replace Zs := Nat.le_trans Zs (Nat.le_of_eq W1.size.symm)
  replace K := K.wr W1 (Or.inl (by simp))
  replace r : A1 l Z n0 D h2 0 0 17 #[.val (.ref a0_), .val (.ref a1_), .val (.int (64 : Int32)), .unset, .unset, .unset, .unset] [(.int (0 : Int32))] := Own.iconst r d1_16 rfl
  replace r : A1 l Z n0 D h2 0 0 18 #[.val (.ref a0_), .val (.ref a1_), .val (.int (64 : Int32)), .val (.int (0 : Int32)), .unset, .unset, .unset] [] := Own.istoreN r d1_17 rfl
  replace r : A1 l Z n0 D h2 0 0 19 #[.val (.ref a0_), .val (.ref a1_), .val (.int (64 : Int32)), .val (.int (0 : Int32)), .unset, .unset, .unset] [(.ref a0_)] := Own.aloadN r d1_18 rfl rfl
  replace r : A1 l Z n0 D h2 0 0 22 #[.val (.ref a0_), .val (.ref a1_), .val (.int (64 : Int32)), .val (.int (0 : Int32)), .unset, .unset, .unset] [(.int (60 : Int32))] := Own.getfield r d1_19 (host := "") (Or.inl (hw _ (List.mem_of_getElem? (i := 11) rfl))) Via.refl F_full_a0_
  replace r : A1 l Z n0 D h2 0 0 23 #[.val (.ref a0_), .val (.ref a1_), .val (.int (64 : Int32)), .val (.int (0 : Int32)), .unset, .unset, .unset] [(.int (1 : Int32)), (.int (60 : Int32))] := Own.iconst r d1_22 rfl
  replace r : A1 l Z n0 D h2 0 0 24 #[.val (.ref a0_), .val (.ref a1_), .val (.int (64 : Int32)), .val (.int (0 : Int32)), .unset, .unset, .unset] [(.int (59 : Int32))] := Own.isub r d1_23
  replace r : A1 l Z n0 D h2 0 0 25 #[.val (.ref a0_), .val (.ref a1_), .val (.int (64 : Int32)), .val (.int (0 : Int32)), .unset, .unset, .unset] [(.int (0 : Int32)), (.int (59 : Int32))] := Own.iloadN r d1_24 rfl
  replace r : A1 l Z n0 D h2 0 0 26 #[.val (.ref a0_), .val (.ref a1_), .val (.int (64 : Int32)), .val (.int (0 : Int32)), .unset, .unset, .unset] [(.int (59 : Int32))] := Own.ishr r d1_25
  replace r : A1 l Z n0 D h2 0 0 29 #[.val (.ref a0_), .val (.ref a1_), .val (.int (64 : Int32)), .val (.int (0 : Int32)), .unset, .unset, .unset] [(.int (254 : Int32)), (.int (59 : Int32))] := Own.sipush r d1_26 rfl
  replace r : A1 l Z n0 D h2 0 0 38 #[.val (.ref a0_), .val (.ref a1_), .val (.int (64 : Int32)), .val (.int (0 : Int32)), .unset, .unset, .unset] [] := Own.icmpYes r d1_29 (tlt (by decide : (59 : Int32) < (254 : Int32))).1 (by decide) (by decide)
  replace r : A1 l Z n0 D h2 0 0 39 #[.val (.ref a0_), .val (.ref a1_), .val (.int (64 : Int32)), .val (.int (0 : Int32)), .unset, .unset, .unset] [(.ref a0_)] := Own.aloadN r d1_38 rfl rfl
  replace r : A1 l Z n0 D h2 0 0 40 #[.val (.ref a0_), .val (.ref a1_), .val (.int (64 : Int32)), .val (.int (0 : Int32)), .unset, .unset, .unset] [(.int (0 : Int32)), (.ref a0_)] := Own.iloadN r d1_39 rfl
  obtain ⟨h4, W3, r⟩ := Own.putfield r d1_40 (host := "") (Or.inl (hw _ (List.mem_of_getElem? (i := 13) rfl))) Via.refl F_grain_a0_ X_a0_ (Or.inr ⟨(hw _ (List.mem_of_getElem? (i := 14) rfl)), rfl, rfl⟩) (hw _ (List.mem_of_getElem? (i := 3) rfl)) (ty := .int) (by decide) rfl rfl ge_a0_
  replace r : A1 l Z n0 D h4 0 0 43 #[.val (.ref a0_), .val (.ref a1_), .val (.int (64 : Int32)), .val (.int (0 : Int32)), .unset, .unset, .unset] [] := r
  replace F_full_a0_ := F_full_a0_.other W3 (Or.inr (slot_ne (Or.inr (hw _ (List.mem_of_getElem? (i := 12) rfl))) (Or.inr (hw _ (List.mem_of_getElem? (i := 14) rfl))) (by decide) (t := .int) (t' := .int) (by decide) (by decide)))
  replace F_grain_a0_ := F_grain_a0_.same W3
  replace F_bits_a0_ := F_bits_a0_.other W3 (Or.inr (slot_ne (Or.inr (hw _ (List.mem_of_getElem? (i := 25) rfl))) (Or.inr (hw _ (List.mem_of_getElem? (i := 14) rfl))) (by decide) (t := .int) (t' := .int) (by decide) (by decide)))
  replace F_table_a0_ := F_table_a0_.other W3 (Or.inr (slot_ne (Or.inr (hw _ (List.mem_of_getElem? (i := 28) rfl))) (Or.inr (hw _ (List.mem_of_getElem? (i := 14) rfl))) (by decide) (t := (.array .byte)) (t' := .int) (by decide) (by decide)))
  replace X_a0_ := X_a0_.wr W3
  replace V_a1_ := V_a1_.other W3 ne_a1__a0_
  replace Zs := Nat.le_trans Zs (Nat.le_of_eq W3.size.symm)
  replace K := K.wr W3 (Or.inl (by simp))
  replace r : A1 l Z n0 D h4 0 0 44 #[.val (.ref a0_), .val (.ref a1_), .val (.int (64 : Int32)), .val (.int (0 : Int32)), .unset, .unset, .unset] [(.ref a0_)] := Own.aloadN r d1_43 rfl rfl
  replace r : A1 l Z n0 D h4 0 0 46 #[.val (.ref a0_), .val (.ref a1_), .val (.int (64 : Int32)), .val (.int (0 : Int32)), .unset, .unset, .unset] [(.int (16 : Int32)), (.ref a0_)] := Own.bipush r d1_44 rfl
  replace r : A1 l Z n0 D h4 0 0 48 #[.val (.ref a0_), .val (.ref a1_), .val (.int (64 : Int32)), .val (.int (0 : Int32)), .unset, .unset, .unset] [(.int (32 : Int32)), (.int (16 : Int32)), (.ref a0_)] := Own.bipush r d1_46 rfl
  replace r : A1 l Z n0 D h4 0 0 49 #[.val (.ref a0_), .val (.ref a1_), .val (.int (64 : Int32)), .val (.int (0 : Int32)), .unset, .unset, .unset] [(.int (64 : Int32)), (.int (32 : Int32)), (.int (16 : Int32)), (.ref a0_)] := Own.iloadN r d1_48 rfl
  obtain ⟨rv5, h6, hQ7, r⟩ := Own.callS [(.int (64 : Int32))] r d1_49 (c3 l Z a0 hw n0 h4 Zs (64 : Int32)) (hw _ (List.mem_of_getElem? (i := 15) rfl)) (hw _ (List.mem_of_getElem? (i := 16) rfl)) (hw _ (List.mem_of_getElem? (i := 17) rfl)) (hw _ (List.mem_of_getElem? (i := 18) rfl)) (lenOf pd_1_1 rfl) rfl rfl (W := 3) (Nat.le_of_eq rfl) rfl (by decide) (by decide) (by decide) (by decide) (by decide)
  obtain ⟨rfl, y8, rfl, e_y8⟩ := hQ7
  obtain rfl := own_nlz e_y8
  replace r : A1 l Z n0 D h4 0 0 52 #[.val (.ref a0_), .val (.ref a1_), .val (.int (64 : Int32)), .val (.int (0 : Int32)), .unset, .unset, .unset] [(.int (25 : Int32)), (.int (32 : Int32)), (.int (16 : Int32)), (.ref a0_)] := r
  replace r : A1 l Z n0 D h4 0 0 53 #[.val (.ref a0_), .val (.ref a1_), .val (.int (64 : Int32)), .val (.int (0 : Int32)), .unset, .unset, .unset] [(.int (7 : Int32)), (.int (16 : Int32)), (.ref a0_)] := Own.isub r d1_52
  replace r : A1 l Z n0 D h4 0 0 54 #[.val (.ref a0_), .val (.ref a1_), .val (.int (64 : Int32)), .val (.int (0 : Int32)), .unset, .unset, .unset] [(.int (3 : Int32)), (.int (7 : Int32)), (.int (16 : Int32)), (.ref a0_)] := Own.iconst r d1_53 rfl
  replace r : A1 l Z n0 D h4 0 0 55 #[.val (.ref a0_), .val (.ref a1_), .val (.int (64 : Int32)), .val (.int (0 : Int32)), .unset, .unset, .unset] [(.int (10 : Int32)), (.int (16 : Int32)), (.ref a0_)] := Own.iadd r d1_54
  obtain ⟨rv9, h10, hQ11, r⟩ := Own.callS [(.int (16 : Int32)), (.int (10 : Int32))] r d1_55 (c4 l Z a0 hw n0 h4 Zs (16 : Int32) (10 : Int32)) (hw _ (List.mem_of_getElem? (i := 20) rfl)) (hw _ (List.mem_of_getElem? (i := 21) rfl)) (hw _ (List.mem_of_getElem? (i := 22) rfl)) (hw _ (List.mem_of_getElem? (i := 23) rfl)) (lenOf pd_1_0 rfl) rfl rfl (W := 1) (Nat.le_of_eq rfl) rfl (by decide) (by decide) (by decide) (by decide) (by decide)
  obtain ⟨rfl, y12, rfl, e_y12⟩ := hQ11
  obtain rfl := own_min e_y12
  replace r : A1 l Z n0 D h4 0 0 58 #[.val (.ref a0_), .val (.ref a1_), .val (.int (64 : Int32)), .val (.int (0 : Int32)), .unset, .unset, .unset] [(.int (10 : Int32)), (.ref a0_)] := r
  obtain ⟨h14, W13, r⟩ := Own.putfield r d1_58 (host := "") (Or.inl (hw _ (List.mem_of_getElem? (i := 24) rfl))) Via.refl F_bits_a0_ X_a0_ (Or.inr ⟨(hw _ (List.mem_of_getElem? (i := 25) rfl)), rfl, rfl⟩) (hw _ (List.mem_of_getElem? (i := 3) rfl)) (ty := .int) (by decide) rfl rfl ge_a0_
  replace r : A1 l Z n0 D h14 0 0 61 #[.val (.ref a0_), .val (.ref a1_), .val (.int (64 : Int32)), .val (.int (0 : Int32)), .unset, .unset, .unset] [] := r
  replace F_full_a0_ := F_full_a0_.other W13 (Or.inr (slot_ne (Or.inr (hw _ (List.mem_of_getElem? (i := 12) rfl))) (Or.inr (hw _ (List.mem_of_getElem? (i := 25) rfl))) (by decide) (t := .int) (t' := .int) (by decide) (by decide)))
  replace F_grain_a0_ := F_grain_a0_.other W13 (Or.inr (slot_ne (Or.inr (hw _ (List.mem_of_getElem? (i := 14) rfl))) (Or.inr (hw _ (List.mem_of_getElem? (i := 25) rfl))) (by decide) (t := .int) (t' := .int) (by decide) (by decide)))
  replace F_bits_a0_ := F_bits_a0_.same W13
  replace F_table_a0_ := F_table_a0_.other W13 (Or.inr (slot_ne (Or.inr (hw _ (List.mem_of_getElem? (i := 28) rfl))) (Or.inr (hw _ (List.mem_of_getElem? (i := 25) rfl))) (by decide) (t := (.array .byte)) (t' := .int) (by decide) (by decide)))
  replace X_a0_ := X_a0_.wr W13
  replace V_a1_ := V_a1_.other W13 ne_a1__a0_
  replace Zs := Nat.le_trans Zs (Nat.le_of_eq W13.size.symm)
  replace K := K.wr W13 (Or.inl (by simp))
  replace r : A1 l Z n0 D h14 0 0 62 #[.val (.ref a0_), .val (.ref a1_), .val (.int (64 : Int32)), .val (.int (0 : Int32)), .unset, .unset, .unset] [(.ref a0_)] := Own.aloadN r d1_61 rfl rfl
  replace r : A1 l Z n0 D h14 0 0 63 #[.val (.ref a0_), .val (.ref a1_), .val (.int (64 : Int32)), .val (.int (0 : Int32)), .unset, .unset, .unset] [(.int (1 : Int32)), (.ref a0_)] := Own.iconst r d1_62 rfl
  replace r : A1 l Z n0 D h14 0 0 64 #[.val (.ref a0_), .val (.ref a1_), .val (.int (64 : Int32)), .val (.int (0 : Int32)), .unset, .unset, .unset] [(.ref a0_), (.int (1 : Int32)), (.ref a0_)] := Own.aloadN r d1_63 rfl rfl
  replace r : A1 l Z n0 D h14 0 0 67 #[.val (.ref a0_), .val (.ref a1_), .val (.int (64 : Int32)), .val (.int (0 : Int32)), .unset, .unset, .unset] [(.int (10 : Int32)), (.int (1 : Int32)), (.ref a0_)] := Own.getfield r d1_64 (host := "") (Or.inl (hw _ (List.mem_of_getElem? (i := 24) rfl))) Via.refl F_bits_a0_
  replace r : A1 l Z n0 D h14 0 0 68 #[.val (.ref a0_), .val (.ref a1_), .val (.int (64 : Int32)), .val (.int (0 : Int32)), .unset, .unset, .unset] [(.int (1024 : Int32)), (.ref a0_)] := Own.ishl r d1_67
  obtain ⟨h15, ⟨E15, V_b15⟩, r⟩ := Own.newArr r d1_68 (hw _ (List.mem_of_getElem? (i := 26) rfl)) (by decide) (cap := 1024) (by decide) (by decide) (by decide) (by decide)
  obtain ⟨b15, g15⟩ : ∃ z, z = h14.size := ⟨_, rfl⟩
  rw [← g15] at V_b15 r
  have ge_b15 : n0 ≤ b15 := Nat.le_trans Zs (Nat.le_of_eq g15.symm)
  have sz_b15 : h.size ≤ b15 := Nat.le_trans K.1 (Nat.le_of_eq g15.symm)
  have ne_a0__b15 : a0_ ≠ b15 := Own.ne_lt F_full_a0_.lt g15
  have ne_a1__b15 : a1_ ≠ b15 := Own.ne_lt V_a1_.lt g15
  replace F_full_a0_ := F_full_a0_.ext E15
  replace F_grain_a0_ := F_grain_a0_.ext E15
  replace F_bits_a0_ := F_bits_a0_.ext E15
  replace F_table_a0_ := F_table_a0_.ext E15
  replace X_a0_ := X_a0_.ext E15
  replace V_a1_ := V_a1_.ext E15
  replace Zs := Nat.le_trans Zs E15.1
  replace K := K.ext E15
  replace r : A1 l Z n0 D h15 1 1024 70 #[.val (.ref a0_), .val (.ref a1_), .val (.int (64 : Int32)), .val (.int (0 : Int32)), .unset, .unset, .unset] [(.ref b15), (.ref a0_)] := r
  replace V_b15 : Own.VA Z h15 b15 .byte ((List.replicate 1024 (0 : Int32)).map Value.int) := by rw [List.map_replicate]; exact V_b15
  obtain ⟨h17, W16, r⟩ := Own.putfield r d1_70 (host := "") (Or.inl (hw _ (List.mem_of_getElem? (i := 27) rfl))) Via.refl F_table_a0_ X_a0_ (Or.inr ⟨(hw _ (List.mem_of_getElem? (i := 28) rfl)), rfl, rfl⟩) (hw _ (List.mem_of_getElem? (i := 3) rfl)) (ty := (.array .byte)) (by decide) rfl rfl ge_a0_
  replace r : A1 l Z n0 D h17 1 1024 73 #[.val (.ref a0_), .val (.ref a1_), .val (.int (64 : Int32)), .val (.int (0 : Int32)), .unset, .unset, .unset] [] := r
  replace F_full_a0_ := F_full_a0_.other W16 (Or.inr (slot_ne (Or.inr (hw _ (List.mem_of_getElem? (i := 12) rfl))) (Or.inr (hw _ (List.mem_of_getElem? (i := 28) rfl))) (by decide) (t := .int) (t' := (.array .byte)) (by decide) (by decide)))
  replace F_grain_a0_ := F_grain_a0_.other W16 (Or.inr (slot_ne (Or.inr (hw _ (List.mem_of_getElem? (i := 14) rfl))) (Or.inr (hw _ (List.mem_of_getElem? (i := 28) rfl))) (by decide) (t := .int) (t' := (.array .byte)) (by decide) (by decide)))
  replace F_bits_a0_ := F_bits_a0_.other W16 (Or.inr (slot_ne (Or.inr (hw _ (List.mem_of_getElem? (i := 25) rfl))) (Or.inr (hw _ (List.mem_of_getElem? (i := 28) rfl))) (by decide) (t := .int) (t' := (.array .byte)) (by decide) (by decide)))
  replace F_table_a0_ := F_table_a0_.same W16
  replace X_a0_ := X_a0_.wr W16
  replace V_a1_ := V_a1_.other W16 ne_a1__a0_
  replace V_b15 := V_b15.other W16 (Ne.symm ne_a0__b15)
  replace Zs := Nat.le_trans Zs (Nat.le_of_eq W16.size.symm)
  replace K := K.wr W16 (Or.inl (by simp))
  replace r : A1 l Z n0 D h17 1 1024 74 #[.val (.ref a0_), .val (.ref a1_), .val (.int (64 : Int32)), .val (.int (0 : Int32)), .unset, .unset, .unset] [(.int (0 : Int32))] := Own.iconst r d1_73 rfl
  replace r : A1 l Z n0 D h17 1 1024 76 #[.val (.ref a0_), .val (.ref a1_), .val (.int (64 : Int32)), .val (.int (0 : Int32)), .val (.int (0 : Int32)), .unset, .unset] [] := Own.istore r d1_74 rfl
  replace r : A1 l Z n0 D h17 1 1024 77 #[.val (.ref a0_), .val (.ref a1_), .val (.int (64 : Int32)), .val (.int (0 : Int32)), .val (.int (0 : Int32)), .unset, .unset] [(.int (1 : Int32))] := Own.iconst r d1_76 rfl
  replace r : A1 l Z n0 D h17 1 1024 79 #[.val (.ref a0_), .val (.ref a1_), .val (.int (64 : Int32)), .val (.int (0 : Int32)), .val (.int (0 : Int32)), .val (.int (1 : Int32)), .unset] [] := Own.istore r d1_77 rfl
  obtain ⟨hz, slz, zsz, Kz, z1, z2, z3, z4, z5, z6, z7, oz, r⟩ := own_loop l Z a0 hw n0 D a0_ a1_ b15 L hL h sz_b15 ne_a1__a0_ (Ne.symm ne_a0__b15) ne_a1__b15 ge_a0_ ge_b15 64 0 rfl h17 .unset Zs K X_a0_ F_full_a0_ F_grain_a0_ F_bits_a0_ F_table_a0_ V_a1_ V_b15 (Or.inl rfl) r
  replace r : A1 l Z n0 D hz 1 1024 81 #[.val (.ref a0_), .val (.ref a1_), .val (.int (64 : Int32)), .val (.int (0 : Int32)), .val (.int (own_G L 64)), .val (.int (own_E 64)), slz] [(.int (own_E 64))] := Own.iload r d1_79 rfl
  replace r : A1 l Z n0 D hz 1 1024 82 #[.val (.ref a0_), .val (.ref a1_), .val (.int (64 : Int32)), .val (.int (0 : Int32)), .val (.int (own_G L 64)), .val (.int (own_E 64)), slz] [(.int (64 : Int32)), (.int (own_E 64))] := Own.iloadN r d1_81 rfl
  replace r : A1 l Z n0 D hz 1 1024 178 #[.val (.ref a0_), .val (.ref a1_), .val (.int (64 : Int32)), .val (.int (0 : Int32)), .val (.int (own_G L 64)), .val (.int (own_E 64)), slz] [] := Own.icmpYes r d1_82 (tlt own_stop).2.2.1 (by decide) (by decide)
  exact ⟨_, _, (Own.Rch.ret0 r d1_178).more (by decide) (by decide), rfl, Kz, z1, z2, z3, z4, b15, z5, ge_b15, z7⟩
theorem own_end {v es : Int32} (e : v = ((5 : Int32) + ((es &&& (2147483647 : Int32)) % (60 : Int32)))) : 5 ≤ v.toInt ∧ v.toInt ≤ 64 := by
  have a := c_and es 2147483647 (by decide)
  have b := (c_irem (es &&& 2147483647) 60 60 rfl).1 a.1
  have c := c_iadd 5 ((es &&& 2147483647) % 60)
  have := (5 + ((es &&& 2147483647) % 60) : Int32).toInt_lt; have := (5 + ((es &&& 2147483647) % 60) : Int32).le_toInt
  have : (5 : Int32).toInt = 5 := rfl
  rw [e]; omega
theorem own_stk {v es k : Int32} {L : List Int32} (e : v = ((5 : Int32) + ((es &&& (2147483647 : Int32)) % (60 : Int32)))) (hl : L.length = 64) (hk : 1 ≤ k.toInt ∧ k.toInt ≤ 5) : ¬ (v - k) < 0 ∧ (v - k).toNatClampNeg < (L.map Value.int).length := by
  have := own_end e
  have := c_isub v k; have := (v - k).toInt_lt; have := (v - k).le_toInt
  refine ⟨by rw [Int32.lt_iff_toInt_lt]; have : (0 : Int32).toInt = 0 := rfl; omega, ?_⟩
  rw [List.length_map, hl]; unfold Int32.toNatClampNeg; omega
theorem own_st5 {v es : Int32} {L : List Int32} (e : v = ((5 : Int32) + ((es &&& (2147483647 : Int32)) % (60 : Int32)))) (hl : L.length = 64) : ¬ (v - (5 : Int32)) < 0 ∧ (v - (5 : Int32)).toNatClampNeg < (L.map Value.int).length := own_stk e hl (by decide)
theorem own_st4 {v es : Int32} {L : List Int32} (e : v = ((5 : Int32) + ((es &&& (2147483647 : Int32)) % (60 : Int32)))) (hl : L.length = 64) : ¬ (v - (4 : Int32)) < 0 ∧ (v - (4 : Int32)).toNatClampNeg < (L.map Value.int).length := own_stk e hl (by decide)
theorem own_st3 {v es : Int32} {L : List Int32} (e : v = ((5 : Int32) + ((es &&& (2147483647 : Int32)) % (60 : Int32)))) (hl : L.length = 64) : ¬ (v - (3 : Int32)) < 0 ∧ (v - (3 : Int32)).toNatClampNeg < (L.map Value.int).length := own_stk e hl (by decide)
theorem own_st2 {v es : Int32} {L : List Int32} (e : v = ((5 : Int32) + ((es &&& (2147483647 : Int32)) % (60 : Int32)))) (hl : L.length = 64) : ¬ (v - (2 : Int32)) < 0 ∧ (v - (2 : Int32)).toNatClampNeg < (L.map Value.int).length := own_stk e hl (by decide)
theorem own_st1 {v es : Int32} {L : List Int32} (e : v = ((5 : Int32) + ((es &&& (2147483647 : Int32)) % (60 : Int32)))) (hl : L.length = 64) : ¬ (v - (1 : Int32)) < 0 ∧ (v - (1 : Int32)).toNatClampNeg < (L.map Value.int).length := own_stk e hl (by decide)
def own_okv (x : Int32) : Prop := x = 0 ∨ (1 ≤ x.toInt ∧ x.toInt ≤ 59) ∨ x = -1
theorem own_vok : ∀ e : Fin 64, 4 ≤ e.val → own_v e.val ≠ 0 ∧ ((1 ≤ (own_v e.val).toInt ∧ (own_v e.val).toInt ≤ 59) ∨ own_v e.val = -1) := by decide +kernel
theorem own_gaset {M : List Int32} {i j : Int32} {x : Int32} (hi : i.toNatClampNeg < M.length) : Own.ga (M.set i.toNatClampNeg x) j = if i.toNatClampNeg = j.toNatClampNeg then x else Own.ga M j := by
  unfold Own.ga
  rw [List.getD_eq_getElem?_getD, List.getD_eq_getElem?_getD, List.getElem?_set]
  split
  · simp [hi]
  · rfl
theorem own_sln (g : Int32) : (own_sl g).toNatClampNeg < 1024 := by have := own_slb g; unfold Int32.toNatClampNeg; omega
theorem own_Tok (L : List Int32) : ∀ e, e ≤ 64 → ∀ j, own_okv (Own.ga (own_T L e) j) := by
  intro e
  induction e with
  | zero =>
    intro _ j; left
    unfold Own.ga own_T
    rw [List.getD_eq_getElem?_getD, List.getElem?_replicate]; split <;> rfl
  | succ e ih =>
    intro he j
    unfold own_T
    split
    · exact ih (by omega) j
    · rename_i c
      rw [own_gaset (by rw [own_tlen]; exact own_sln _)]
      split
      · exact Or.inr (own_vok ⟨e, by omega⟩ (by simp only; omega)).2
      · exact ih (by omega) j
theorem own_Tin (L : List Int32) : ∀ e, e ≤ 64 → ∀ e', 5 ≤ e' → e' ≤ e → Own.ga (own_T L e) (own_sl (own_G L e')) ≠ 0 := by
  intro e
  induction e with
  | zero => intro _ e' h1 h2; omega
  | succ e ih =>
    intro he e' h1 h2
    unfold own_T
    rw [if_neg (by omega), own_gaset (by rw [own_tlen]; exact own_sln _)]
    split
    · exact (own_vok ⟨e, by omega⟩ (by simp only; omega)).1
    · rename_i c
      have : e' ≠ e + 1 := fun q => c (by rw [q])
      exact ih (by omega) e' h1 (by omega)
theorem own_shx (a b k : Int32) : Own.ishlW (a ^^^ b) k = Own.ishlW a k ^^^ Own.ishlW b k := by
  unfold Own.ishlW
  apply Int32.toBitVec_inj.mp
  rw [Int32.toBitVec_xor, Int32.toBitVec_shiftLeft, Int32.toBitVec_shiftLeft, Int32.toBitVec_shiftLeft, Int32.toBitVec_xor]
  exact BitVec.shiftLeft_xor_distrib _ _ _
theorem own_sh0 (k : Int32) : Own.ishlW 0 k = 0 := by
  unfold Own.ishlW
  apply Int32.toBitVec_inj.mp
  rw [Int32.toBitVec_shiftLeft]; simp
theorem own_shl {a j k m : Int32} (h : (1 : Int32) <<< (j &&& 31) * ((1 : Int32) <<< (k &&& 31)) = (1 : Int32) <<< (m &&& 31)) : Own.ishlW (Own.ishlW a j) k = Own.ishlW a m := by
  unfold Own.ishlW
  rw [shlm (x := a) (k := j) rfl, shlm (k := k) rfl, shlm (x := a) (k := m) rfl, Int32.mul_assoc, h]
def own_h5 (a b c d f : Int32) : Int32 := ((((Own.ishlW a (16 : Int32)) ^^^ (Own.ishlW b (12 : Int32))) ^^^ (Own.ishlW c (8 : Int32))) ^^^ (Own.ishlW d (4 : Int32))) ^^^ f
theorem own_cancel (A B C D E F : Int32) : (((((A ^^^ B) ^^^ C) ^^^ D) ^^^ E) ^^^ F) ^^^ A = (((B ^^^ C) ^^^ D) ^^^ E) ^^^ F := by
  rw [Int32.xor_comm _ A]
  simp only [Int32.xor_assoc]
  rw [← Int32.xor_assoc A A, Int32.xor_self, Int32.zero_xor]
theorem own_GH (L : List Int32) : ∀ n, own_G L (n + 5) = own_h5 (L.getD n 0) (L.getD (n + 1) 0) (L.getD (n + 2) 0) (L.getD (n + 3) 0) (L.getD (n + 4) 0) := by
  intro n
  induction n with
  | zero =>
    have z : own_G L 0 = 0 := rfl
    rw [own_G, if_neg (by omega), own_G, if_neg (by omega), own_G, if_neg (by omega), own_G, if_neg (by omega), own_G, if_neg (by omega), z]
    simp only [own_shx, own_sh0, Int32.zero_xor, own_h5]
    have k (a : Int32) : Own.ishlW (Own.ishlW a 4) 4 = Own.ishlW a 8 := own_shl (by decide)
    have k2 (a : Int32) : Own.ishlW (Own.ishlW a 8) 4 = Own.ishlW a 12 := own_shl (by decide)
    have k3 (a : Int32) : Own.ishlW (Own.ishlW a 12) 4 = Own.ishlW a 16 := own_shl (by decide)
    simp only [k, k2, k3]
  | succ n ih =>
    have e : n + 1 + 5 = (n + 5) + 1 := by omega
    rw [e, own_G, if_pos (by omega), ih]
    simp only [own_h5, own_shx]
    rw [own_shl (a := L.getD n 0) (j := 16) (k := 4) (m := 20) (by decide), own_shl (a := L.getD (n + 1) 0) (j := 12) (k := 4) (m := 16) (by decide), own_shl (a := L.getD (n + 2) 0) (j := 8) (k := 4) (m := 12) (by decide), own_shl (a := L.getD (n + 3) 0) (j := 4) (k := 4) (m := 8) (by decide), show n + 5 - 5 = n by omega]
    exact own_cancel _ _ _ _ _ _

theorem own_getset {l : List Int32} {i j : Nat} {x : Int32} (hi : i < l.length) : (l.set i x).getD j 0 = if i = j then x else l.getD j 0 := by
  rw [List.getD_eq_getElem?_getD, List.getD_eq_getElem?_getD, List.getElem?_set]
  split
  · simp [hi]
  · rfl
section
variable {v es s0 s1 s2 s3 s4 : Int32} {L1 L2 L3 L4 L : List Int32}
theorem own_idx {v k : Int32} (hv : 5 ≤ v.toInt ∧ v.toInt ≤ 64) (hk : 1 ≤ k.toInt ∧ k.toInt ≤ 5) : (v - k).toNatClampNeg = v.toInt.toNat - k.toInt.toNat := by
  have := c_isub v k; have := (v - k).toInt_lt; have := (v - k).le_toInt
  unfold Int32.toNatClampNeg; omega
theorem own_Lget (e : v = ((5 : Int32) + ((es &&& (2147483647 : Int32)) % (60 : Int32)))) (e1 : L1 = ((List.replicate 64 (0 : Int32)).set (v - (5 : Int32)).toNatClampNeg s0)) (e2 : L2 = (L1.set (v - (4 : Int32)).toNatClampNeg s1)) (e3 : L3 = (L2.set (v - (3 : Int32)).toNatClampNeg s2)) (e4 : L4 = (L3.set (v - (2 : Int32)).toNatClampNeg s3)) (e5 : L = (L4.set (v - (1 : Int32)).toNatClampNeg s4)) (j : Nat) :
    L.getD j 0 = if v.toInt.toNat - 1 = j then s4 else if v.toInt.toNat - 2 = j then s3 else if v.toInt.toNat - 3 = j then s2 else if v.toInt.toNat - 4 = j then s1 else if v.toInt.toNat - 5 = j then s0 else 0 := by
  have hv := own_end e
  have i5 := own_idx (k := 5) hv (by decide); have i4 := own_idx (k := 4) hv (by decide); have i3 := own_idx (k := 3) hv (by decide); have i2 := own_idx (k := 2) hv (by decide); have i1 := own_idx (k := 1) hv (by decide)
  have t5 : (5 : Int32).toInt.toNat = 5 := rfl; have t4 : (4 : Int32).toInt.toNat = 4 := rfl; have t3 : (3 : Int32).toInt.toNat = 3 := rfl; have t2 : (2 : Int32).toInt.toNat = 2 := rfl; have t1 : (1 : Int32).toInt.toNat = 1 := rfl
  rw [t5] at i5; rw [t4] at i4; rw [t3] at i3; rw [t2] at i2; rw [t1] at i1
  have l0 : (List.replicate 64 (0 : Int32)).length = 64 := List.length_replicate
  have l1 : L1.length = 64 := by rw [e1, List.length_set]; exact l0
  have l2 : L2.length = 64 := by rw [e2, List.length_set]; exact l1
  have l3 : L3.length = 64 := by rw [e3, List.length_set]; exact l2
  have l4 : L4.length = 64 := by rw [e4, List.length_set]; exact l3
  rw [e5, i1, own_getset (by omega), e4, i2, own_getset (by omega), e3, i3, own_getset (by omega), e2, i4, own_getset (by omega), e1, i5, own_getset (by omega)]
  have r : (List.replicate 64 (0 : Int32)).getD j 0 = 0 := by rw [List.getD_eq_getElem?_getD, List.getElem?_replicate]; split <;> rfl
  rw [r]
theorem own_inL (e : v = ((5 : Int32) + ((es &&& (2147483647 : Int32)) % (60 : Int32)))) (e1 : L1 = ((List.replicate 64 (0 : Int32)).set (v - (5 : Int32)).toNatClampNeg s0)) (e2 : L2 = (L1.set (v - (4 : Int32)).toNatClampNeg s1)) (e3 : L3 = (L2.set (v - (3 : Int32)).toNatClampNeg s2)) (e4 : L4 = (L3.set (v - (2 : Int32)).toNatClampNeg s3)) (e5 : L = (L4.set (v - (1 : Int32)).toNatClampNeg s4)) : own_G L v.toInt.toNat = own_h5 s0 s1 s2 s3 s4 := by
  have hv := own_end e
  have g := own_Lget e e1 e2 e3 e4 e5
  obtain ⟨n, hn⟩ : ∃ n, v.toInt.toNat = n + 5 := ⟨v.toInt.toNat - 5, by omega⟩
  rw [hn] at g ⊢
  rw [own_GH, g, g, g, g, g]
  have b (p : Prop) [Decidable p] (x y : Int32) (h : ¬ p) : (if p then x else y) = y := if_neg h
  simp
theorem own_zeroL (e : v = ((5 : Int32) + ((es &&& (2147483647 : Int32)) % (60 : Int32)))) (e1 : L1 = ((List.replicate 64 (0 : Int32)).set (v - (5 : Int32)).toNatClampNeg s0)) (e2 : L2 = (L1.set (v - (4 : Int32)).toNatClampNeg s1)) (e3 : L3 = (L2.set (v - (3 : Int32)).toNatClampNeg s2)) (e4 : L4 = (L3.set (v - (2 : Int32)).toNatClampNeg s3)) (e5 : L = (L4.set (v - (1 : Int32)).toNatClampNeg s4)) : ∃ e', 5 ≤ e' ∧ e' ≤ 64 ∧ own_G L e' = 0 := by
  have hv := own_end e
  have g := own_Lget e e1 e2 e3 e4 e5
  have z : own_h5 0 0 0 0 0 = 0 := by decide
  have key : ∀ n, (∀ i, n ≤ i → i < n + 5 → L.getD i 0 = 0) → own_G L (n + 5) = 0 := fun n h => by
    rw [own_GH, h n (by omega) (by omega), h (n + 1) (by omega) (by omega), h (n + 2) (by omega) (by omega), h (n + 3) (by omega) (by omega), h (n + 4) (by omega) (by omega), z]
  by_cases c : 10 ≤ v.toInt.toNat
  · refine ⟨5, by omega, by omega, key 0 fun i _ hi => ?_⟩
    rw [g, if_neg (by omega), if_neg (by omega), if_neg (by omega), if_neg (by omega), if_neg (by omega)]
  · refine ⟨64, by omega, by omega, key 59 fun i h1 hi => ?_⟩
    rw [g, if_neg (by omega), if_neg (by omega), if_neg (by omega), if_neg (by omega), if_neg (by omega)]
theorem own_S8 {g y : Int32} {M : List Int32} (h : S8 g M y) : y = if Own.ga M (own_sl g) = (0 : Int32) then (1 : Int32) else (0 : Int32) := by
  obtain ⟨m, e, rfl⟩ := h; exact e
theorem own_in {h y m : Int32} (e : v = ((5 : Int32) + ((es &&& (2147483647 : Int32)) % (60 : Int32)))) (e1 : L1 = ((List.replicate 64 (0 : Int32)).set (v - (5 : Int32)).toNatClampNeg s0)) (e2 : L2 = (L1.set (v - (4 : Int32)).toNatClampNeg s1)) (e3 : L3 = (L2.set (v - (3 : Int32)).toNatClampNeg s2)) (e4 : L4 = (L3.set (v - (2 : Int32)).toNatClampNeg s3)) (e5 : L = (L4.set (v - (1 : Int32)).toNatClampNeg s4))
    (eh : h = (((((Own.ishlW s0 (16 : Int32)) ^^^ (Own.ishlW s1 (12 : Int32))) ^^^ (Own.ishlW s2 (8 : Int32))) ^^^ (Own.ishlW s3 (4 : Int32))) ^^^ s4)) (ey : S8 h (own_T L 64) y) (em : m = (if y = (0 : Int32) then (1 : Int32) else (0 : Int32))) : ¬ m = (0 : Int32) := by
  have hv := own_end e
  have q := own_Tin L 64 (by omega) v.toInt.toNat (by omega) (by omega)
  rw [own_inL e e1 e2 e3 e4 e5] at q
  have q' : Own.ga (own_T L 64) (own_sl h) ≠ 0 := by rw [eh]; exact q
  have y0 := own_S8 ey
  rw [if_neg q'] at y0
  rw [em, if_pos y0]; decide
theorem own_zero {y m : Int32} (e : v = ((5 : Int32) + ((es &&& (2147483647 : Int32)) % (60 : Int32)))) (e1 : L1 = ((List.replicate 64 (0 : Int32)).set (v - (5 : Int32)).toNatClampNeg s0)) (e2 : L2 = (L1.set (v - (4 : Int32)).toNatClampNeg s1)) (e3 : L3 = (L2.set (v - (3 : Int32)).toNatClampNeg s2)) (e4 : L4 = (L3.set (v - (2 : Int32)).toNatClampNeg s3)) (e5 : L = (L4.set (v - (1 : Int32)).toNatClampNeg s4))
    (ey : S8 (0 : Int32) (own_T L 64) y) (em : m = (if y = (0 : Int32) then (1 : Int32) else (0 : Int32))) : ¬ m = (0 : Int32) := by
  obtain ⟨e', h1, h2, h3⟩ := own_zeroL e e1 e2 e3 e4 e5
  have q := own_Tin L 64 (by omega) e' h1 h2
  rw [h3] at q
  have y0 := own_S8 ey
  rw [if_neg q] at y0
  rw [em, if_pos y0]; decide
end
theorem own_agree {L : List Int32} {g y w m m' : Int32} (ey : S8 g (own_T L 64) y) (ew : S9 g (own_T L 64) w) (em : m = (if w = (60 : Int32) then (1 : Int32) else (0 : Int32))) (em' : m' = (if y = m then (1 : Int32) else (0 : Int32))) : ¬ m' = (0 : Int32) := by
  have y0 := own_S8 ey
  have ok := own_Tok L 64 (by omega) (own_sl g)
  simp only [S9, own_ex] at ew
  change (Own.ga (own_T L 64) (own_sl g) &&& (255 : Int32) = 0 → w = 60) ∧ (¬ Own.ga (own_T L 64) (own_sl g) &&& (255 : Int32) = 0 → (Own.ga (own_T L 64) (own_sl g) &&& (255 : Int32) = 255 → w = 0) ∧ (¬ Own.ga (own_T L 64) (own_sl g) &&& (255 : Int32) = 255 → ∃ y15, S12 (1 : Int32) ((60 : Int32) - (Own.ishlW (Own.ga (own_T L 64) (own_sl g) &&& (255 : Int32)) (0 : Int32))) y15 ∧ w = y15)) at ew
  generalize Own.ga (own_T L 64) (own_sl g) = x at *
  rcases ok with rfl | ⟨h1, h2⟩ | rfl
  · have hw := ew.1 (by decide)
    rw [if_pos rfl] at y0
    rw [em', em, if_pos hw, if_pos y0]; decide
  · have hx : x ≠ 0 := fun q => by rw [q] at h1; exact absurd h1 (by decide)
    have fin : ∀ k : Fin 60, 1 ≤ k.val → ¬ (Int32.ofInt (k.val : Int) &&& (255 : Int32)) = 0 ∧ ¬ (Int32.ofInt (k.val : Int) &&& (255 : Int32)) = 255 ∧ (if (1 : Int32) < (60 : Int32) - (Own.ishlW (Int32.ofInt (k.val : Int) &&& (255 : Int32)) (0 : Int32)) then (60 : Int32) - (Own.ishlW (Int32.ofInt (k.val : Int) &&& (255 : Int32)) (0 : Int32)) else (1 : Int32)) ≠ (60 : Int32) := by decide +kernel
    have e : Int32.ofInt ((x.toInt.toNat : Nat) : Int) = x := by rw [Int.toNat_of_nonneg (by omega)]; exact Int32.ofInt_toInt x
    have f := fin ⟨x.toInt.toNat, by omega⟩ (by simp only; omega)
    rw [e] at f
    obtain ⟨y15, hs, hwy⟩ := (ew.2 f.1).2 f.2.1
    obtain ⟨m1, e1, h3⟩ := hs
    have hw : ¬ w = (60 : Int32) := by rw [hwy, h3, e1]; exact f.2.2
    rw [if_neg hx] at y0
    rw [em', em, if_neg hw, if_pos y0]; decide
  · have hw := (ew.2 (by decide)).1 (by decide)
    rw [if_neg (by decide)] at y0
    have hm : m = 0 := by rw [em, hw]; decide
    rw [em', y0, hm]; decide

theorem pd_0_0 : parseMethodDescriptor "([I)V" = some ⟨[(.array .int)], none⟩ := by decide +kernel
theorem pd_0_1 : parseMethodDescriptor "(I)Z" = some ⟨[.int], some .boolean⟩ := by decide +kernel
theorem pd_0_2 : parseMethodDescriptor "(I)I" = some ⟨[.int], some .int⟩ := by decide +kernel
theorem pd_0_3 : parseMethodDescriptor "()I" = some ⟨[], some .int⟩ := by decide +kernel
theorem pn_0 : plainFor x = true := plainFor_of_name (by first | (simp [plainName, overriddenIn, x]; done) | decide +kernel)
theorem ef_0 (es : Int32) (ab : Int64) (cd : Int64) (e4 : Int32) (g : Int32) (m : MethodId) : entryFrame m #[(.int es), (.long ab), (.long cd), (.int e4), (.int g)] maxLocals = mkF m 0 #[.val (.int es), .val (.long ab), .second, .val (.long cd), .second, .val (.int e4), .val (.int g), .unset, .unset, .unset, .unset, .unset, .unset, .unset, .unset, .unset, .unset, .unset, .unset] [] := by first | (simp [entryFrame, mkF, argsToLocals, Value.category, maxLocals]; done) | rfl
abbrev R0 : Room := room_1
abbrev A0 (l : Launch) (Z : State) (n0 : Nat) (D : Own.Dyn) := Own.Rch l Z n0 R0 x code maxLocals ret D
set_option maxRecDepth 65536 in
set_option maxHeartbeats 40000000 in
theorem c0 (l : Launch) (Z : State) (a0 : Array Value) (hw : ∀ d ∈ tables_1, d.before a0 Z = true) (n0 : Nat) (h : Heap) (Zs : n0 ≤ h.size) (es : Int32) (ab : Int64) (cd : Int64) (e4 : Int32) (g : Int32) :
    Own.Con l Z n0 x code maxLocals ret R0 #[(.int es), (.long ab), (.long cd), (.int e4), (.int g)] h (fun v h' => v = some (.int 1)) := by
  refine Own.Con.enter pn_0 (ef_0 es ab cd e4 g) fun D r => ?_
  replace r : A0 l Z n0 D h 0 0 1 #[.val (.int es), .val (.long ab), .second, .val (.long cd), .second, .val (.int e4), .val (.int g), .unset, .unset, .unset, .unset, .unset, .unset, .unset, .unset, .unset, .unset, .unset, .unset] [(.int (5 : Int32))] := Own.iconst r at_0 rfl
  replace r : A0 l Z n0 D h 0 0 2 #[.val (.int es), .val (.long ab), .second, .val (.long cd), .second, .val (.int e4), .val (.int g), .unset, .unset, .unset, .unset, .unset, .unset, .unset, .unset, .unset, .unset, .unset, .unset] [(.int es), (.int (5 : Int32))] := Own.iloadN r at_1 rfl
  replace r : A0 l Z n0 D h 0 0 4 #[.val (.int es), .val (.long ab), .second, .val (.long cd), .second, .val (.int e4), .val (.int g), .unset, .unset, .unset, .unset, .unset, .unset, .unset, .unset, .unset, .unset, .unset, .unset] [(.int (2147483647 : Int32)), (.int es), (.int (5 : Int32))] := Own.ldcI r at_2 (hw _ (List.mem_of_getElem? (i := 0) rfl))
  replace r : A0 l Z n0 D h 0 0 5 #[.val (.int es), .val (.long ab), .second, .val (.long cd), .second, .val (.int e4), .val (.int g), .unset, .unset, .unset, .unset, .unset, .unset, .unset, .unset, .unset, .unset, .unset, .unset] [(.int (es &&& (2147483647 : Int32))), (.int (5 : Int32))] := Own.iand r at_4
  replace r : A0 l Z n0 D h 0 0 7 #[.val (.int es), .val (.long ab), .second, .val (.long cd), .second, .val (.int e4), .val (.int g), .unset, .unset, .unset, .unset, .unset, .unset, .unset, .unset, .unset, .unset, .unset, .unset] [(.int (60 : Int32)), (.int (es &&& (2147483647 : Int32))), (.int (5 : Int32))] := Own.bipush r at_5 rfl
  replace r : A0 l Z n0 D h 0 0 8 #[.val (.int es), .val (.long ab), .second, .val (.long cd), .second, .val (.int e4), .val (.int g), .unset, .unset, .unset, .unset, .unset, .unset, .unset, .unset, .unset, .unset, .unset, .unset] [(.int ((es &&& (2147483647 : Int32)) % (60 : Int32))), (.int (5 : Int32))] := Own.irem r at_7 (by decide)
  replace r : A0 l Z n0 D h 0 0 9 #[.val (.int es), .val (.long ab), .second, .val (.long cd), .second, .val (.int e4), .val (.int g), .unset, .unset, .unset, .unset, .unset, .unset, .unset, .unset, .unset, .unset, .unset, .unset] [(.int ((5 : Int32) + ((es &&& (2147483647 : Int32)) % (60 : Int32))))] := Own.iadd r at_8
  obtain ⟨v7_1, e_v7_1⟩ : ∃ z : Int32, z = ((5 : Int32) + ((es &&& (2147483647 : Int32)) % (60 : Int32))) := ⟨_, rfl⟩
  replace r : A0 l Z n0 D h 0 0 9 #[.val (.int es), .val (.long ab), .second, .val (.long cd), .second, .val (.int e4), .val (.int g), .unset, .unset, .unset, .unset, .unset, .unset, .unset, .unset, .unset, .unset, .unset, .unset] [(.int v7_1)] := by rw [e_v7_1]; exact r
  replace r : A0 l Z n0 D h 0 0 11 #[.val (.int es), .val (.long ab), .second, .val (.long cd), .second, .val (.int e4), .val (.int g), .val (.int v7_1), .unset, .unset, .unset, .unset, .unset, .unset, .unset, .unset, .unset, .unset, .unset] [] := Own.istore r at_9 rfl
  replace r : A0 l Z n0 D h 0 0 12 #[.val (.int es), .val (.long ab), .second, .val (.long cd), .second, .val (.int e4), .val (.int g), .val (.int v7_1), .unset, .unset, .unset, .unset, .unset, .unset, .unset, .unset, .unset, .unset, .unset] [(.long ab)] := Own.lloadN r at_11 rfl
  replace r : A0 l Z n0 D h 0 0 13 #[.val (.int es), .val (.long ab), .second, .val (.long cd), .second, .val (.int e4), .val (.int g), .val (.int v7_1), .unset, .unset, .unset, .unset, .unset, .unset, .unset, .unset, .unset, .unset, .unset] [(.int ab.toInt32)] := Own.l2i r at_12
  obtain ⟨v8_2, e_v8_2⟩ : ∃ z : Int32, z = ab.toInt32 := ⟨_, rfl⟩
  replace r : A0 l Z n0 D h 0 0 13 #[.val (.int es), .val (.long ab), .second, .val (.long cd), .second, .val (.int e4), .val (.int g), .val (.int v7_1), .unset, .unset, .unset, .unset, .unset, .unset, .unset, .unset, .unset, .unset, .unset] [(.int v8_2)] := by rw [e_v8_2]; exact r
  replace r : A0 l Z n0 D h 0 0 15 #[.val (.int es), .val (.long ab), .second, .val (.long cd), .second, .val (.int e4), .val (.int g), .val (.int v7_1), .val (.int v8_2), .unset, .unset, .unset, .unset, .unset, .unset, .unset, .unset, .unset, .unset] [] := Own.istore r at_13 rfl
  replace r : A0 l Z n0 D h 0 0 16 #[.val (.int es), .val (.long ab), .second, .val (.long cd), .second, .val (.int e4), .val (.int g), .val (.int v7_1), .val (.int v8_2), .unset, .unset, .unset, .unset, .unset, .unset, .unset, .unset, .unset, .unset] [(.long ab)] := Own.lloadN r at_15 rfl
  replace r : A0 l Z n0 D h 0 0 18 #[.val (.int es), .val (.long ab), .second, .val (.long cd), .second, .val (.int e4), .val (.int g), .val (.int v7_1), .val (.int v8_2), .unset, .unset, .unset, .unset, .unset, .unset, .unset, .unset, .unset, .unset] [(.int (32 : Int32)), (.long ab)] := Own.bipush r at_16 rfl
  replace r : A0 l Z n0 D h 0 0 19 #[.val (.int es), .val (.long ab), .second, .val (.long cd), .second, .val (.int e4), .val (.int g), .val (.int v7_1), .val (.int v8_2), .unset, .unset, .unset, .unset, .unset, .unset, .unset, .unset, .unset, .unset] [(.long (Own.lushrW ab (32 : Int32)))] := Own.lushr r at_18
  replace r : A0 l Z n0 D h 0 0 20 #[.val (.int es), .val (.long ab), .second, .val (.long cd), .second, .val (.int e4), .val (.int g), .val (.int v7_1), .val (.int v8_2), .unset, .unset, .unset, .unset, .unset, .unset, .unset, .unset, .unset, .unset] [(.int (Own.lushrW ab (32 : Int32)).toInt32)] := Own.l2i r at_19
  obtain ⟨v9_3, e_v9_3⟩ : ∃ z : Int32, z = (Own.lushrW ab (32 : Int32)).toInt32 := ⟨_, rfl⟩
  replace r : A0 l Z n0 D h 0 0 20 #[.val (.int es), .val (.long ab), .second, .val (.long cd), .second, .val (.int e4), .val (.int g), .val (.int v7_1), .val (.int v8_2), .unset, .unset, .unset, .unset, .unset, .unset, .unset, .unset, .unset, .unset] [(.int v9_3)] := by rw [e_v9_3]; exact r
  replace r : A0 l Z n0 D h 0 0 22 #[.val (.int es), .val (.long ab), .second, .val (.long cd), .second, .val (.int e4), .val (.int g), .val (.int v7_1), .val (.int v8_2), .val (.int v9_3), .unset, .unset, .unset, .unset, .unset, .unset, .unset, .unset, .unset] [] := Own.istore r at_20 rfl
  replace r : A0 l Z n0 D h 0 0 23 #[.val (.int es), .val (.long ab), .second, .val (.long cd), .second, .val (.int e4), .val (.int g), .val (.int v7_1), .val (.int v8_2), .val (.int v9_3), .unset, .unset, .unset, .unset, .unset, .unset, .unset, .unset, .unset] [(.long cd)] := Own.lloadN r at_22 rfl
  replace r : A0 l Z n0 D h 0 0 24 #[.val (.int es), .val (.long ab), .second, .val (.long cd), .second, .val (.int e4), .val (.int g), .val (.int v7_1), .val (.int v8_2), .val (.int v9_3), .unset, .unset, .unset, .unset, .unset, .unset, .unset, .unset, .unset] [(.int cd.toInt32)] := Own.l2i r at_23
  obtain ⟨v10_4, e_v10_4⟩ : ∃ z : Int32, z = cd.toInt32 := ⟨_, rfl⟩
  replace r : A0 l Z n0 D h 0 0 24 #[.val (.int es), .val (.long ab), .second, .val (.long cd), .second, .val (.int e4), .val (.int g), .val (.int v7_1), .val (.int v8_2), .val (.int v9_3), .unset, .unset, .unset, .unset, .unset, .unset, .unset, .unset, .unset] [(.int v10_4)] := by rw [e_v10_4]; exact r
  replace r : A0 l Z n0 D h 0 0 26 #[.val (.int es), .val (.long ab), .second, .val (.long cd), .second, .val (.int e4), .val (.int g), .val (.int v7_1), .val (.int v8_2), .val (.int v9_3), .val (.int v10_4), .unset, .unset, .unset, .unset, .unset, .unset, .unset, .unset] [] := Own.istore r at_24 rfl
  replace r : A0 l Z n0 D h 0 0 27 #[.val (.int es), .val (.long ab), .second, .val (.long cd), .second, .val (.int e4), .val (.int g), .val (.int v7_1), .val (.int v8_2), .val (.int v9_3), .val (.int v10_4), .unset, .unset, .unset, .unset, .unset, .unset, .unset, .unset] [(.long cd)] := Own.lloadN r at_26 rfl
  replace r : A0 l Z n0 D h 0 0 29 #[.val (.int es), .val (.long ab), .second, .val (.long cd), .second, .val (.int e4), .val (.int g), .val (.int v7_1), .val (.int v8_2), .val (.int v9_3), .val (.int v10_4), .unset, .unset, .unset, .unset, .unset, .unset, .unset, .unset] [(.int (32 : Int32)), (.long cd)] := Own.bipush r at_27 rfl
  replace r : A0 l Z n0 D h 0 0 30 #[.val (.int es), .val (.long ab), .second, .val (.long cd), .second, .val (.int e4), .val (.int g), .val (.int v7_1), .val (.int v8_2), .val (.int v9_3), .val (.int v10_4), .unset, .unset, .unset, .unset, .unset, .unset, .unset, .unset] [(.long (Own.lushrW cd (32 : Int32)))] := Own.lushr r at_29
  replace r : A0 l Z n0 D h 0 0 31 #[.val (.int es), .val (.long ab), .second, .val (.long cd), .second, .val (.int e4), .val (.int g), .val (.int v7_1), .val (.int v8_2), .val (.int v9_3), .val (.int v10_4), .unset, .unset, .unset, .unset, .unset, .unset, .unset, .unset] [(.int (Own.lushrW cd (32 : Int32)).toInt32)] := Own.l2i r at_30
  obtain ⟨v11_5, e_v11_5⟩ : ∃ z : Int32, z = (Own.lushrW cd (32 : Int32)).toInt32 := ⟨_, rfl⟩
  replace r : A0 l Z n0 D h 0 0 31 #[.val (.int es), .val (.long ab), .second, .val (.long cd), .second, .val (.int e4), .val (.int g), .val (.int v7_1), .val (.int v8_2), .val (.int v9_3), .val (.int v10_4), .unset, .unset, .unset, .unset, .unset, .unset, .unset, .unset] [(.int v11_5)] := by rw [e_v11_5]; exact r
  replace r : A0 l Z n0 D h 0 0 33 #[.val (.int es), .val (.long ab), .second, .val (.long cd), .second, .val (.int e4), .val (.int g), .val (.int v7_1), .val (.int v8_2), .val (.int v9_3), .val (.int v10_4), .val (.int v11_5), .unset, .unset, .unset, .unset, .unset, .unset, .unset] [] := Own.istore r at_31 rfl
  replace r : A0 l Z n0 D h 0 0 35 #[.val (.int es), .val (.long ab), .second, .val (.long cd), .second, .val (.int e4), .val (.int g), .val (.int v7_1), .val (.int v8_2), .val (.int v9_3), .val (.int v10_4), .val (.int v11_5), .unset, .unset, .unset, .unset, .unset, .unset, .unset] [(.int e4)] := Own.iload r at_33 rfl
  replace r : A0 l Z n0 D h 0 0 37 #[.val (.int es), .val (.long ab), .second, .val (.long cd), .second, .val (.int e4), .val (.int g), .val (.int v7_1), .val (.int v8_2), .val (.int v9_3), .val (.int v10_4), .val (.int v11_5), .val (.int e4), .unset, .unset, .unset, .unset, .unset, .unset] [] := Own.istore r at_35 rfl
  replace r : A0 l Z n0 D h 0 0 39 #[.val (.int es), .val (.long ab), .second, .val (.long cd), .second, .val (.int e4), .val (.int g), .val (.int v7_1), .val (.int v8_2), .val (.int v9_3), .val (.int v10_4), .val (.int v11_5), .val (.int e4), .unset, .unset, .unset, .unset, .unset, .unset] [(.int (64 : Int32))] := Own.bipush r at_37 rfl
  obtain ⟨h6, ⟨E6, V_b6⟩, r⟩ := Own.newArr r at_39 (hw _ (List.mem_of_getElem? (i := 1) rfl)) (by decide) (cap := 64) (by decide) (by decide) (by decide) (by decide)
  obtain ⟨b6, g6⟩ : ∃ z, z = h.size := ⟨_, rfl⟩
  rw [← g6] at V_b6 r
  have ge_b6 : n0 ≤ b6 := Nat.le_trans Zs (Nat.le_of_eq g6.symm)
  replace Zs := Nat.le_trans Zs E6.1
  replace r : A0 l Z n0 D h6 1 64 41 #[.val (.int es), .val (.long ab), .second, .val (.long cd), .second, .val (.int e4), .val (.int g), .val (.int v7_1), .val (.int v8_2), .val (.int v9_3), .val (.int v10_4), .val (.int v11_5), .val (.int e4), .unset, .unset, .unset, .unset, .unset, .unset] [(.ref b6)] := r
  replace V_b6 : Own.VA Z h6 b6 .int ((List.replicate 64 (0 : Int32)).map Value.int) := by rw [List.map_replicate]; exact V_b6
  replace r : A0 l Z n0 D h6 1 64 43 #[.val (.int es), .val (.long ab), .second, .val (.long cd), .second, .val (.int e4), .val (.int g), .val (.int v7_1), .val (.int v8_2), .val (.int v9_3), .val (.int v10_4), .val (.int v11_5), .val (.int e4), .val (.ref b6), .unset, .unset, .unset, .unset, .unset] [] := Own.astore r at_41 rfl rfl
  replace r : A0 l Z n0 D h6 1 64 45 #[.val (.int es), .val (.long ab), .second, .val (.long cd), .second, .val (.int e4), .val (.int g), .val (.int v7_1), .val (.int v8_2), .val (.int v9_3), .val (.int v10_4), .val (.int v11_5), .val (.int e4), .val (.ref b6), .unset, .unset, .unset, .unset, .unset] [(.ref b6)] := Own.aload r at_43 rfl rfl
  replace r : A0 l Z n0 D h6 1 64 47 #[.val (.int es), .val (.long ab), .second, .val (.long cd), .second, .val (.int e4), .val (.int g), .val (.int v7_1), .val (.int v8_2), .val (.int v9_3), .val (.int v10_4), .val (.int v11_5), .val (.int e4), .val (.ref b6), .unset, .unset, .unset, .unset, .unset] [(.int v7_1), (.ref b6)] := Own.iload r at_45 rfl
  replace r : A0 l Z n0 D h6 1 64 48 #[.val (.int es), .val (.long ab), .second, .val (.long cd), .second, .val (.int e4), .val (.int g), .val (.int v7_1), .val (.int v8_2), .val (.int v9_3), .val (.int v10_4), .val (.int v11_5), .val (.int e4), .val (.ref b6), .unset, .unset, .unset, .unset, .unset] [(.int (5 : Int32)), (.int v7_1), (.ref b6)] := Own.iconst r at_47 rfl
  replace r : A0 l Z n0 D h6 1 64 49 #[.val (.int es), .val (.long ab), .second, .val (.long cd), .second, .val (.int e4), .val (.int g), .val (.int v7_1), .val (.int v8_2), .val (.int v9_3), .val (.int v10_4), .val (.int v11_5), .val (.int e4), .val (.ref b6), .unset, .unset, .unset, .unset, .unset] [(.int (v7_1 - (5 : Int32))), (.ref b6)] := Own.isub r at_48
  replace r : A0 l Z n0 D h6 1 64 51 #[.val (.int es), .val (.long ab), .second, .val (.long cd), .second, .val (.int e4), .val (.int g), .val (.int v7_1), .val (.int v8_2), .val (.int v9_3), .val (.int v10_4), .val (.int v11_5), .val (.int e4), .val (.ref b6), .unset, .unset, .unset, .unset, .unset] [(.int v8_2), (.int (v7_1 - (5 : Int32))), (.ref b6)] := Own.iload r at_49 rfl
  obtain ⟨h8, ⟨W7, V_b6⟩, r⟩ := Own.iastore r at_51 V_b6 (own_st5 e_v7_1 (List.length_replicate (n := 64) (a := (0 : Int32)))).1 (own_st5 e_v7_1 (List.length_replicate (n := 64) (a := (0 : Int32)))).2 ge_b6
  replace r : A0 l Z n0 D h8 1 64 52 #[.val (.int es), .val (.long ab), .second, .val (.long cd), .second, .val (.int e4), .val (.int g), .val (.int v7_1), .val (.int v8_2), .val (.int v9_3), .val (.int v10_4), .val (.int v11_5), .val (.int e4), .val (.ref b6), .unset, .unset, .unset, .unset, .unset] [] := r
  replace Zs := Nat.le_trans Zs (Nat.le_of_eq W7.size.symm)
  replace V_b6 : Own.VA Z h8 b6 .int (((List.replicate 64 (0 : Int32)).set (v7_1 - (5 : Int32)).toNatClampNeg v8_2).map Value.int) := by rw [List.map_set]; exact V_b6
  obtain ⟨L9, e_L9⟩ : ∃ z, z = ((List.replicate 64 (0 : Int32)).set (v7_1 - (5 : Int32)).toNatClampNeg v8_2) := ⟨_, rfl⟩
  rw [← e_L9] at V_b6
  have len_L9 : L9.length = 64 := by rw [e_L9, List.length_set]; exact (List.length_replicate (n := 64) (a := (0 : Int32)))
  replace r : A0 l Z n0 D h8 1 64 54 #[.val (.int es), .val (.long ab), .second, .val (.long cd), .second, .val (.int e4), .val (.int g), .val (.int v7_1), .val (.int v8_2), .val (.int v9_3), .val (.int v10_4), .val (.int v11_5), .val (.int e4), .val (.ref b6), .unset, .unset, .unset, .unset, .unset] [(.ref b6)] := Own.aload r at_52 rfl rfl
  replace r : A0 l Z n0 D h8 1 64 56 #[.val (.int es), .val (.long ab), .second, .val (.long cd), .second, .val (.int e4), .val (.int g), .val (.int v7_1), .val (.int v8_2), .val (.int v9_3), .val (.int v10_4), .val (.int v11_5), .val (.int e4), .val (.ref b6), .unset, .unset, .unset, .unset, .unset] [(.int v7_1), (.ref b6)] := Own.iload r at_54 rfl
  replace r : A0 l Z n0 D h8 1 64 57 #[.val (.int es), .val (.long ab), .second, .val (.long cd), .second, .val (.int e4), .val (.int g), .val (.int v7_1), .val (.int v8_2), .val (.int v9_3), .val (.int v10_4), .val (.int v11_5), .val (.int e4), .val (.ref b6), .unset, .unset, .unset, .unset, .unset] [(.int (4 : Int32)), (.int v7_1), (.ref b6)] := Own.iconst r at_56 rfl
  replace r : A0 l Z n0 D h8 1 64 58 #[.val (.int es), .val (.long ab), .second, .val (.long cd), .second, .val (.int e4), .val (.int g), .val (.int v7_1), .val (.int v8_2), .val (.int v9_3), .val (.int v10_4), .val (.int v11_5), .val (.int e4), .val (.ref b6), .unset, .unset, .unset, .unset, .unset] [(.int (v7_1 - (4 : Int32))), (.ref b6)] := Own.isub r at_57
  replace r : A0 l Z n0 D h8 1 64 60 #[.val (.int es), .val (.long ab), .second, .val (.long cd), .second, .val (.int e4), .val (.int g), .val (.int v7_1), .val (.int v8_2), .val (.int v9_3), .val (.int v10_4), .val (.int v11_5), .val (.int e4), .val (.ref b6), .unset, .unset, .unset, .unset, .unset] [(.int v9_3), (.int (v7_1 - (4 : Int32))), (.ref b6)] := Own.iload r at_58 rfl
  obtain ⟨h11, ⟨W10, V_b6⟩, r⟩ := Own.iastore r at_60 V_b6 (own_st4 e_v7_1 len_L9).1 (own_st4 e_v7_1 len_L9).2 ge_b6
  replace r : A0 l Z n0 D h11 1 64 61 #[.val (.int es), .val (.long ab), .second, .val (.long cd), .second, .val (.int e4), .val (.int g), .val (.int v7_1), .val (.int v8_2), .val (.int v9_3), .val (.int v10_4), .val (.int v11_5), .val (.int e4), .val (.ref b6), .unset, .unset, .unset, .unset, .unset] [] := r
  replace Zs := Nat.le_trans Zs (Nat.le_of_eq W10.size.symm)
  replace V_b6 : Own.VA Z h11 b6 .int ((L9.set (v7_1 - (4 : Int32)).toNatClampNeg v9_3).map Value.int) := by rw [List.map_set]; exact V_b6
  obtain ⟨L12, e_L12⟩ : ∃ z, z = (L9.set (v7_1 - (4 : Int32)).toNatClampNeg v9_3) := ⟨_, rfl⟩
  rw [← e_L12] at V_b6
  have len_L12 : L12.length = 64 := by rw [e_L12, List.length_set]; exact len_L9
  replace r : A0 l Z n0 D h11 1 64 63 #[.val (.int es), .val (.long ab), .second, .val (.long cd), .second, .val (.int e4), .val (.int g), .val (.int v7_1), .val (.int v8_2), .val (.int v9_3), .val (.int v10_4), .val (.int v11_5), .val (.int e4), .val (.ref b6), .unset, .unset, .unset, .unset, .unset] [(.ref b6)] := Own.aload r at_61 rfl rfl
  replace r : A0 l Z n0 D h11 1 64 65 #[.val (.int es), .val (.long ab), .second, .val (.long cd), .second, .val (.int e4), .val (.int g), .val (.int v7_1), .val (.int v8_2), .val (.int v9_3), .val (.int v10_4), .val (.int v11_5), .val (.int e4), .val (.ref b6), .unset, .unset, .unset, .unset, .unset] [(.int v7_1), (.ref b6)] := Own.iload r at_63 rfl
  replace r : A0 l Z n0 D h11 1 64 66 #[.val (.int es), .val (.long ab), .second, .val (.long cd), .second, .val (.int e4), .val (.int g), .val (.int v7_1), .val (.int v8_2), .val (.int v9_3), .val (.int v10_4), .val (.int v11_5), .val (.int e4), .val (.ref b6), .unset, .unset, .unset, .unset, .unset] [(.int (3 : Int32)), (.int v7_1), (.ref b6)] := Own.iconst r at_65 rfl
  replace r : A0 l Z n0 D h11 1 64 67 #[.val (.int es), .val (.long ab), .second, .val (.long cd), .second, .val (.int e4), .val (.int g), .val (.int v7_1), .val (.int v8_2), .val (.int v9_3), .val (.int v10_4), .val (.int v11_5), .val (.int e4), .val (.ref b6), .unset, .unset, .unset, .unset, .unset] [(.int (v7_1 - (3 : Int32))), (.ref b6)] := Own.isub r at_66
  replace r : A0 l Z n0 D h11 1 64 69 #[.val (.int es), .val (.long ab), .second, .val (.long cd), .second, .val (.int e4), .val (.int g), .val (.int v7_1), .val (.int v8_2), .val (.int v9_3), .val (.int v10_4), .val (.int v11_5), .val (.int e4), .val (.ref b6), .unset, .unset, .unset, .unset, .unset] [(.int v10_4), (.int (v7_1 - (3 : Int32))), (.ref b6)] := Own.iload r at_67 rfl
  obtain ⟨h14, ⟨W13, V_b6⟩, r⟩ := Own.iastore r at_69 V_b6 (own_st3 e_v7_1 len_L12).1 (own_st3 e_v7_1 len_L12).2 ge_b6
  replace r : A0 l Z n0 D h14 1 64 70 #[.val (.int es), .val (.long ab), .second, .val (.long cd), .second, .val (.int e4), .val (.int g), .val (.int v7_1), .val (.int v8_2), .val (.int v9_3), .val (.int v10_4), .val (.int v11_5), .val (.int e4), .val (.ref b6), .unset, .unset, .unset, .unset, .unset] [] := r
  replace Zs := Nat.le_trans Zs (Nat.le_of_eq W13.size.symm)
  replace V_b6 : Own.VA Z h14 b6 .int ((L12.set (v7_1 - (3 : Int32)).toNatClampNeg v10_4).map Value.int) := by rw [List.map_set]; exact V_b6
  obtain ⟨L15, e_L15⟩ : ∃ z, z = (L12.set (v7_1 - (3 : Int32)).toNatClampNeg v10_4) := ⟨_, rfl⟩
  rw [← e_L15] at V_b6
  have len_L15 : L15.length = 64 := by rw [e_L15, List.length_set]; exact len_L12
  replace r : A0 l Z n0 D h14 1 64 72 #[.val (.int es), .val (.long ab), .second, .val (.long cd), .second, .val (.int e4), .val (.int g), .val (.int v7_1), .val (.int v8_2), .val (.int v9_3), .val (.int v10_4), .val (.int v11_5), .val (.int e4), .val (.ref b6), .unset, .unset, .unset, .unset, .unset] [(.ref b6)] := Own.aload r at_70 rfl rfl
  replace r : A0 l Z n0 D h14 1 64 74 #[.val (.int es), .val (.long ab), .second, .val (.long cd), .second, .val (.int e4), .val (.int g), .val (.int v7_1), .val (.int v8_2), .val (.int v9_3), .val (.int v10_4), .val (.int v11_5), .val (.int e4), .val (.ref b6), .unset, .unset, .unset, .unset, .unset] [(.int v7_1), (.ref b6)] := Own.iload r at_72 rfl
  replace r : A0 l Z n0 D h14 1 64 75 #[.val (.int es), .val (.long ab), .second, .val (.long cd), .second, .val (.int e4), .val (.int g), .val (.int v7_1), .val (.int v8_2), .val (.int v9_3), .val (.int v10_4), .val (.int v11_5), .val (.int e4), .val (.ref b6), .unset, .unset, .unset, .unset, .unset] [(.int (2 : Int32)), (.int v7_1), (.ref b6)] := Own.iconst r at_74 rfl
  replace r : A0 l Z n0 D h14 1 64 76 #[.val (.int es), .val (.long ab), .second, .val (.long cd), .second, .val (.int e4), .val (.int g), .val (.int v7_1), .val (.int v8_2), .val (.int v9_3), .val (.int v10_4), .val (.int v11_5), .val (.int e4), .val (.ref b6), .unset, .unset, .unset, .unset, .unset] [(.int (v7_1 - (2 : Int32))), (.ref b6)] := Own.isub r at_75
  replace r : A0 l Z n0 D h14 1 64 78 #[.val (.int es), .val (.long ab), .second, .val (.long cd), .second, .val (.int e4), .val (.int g), .val (.int v7_1), .val (.int v8_2), .val (.int v9_3), .val (.int v10_4), .val (.int v11_5), .val (.int e4), .val (.ref b6), .unset, .unset, .unset, .unset, .unset] [(.int v11_5), (.int (v7_1 - (2 : Int32))), (.ref b6)] := Own.iload r at_76 rfl
  obtain ⟨h17, ⟨W16, V_b6⟩, r⟩ := Own.iastore r at_78 V_b6 (own_st2 e_v7_1 len_L15).1 (own_st2 e_v7_1 len_L15).2 ge_b6
  replace r : A0 l Z n0 D h17 1 64 79 #[.val (.int es), .val (.long ab), .second, .val (.long cd), .second, .val (.int e4), .val (.int g), .val (.int v7_1), .val (.int v8_2), .val (.int v9_3), .val (.int v10_4), .val (.int v11_5), .val (.int e4), .val (.ref b6), .unset, .unset, .unset, .unset, .unset] [] := r
  replace Zs := Nat.le_trans Zs (Nat.le_of_eq W16.size.symm)
  replace V_b6 : Own.VA Z h17 b6 .int ((L15.set (v7_1 - (2 : Int32)).toNatClampNeg v11_5).map Value.int) := by rw [List.map_set]; exact V_b6
  obtain ⟨L18, e_L18⟩ : ∃ z, z = (L15.set (v7_1 - (2 : Int32)).toNatClampNeg v11_5) := ⟨_, rfl⟩
  rw [← e_L18] at V_b6
  have len_L18 : L18.length = 64 := by rw [e_L18, List.length_set]; exact len_L15
  replace r : A0 l Z n0 D h17 1 64 81 #[.val (.int es), .val (.long ab), .second, .val (.long cd), .second, .val (.int e4), .val (.int g), .val (.int v7_1), .val (.int v8_2), .val (.int v9_3), .val (.int v10_4), .val (.int v11_5), .val (.int e4), .val (.ref b6), .unset, .unset, .unset, .unset, .unset] [(.ref b6)] := Own.aload r at_79 rfl rfl
  replace r : A0 l Z n0 D h17 1 64 83 #[.val (.int es), .val (.long ab), .second, .val (.long cd), .second, .val (.int e4), .val (.int g), .val (.int v7_1), .val (.int v8_2), .val (.int v9_3), .val (.int v10_4), .val (.int v11_5), .val (.int e4), .val (.ref b6), .unset, .unset, .unset, .unset, .unset] [(.int v7_1), (.ref b6)] := Own.iload r at_81 rfl
  replace r : A0 l Z n0 D h17 1 64 84 #[.val (.int es), .val (.long ab), .second, .val (.long cd), .second, .val (.int e4), .val (.int g), .val (.int v7_1), .val (.int v8_2), .val (.int v9_3), .val (.int v10_4), .val (.int v11_5), .val (.int e4), .val (.ref b6), .unset, .unset, .unset, .unset, .unset] [(.int (1 : Int32)), (.int v7_1), (.ref b6)] := Own.iconst r at_83 rfl
  replace r : A0 l Z n0 D h17 1 64 85 #[.val (.int es), .val (.long ab), .second, .val (.long cd), .second, .val (.int e4), .val (.int g), .val (.int v7_1), .val (.int v8_2), .val (.int v9_3), .val (.int v10_4), .val (.int v11_5), .val (.int e4), .val (.ref b6), .unset, .unset, .unset, .unset, .unset] [(.int (v7_1 - (1 : Int32))), (.ref b6)] := Own.isub r at_84
  replace r : A0 l Z n0 D h17 1 64 87 #[.val (.int es), .val (.long ab), .second, .val (.long cd), .second, .val (.int e4), .val (.int g), .val (.int v7_1), .val (.int v8_2), .val (.int v9_3), .val (.int v10_4), .val (.int v11_5), .val (.int e4), .val (.ref b6), .unset, .unset, .unset, .unset, .unset] [(.int e4), (.int (v7_1 - (1 : Int32))), (.ref b6)] := Own.iload r at_85 rfl
  obtain ⟨h20, ⟨W19, V_b6⟩, r⟩ := Own.iastore r at_87 V_b6 (own_st1 e_v7_1 len_L18).1 (own_st1 e_v7_1 len_L18).2 ge_b6
  replace r : A0 l Z n0 D h20 1 64 88 #[.val (.int es), .val (.long ab), .second, .val (.long cd), .second, .val (.int e4), .val (.int g), .val (.int v7_1), .val (.int v8_2), .val (.int v9_3), .val (.int v10_4), .val (.int v11_5), .val (.int e4), .val (.ref b6), .unset, .unset, .unset, .unset, .unset] [] := r
  replace Zs := Nat.le_trans Zs (Nat.le_of_eq W19.size.symm)
  replace V_b6 : Own.VA Z h20 b6 .int ((L18.set (v7_1 - (1 : Int32)).toNatClampNeg e4).map Value.int) := by rw [List.map_set]; exact V_b6
  obtain ⟨L21, e_L21⟩ : ∃ z, z = (L18.set (v7_1 - (1 : Int32)).toNatClampNeg e4) := ⟨_, rfl⟩
  rw [← e_L21] at V_b6
  have len_L21 : L21.length = 64 := by rw [e_L21, List.length_set]; exact len_L18
  replace r : A0 l Z n0 D h20 1 64 90 #[.val (.int es), .val (.long ab), .second, .val (.long cd), .second, .val (.int e4), .val (.int g), .val (.int v7_1), .val (.int v8_2), .val (.int v9_3), .val (.int v10_4), .val (.int v11_5), .val (.int e4), .val (.ref b6), .unset, .unset, .unset, .unset, .unset] [(.int v8_2)] := Own.iload r at_88 rfl
  replace r : A0 l Z n0 D h20 1 64 92 #[.val (.int es), .val (.long ab), .second, .val (.long cd), .second, .val (.int e4), .val (.int g), .val (.int v7_1), .val (.int v8_2), .val (.int v9_3), .val (.int v10_4), .val (.int v11_5), .val (.int e4), .val (.ref b6), .unset, .unset, .unset, .unset, .unset] [(.int (16 : Int32)), (.int v8_2)] := Own.bipush r at_90 rfl
  replace r : A0 l Z n0 D h20 1 64 93 #[.val (.int es), .val (.long ab), .second, .val (.long cd), .second, .val (.int e4), .val (.int g), .val (.int v7_1), .val (.int v8_2), .val (.int v9_3), .val (.int v10_4), .val (.int v11_5), .val (.int e4), .val (.ref b6), .unset, .unset, .unset, .unset, .unset] [(.int (Own.ishlW v8_2 (16 : Int32)))] := Own.ishl r at_92
  replace r : A0 l Z n0 D h20 1 64 95 #[.val (.int es), .val (.long ab), .second, .val (.long cd), .second, .val (.int e4), .val (.int g), .val (.int v7_1), .val (.int v8_2), .val (.int v9_3), .val (.int v10_4), .val (.int v11_5), .val (.int e4), .val (.ref b6), .unset, .unset, .unset, .unset, .unset] [(.int v9_3), (.int (Own.ishlW v8_2 (16 : Int32)))] := Own.iload r at_93 rfl
  replace r : A0 l Z n0 D h20 1 64 97 #[.val (.int es), .val (.long ab), .second, .val (.long cd), .second, .val (.int e4), .val (.int g), .val (.int v7_1), .val (.int v8_2), .val (.int v9_3), .val (.int v10_4), .val (.int v11_5), .val (.int e4), .val (.ref b6), .unset, .unset, .unset, .unset, .unset] [(.int (12 : Int32)), (.int v9_3), (.int (Own.ishlW v8_2 (16 : Int32)))] := Own.bipush r at_95 rfl
  replace r : A0 l Z n0 D h20 1 64 98 #[.val (.int es), .val (.long ab), .second, .val (.long cd), .second, .val (.int e4), .val (.int g), .val (.int v7_1), .val (.int v8_2), .val (.int v9_3), .val (.int v10_4), .val (.int v11_5), .val (.int e4), .val (.ref b6), .unset, .unset, .unset, .unset, .unset] [(.int (Own.ishlW v9_3 (12 : Int32))), (.int (Own.ishlW v8_2 (16 : Int32)))] := Own.ishl r at_97
  replace r : A0 l Z n0 D h20 1 64 99 #[.val (.int es), .val (.long ab), .second, .val (.long cd), .second, .val (.int e4), .val (.int g), .val (.int v7_1), .val (.int v8_2), .val (.int v9_3), .val (.int v10_4), .val (.int v11_5), .val (.int e4), .val (.ref b6), .unset, .unset, .unset, .unset, .unset] [(.int ((Own.ishlW v8_2 (16 : Int32)) ^^^ (Own.ishlW v9_3 (12 : Int32))))] := Own.ixor r at_98
  replace r : A0 l Z n0 D h20 1 64 101 #[.val (.int es), .val (.long ab), .second, .val (.long cd), .second, .val (.int e4), .val (.int g), .val (.int v7_1), .val (.int v8_2), .val (.int v9_3), .val (.int v10_4), .val (.int v11_5), .val (.int e4), .val (.ref b6), .unset, .unset, .unset, .unset, .unset] [(.int v10_4), (.int ((Own.ishlW v8_2 (16 : Int32)) ^^^ (Own.ishlW v9_3 (12 : Int32))))] := Own.iload r at_99 rfl
  replace r : A0 l Z n0 D h20 1 64 103 #[.val (.int es), .val (.long ab), .second, .val (.long cd), .second, .val (.int e4), .val (.int g), .val (.int v7_1), .val (.int v8_2), .val (.int v9_3), .val (.int v10_4), .val (.int v11_5), .val (.int e4), .val (.ref b6), .unset, .unset, .unset, .unset, .unset] [(.int (8 : Int32)), (.int v10_4), (.int ((Own.ishlW v8_2 (16 : Int32)) ^^^ (Own.ishlW v9_3 (12 : Int32))))] := Own.bipush r at_101 rfl
  replace r : A0 l Z n0 D h20 1 64 104 #[.val (.int es), .val (.long ab), .second, .val (.long cd), .second, .val (.int e4), .val (.int g), .val (.int v7_1), .val (.int v8_2), .val (.int v9_3), .val (.int v10_4), .val (.int v11_5), .val (.int e4), .val (.ref b6), .unset, .unset, .unset, .unset, .unset] [(.int (Own.ishlW v10_4 (8 : Int32))), (.int ((Own.ishlW v8_2 (16 : Int32)) ^^^ (Own.ishlW v9_3 (12 : Int32))))] := Own.ishl r at_103
  replace r : A0 l Z n0 D h20 1 64 105 #[.val (.int es), .val (.long ab), .second, .val (.long cd), .second, .val (.int e4), .val (.int g), .val (.int v7_1), .val (.int v8_2), .val (.int v9_3), .val (.int v10_4), .val (.int v11_5), .val (.int e4), .val (.ref b6), .unset, .unset, .unset, .unset, .unset] [(.int (((Own.ishlW v8_2 (16 : Int32)) ^^^ (Own.ishlW v9_3 (12 : Int32))) ^^^ (Own.ishlW v10_4 (8 : Int32))))] := Own.ixor r at_104
  replace r : A0 l Z n0 D h20 1 64 107 #[.val (.int es), .val (.long ab), .second, .val (.long cd), .second, .val (.int e4), .val (.int g), .val (.int v7_1), .val (.int v8_2), .val (.int v9_3), .val (.int v10_4), .val (.int v11_5), .val (.int e4), .val (.ref b6), .unset, .unset, .unset, .unset, .unset] [(.int v11_5), (.int (((Own.ishlW v8_2 (16 : Int32)) ^^^ (Own.ishlW v9_3 (12 : Int32))) ^^^ (Own.ishlW v10_4 (8 : Int32))))] := Own.iload r at_105 rfl
  replace r : A0 l Z n0 D h20 1 64 108 #[.val (.int es), .val (.long ab), .second, .val (.long cd), .second, .val (.int e4), .val (.int g), .val (.int v7_1), .val (.int v8_2), .val (.int v9_3), .val (.int v10_4), .val (.int v11_5), .val (.int e4), .val (.ref b6), .unset, .unset, .unset, .unset, .unset] [(.int (4 : Int32)), (.int v11_5), (.int (((Own.ishlW v8_2 (16 : Int32)) ^^^ (Own.ishlW v9_3 (12 : Int32))) ^^^ (Own.ishlW v10_4 (8 : Int32))))] := Own.iconst r at_107 rfl
  replace r : A0 l Z n0 D h20 1 64 109 #[.val (.int es), .val (.long ab), .second, .val (.long cd), .second, .val (.int e4), .val (.int g), .val (.int v7_1), .val (.int v8_2), .val (.int v9_3), .val (.int v10_4), .val (.int v11_5), .val (.int e4), .val (.ref b6), .unset, .unset, .unset, .unset, .unset] [(.int (Own.ishlW v11_5 (4 : Int32))), (.int (((Own.ishlW v8_2 (16 : Int32)) ^^^ (Own.ishlW v9_3 (12 : Int32))) ^^^ (Own.ishlW v10_4 (8 : Int32))))] := Own.ishl r at_108
  replace r : A0 l Z n0 D h20 1 64 110 #[.val (.int es), .val (.long ab), .second, .val (.long cd), .second, .val (.int e4), .val (.int g), .val (.int v7_1), .val (.int v8_2), .val (.int v9_3), .val (.int v10_4), .val (.int v11_5), .val (.int e4), .val (.ref b6), .unset, .unset, .unset, .unset, .unset] [(.int ((((Own.ishlW v8_2 (16 : Int32)) ^^^ (Own.ishlW v9_3 (12 : Int32))) ^^^ (Own.ishlW v10_4 (8 : Int32))) ^^^ (Own.ishlW v11_5 (4 : Int32))))] := Own.ixor r at_109
  replace r : A0 l Z n0 D h20 1 64 112 #[.val (.int es), .val (.long ab), .second, .val (.long cd), .second, .val (.int e4), .val (.int g), .val (.int v7_1), .val (.int v8_2), .val (.int v9_3), .val (.int v10_4), .val (.int v11_5), .val (.int e4), .val (.ref b6), .unset, .unset, .unset, .unset, .unset] [(.int e4), (.int ((((Own.ishlW v8_2 (16 : Int32)) ^^^ (Own.ishlW v9_3 (12 : Int32))) ^^^ (Own.ishlW v10_4 (8 : Int32))) ^^^ (Own.ishlW v11_5 (4 : Int32))))] := Own.iload r at_110 rfl
  replace r : A0 l Z n0 D h20 1 64 113 #[.val (.int es), .val (.long ab), .second, .val (.long cd), .second, .val (.int e4), .val (.int g), .val (.int v7_1), .val (.int v8_2), .val (.int v9_3), .val (.int v10_4), .val (.int v11_5), .val (.int e4), .val (.ref b6), .unset, .unset, .unset, .unset, .unset] [(.int (((((Own.ishlW v8_2 (16 : Int32)) ^^^ (Own.ishlW v9_3 (12 : Int32))) ^^^ (Own.ishlW v10_4 (8 : Int32))) ^^^ (Own.ishlW v11_5 (4 : Int32))) ^^^ e4))] := Own.ixor r at_112
  obtain ⟨v14_22, e_v14_22⟩ : ∃ z : Int32, z = (((((Own.ishlW v8_2 (16 : Int32)) ^^^ (Own.ishlW v9_3 (12 : Int32))) ^^^ (Own.ishlW v10_4 (8 : Int32))) ^^^ (Own.ishlW v11_5 (4 : Int32))) ^^^ e4) := ⟨_, rfl⟩
  replace r : A0 l Z n0 D h20 1 64 113 #[.val (.int es), .val (.long ab), .second, .val (.long cd), .second, .val (.int e4), .val (.int g), .val (.int v7_1), .val (.int v8_2), .val (.int v9_3), .val (.int v10_4), .val (.int v11_5), .val (.int e4), .val (.ref b6), .unset, .unset, .unset, .unset, .unset] [(.int v14_22)] := by rw [e_v14_22]; exact r
  replace r : A0 l Z n0 D h20 1 64 115 #[.val (.int es), .val (.long ab), .second, .val (.long cd), .second, .val (.int e4), .val (.int g), .val (.int v7_1), .val (.int v8_2), .val (.int v9_3), .val (.int v10_4), .val (.int v11_5), .val (.int e4), .val (.ref b6), .val (.int v14_22), .unset, .unset, .unset, .unset] [] := Own.istore r at_113 rfl
  obtain ⟨h23, ⟨E23, X_b23, D23⟩, r⟩ := Own.newObj r at_115 (hw _ (List.mem_of_getElem? (i := 2) rfl)) (hw _ (List.mem_of_getElem? (i := 3) rfl)) (hw _ (List.mem_of_getElem? (i := 4) rfl)) (by decide) (by decide)
  obtain ⟨b23, g23⟩ : ∃ z, z = h20.size := ⟨_, rfl⟩
  rw [← g23] at X_b23 D23 r
  have ge_b23 : n0 ≤ b23 := Nat.le_trans Zs (Nat.le_of_eq g23.symm)
  have ne_b6_b23 : b6 ≠ b23 := Own.ne_lt V_b6.lt g23
  replace V_b6 := V_b6.ext E23
  replace Zs := Nat.le_trans Zs E23.1
  replace r : A0 l Z n0 D h23 2 68 118 #[.val (.int es), .val (.long ab), .second, .val (.long cd), .second, .val (.int e4), .val (.int g), .val (.int v7_1), .val (.int v8_2), .val (.int v9_3), .val (.int v10_4), .val (.int v11_5), .val (.int e4), .val (.ref b6), .val (.int v14_22), .unset, .unset, .unset, .unset] [(.ref b23)] := r
  have F_full_b23 : Fld Z h23 b23 "needlework/Skip" "full" "I" (.int (0 : Int32)) := D23 (Or.inr (hw _ (List.mem_of_getElem? (i := 12) rfl))) (ty := .int) (by decide)
  have F_grain_b23 : Fld Z h23 b23 "needlework/Skip" "grain" "I" (.int (0 : Int32)) := D23 (Or.inr (hw _ (List.mem_of_getElem? (i := 14) rfl))) (ty := .int) (by decide)
  have F_bits_b23 : Fld Z h23 b23 "needlework/Skip" "bits" "I" (.int (0 : Int32)) := D23 (Or.inr (hw _ (List.mem_of_getElem? (i := 25) rfl))) (ty := .int) (by decide)
  have F_table_b23 : Fld Z h23 b23 "needlework/Skip" "table" "[B" .null := D23 (Or.inr (hw _ (List.mem_of_getElem? (i := 28) rfl))) (ty := (.array .byte)) (by decide)
  replace r : A0 l Z n0 D h23 2 68 119 #[.val (.int es), .val (.long ab), .second, .val (.long cd), .second, .val (.int e4), .val (.int g), .val (.int v7_1), .val (.int v8_2), .val (.int v9_3), .val (.int v10_4), .val (.int v11_5), .val (.int e4), .val (.ref b6), .val (.int v14_22), .unset, .unset, .unset, .unset] [(.ref b23), (.ref b23)] := Own.dup r at_118 rfl
  replace r : A0 l Z n0 D h23 2 68 121 #[.val (.int es), .val (.long ab), .second, .val (.long cd), .second, .val (.int e4), .val (.int g), .val (.int v7_1), .val (.int v8_2), .val (.int v9_3), .val (.int v10_4), .val (.int v11_5), .val (.int e4), .val (.ref b6), .val (.int v14_22), .unset, .unset, .unset, .unset] [(.ref b6), (.ref b23), (.ref b23)] := Own.aload r at_119 rfl rfl
  obtain ⟨rv24, h25, hQ26, r⟩ := Own.callI [(.ref b6)] r at_121 (c1 l Z a0 hw n0 h23 Zs b23 b6 _ _ _ _ L21 F_full_b23 F_grain_b23 F_bits_b23 F_table_b23 X_b23 ge_b23 V_b6 ne_b6_b23 len_L21) (hw _ (List.mem_of_getElem? (i := 5) rfl)) (hw _ (List.mem_of_getElem? (i := 6) rfl)) (hw _ (List.mem_of_getElem? (i := 4) rfl)) (hw _ (List.mem_of_getElem? (i := 7) rfl)) rfl (lenOf pd_0_0 rfl) rfl rfl (W := 1) (Nat.le_of_eq rfl) rfl (by decide) (by decide) (by decide) (by decide) (by decide)
  obtain ⟨rfl, K27, X_b23, F_full_b23, F_grain_b23, F_bits_b23, tb28, F_table_b23, ge_tb28, V_tb28⟩ := hQ26
  replace V_b6 := V_b6.keep K27 (by simp [ne_b6_b23])
  replace Zs := Nat.le_trans Zs K27.1
  replace r : A0 l Z n0 D h25 3 1092 124 #[.val (.int es), .val (.long ab), .second, .val (.long cd), .second, .val (.int e4), .val (.int g), .val (.int v7_1), .val (.int v8_2), .val (.int v9_3), .val (.int v10_4), .val (.int v11_5), .val (.int e4), .val (.ref b6), .val (.int v14_22), .unset, .unset, .unset, .unset] [(.ref b23)] := r
  replace r : A0 l Z n0 D h25 3 1092 126 #[.val (.int es), .val (.long ab), .second, .val (.long cd), .second, .val (.int e4), .val (.int g), .val (.int v7_1), .val (.int v8_2), .val (.int v9_3), .val (.int v10_4), .val (.int v11_5), .val (.int e4), .val (.ref b6), .val (.int v14_22), .val (.ref b23), .unset, .unset, .unset] [] := Own.astore r at_124 rfl rfl
  replace r : A0 l Z n0 D h25 3 1092 128 #[.val (.int es), .val (.long ab), .second, .val (.long cd), .second, .val (.int e4), .val (.int g), .val (.int v7_1), .val (.int v8_2), .val (.int v9_3), .val (.int v10_4), .val (.int v11_5), .val (.int e4), .val (.ref b6), .val (.int v14_22), .val (.ref b23), .unset, .unset, .unset] [(.ref b23)] := Own.aload r at_126 rfl rfl
  replace r : A0 l Z n0 D h25 3 1092 130 #[.val (.int es), .val (.long ab), .second, .val (.long cd), .second, .val (.int e4), .val (.int g), .val (.int v7_1), .val (.int v8_2), .val (.int v9_3), .val (.int v10_4), .val (.int v11_5), .val (.int e4), .val (.ref b6), .val (.int v14_22), .val (.ref b23), .unset, .unset, .unset] [(.int v14_22), (.ref b23)] := Own.iload r at_128 rfl
  obtain ⟨rv29, h30, hQ31, r⟩ := Own.callV [(.int v14_22)] r at_130 (c8 l Z a0 hw n0 h25 Zs b23 v14_22 tb28 (own_T L21 64) F_table_b23 V_tb28 X_b23 F_bits_b23 F_full_b23 F_grain_b23 (own_tlen _ _)) X_b23 (hw _ (List.mem_of_getElem? (i := 41) rfl)) (hw _ (List.mem_of_getElem? (i := 42) rfl)) (Own.nfS (hw _ (List.mem_of_getElem? (i := 44) rfl))) (hw _ (List.mem_of_getElem? (i := 44) rfl)) (hw _ (List.mem_of_getElem? (i := 43) rfl)) (hw _ (List.mem_of_getElem? (i := 4) rfl)) (hw _ (List.mem_of_getElem? (i := 45) rfl)) (lenOf pd_0_1 rfl) rfl rfl (W := 0) (Nat.le_of_eq rfl) rfl (by decide) (by decide) (by decide) (by decide) (by decide)
  obtain ⟨rfl, y32, rfl, e_y32⟩ := hQ31
  replace r : A0 l Z n0 D h25 3 1092 133 #[.val (.int es), .val (.long ab), .second, .val (.long cd), .second, .val (.int e4), .val (.int g), .val (.int v7_1), .val (.int v8_2), .val (.int v9_3), .val (.int v10_4), .val (.int v11_5), .val (.int e4), .val (.ref b6), .val (.int v14_22), .val (.ref b23), .unset, .unset, .unset] [(.int y32)] := r
  obtain ⟨m33, e_m33, r⟩ : ∃ (m33 : Int32), m33 = (if y32 = (0 : Int32) then (1 : Int32) else (0 : Int32)) ∧ A0 l Z n0 D h25 3 1092 141 #[.val (.int es), .val (.long ab), .second, .val (.long cd), .second, .val (.int e4), .val (.int g), .val (.int v7_1), .val (.int v8_2), .val (.int v9_3), .val (.int v10_4), .val (.int v11_5), .val (.int e4), .val (.ref b6), .val (.int v14_22), .val (.ref b23), .unset, .unset, .unset] [(.int m33)] := by
    by_cases br34 : y32 = (0 : Int32)
    · skip
      replace r : A0 l Z n0 D h25 3 1092 136 #[.val (.int es), .val (.long ab), .second, .val (.long cd), .second, .val (.int e4), .val (.int g), .val (.int v7_1), .val (.int v8_2), .val (.int v9_3), .val (.int v10_4), .val (.int v11_5), .val (.int e4), .val (.ref b6), .val (.int v14_22), .val (.ref b23), .unset, .unset, .unset] [] := Own.ifNo r at_133 ((if0 _ _).trans (teq br34).2)
      replace r : A0 l Z n0 D h25 3 1092 137 #[.val (.int es), .val (.long ab), .second, .val (.long cd), .second, .val (.int e4), .val (.int g), .val (.int v7_1), .val (.int v8_2), .val (.int v9_3), .val (.int v10_4), .val (.int v11_5), .val (.int e4), .val (.ref b6), .val (.int v14_22), .val (.ref b23), .unset, .unset, .unset] [(.int (1 : Int32))] := Own.iconst r at_136 rfl
      replace r : A0 l Z n0 D h25 3 1092 141 #[.val (.int es), .val (.long ab), .second, .val (.long cd), .second, .val (.int e4), .val (.int g), .val (.int v7_1), .val (.int v8_2), .val (.int v9_3), .val (.int v10_4), .val (.int v11_5), .val (.int e4), .val (.ref b6), .val (.int v14_22), .val (.ref b23), .unset, .unset, .unset] [(.int (1 : Int32))] := Own.goto r at_137 (by decide) (by decide)
      exact ⟨_, by rw [if_pos br34], r⟩
    · skip
      replace r : A0 l Z n0 D h25 3 1092 140 #[.val (.int es), .val (.long ab), .second, .val (.long cd), .second, .val (.int e4), .val (.int g), .val (.int v7_1), .val (.int v8_2), .val (.int v9_3), .val (.int v10_4), .val (.int v11_5), .val (.int e4), .val (.ref b6), .val (.int v14_22), .val (.ref b23), .unset, .unset, .unset] [] := Own.ifYes r at_133 ((if0 _ _).trans (feq br34).2) (by decide) (by decide)
      replace r : A0 l Z n0 D h25 3 1092 141 #[.val (.int es), .val (.long ab), .second, .val (.long cd), .second, .val (.int e4), .val (.int g), .val (.int v7_1), .val (.int v8_2), .val (.int v9_3), .val (.int v10_4), .val (.int v11_5), .val (.int e4), .val (.ref b6), .val (.int v14_22), .val (.ref b23), .unset, .unset, .unset] [(.int (0 : Int32))] := Own.iconst r at_140 rfl
      exact ⟨_, by rw [if_neg br34], r⟩
  replace r : A0 l Z n0 D h25 3 1092 143 #[.val (.int es), .val (.long ab), .second, .val (.long cd), .second, .val (.int e4), .val (.int g), .val (.int v7_1), .val (.int v8_2), .val (.int v9_3), .val (.int v10_4), .val (.int v11_5), .val (.int e4), .val (.ref b6), .val (.int v14_22), .val (.ref b23), .val (.int m33), .unset, .unset] [] := Own.istore r at_141 rfl
  replace r : A0 l Z n0 D h25 3 1092 145 #[.val (.int es), .val (.long ab), .second, .val (.long cd), .second, .val (.int e4), .val (.int g), .val (.int v7_1), .val (.int v8_2), .val (.int v9_3), .val (.int v10_4), .val (.int v11_5), .val (.int e4), .val (.ref b6), .val (.int v14_22), .val (.ref b23), .val (.int m33), .unset, .unset] [(.ref b23)] := Own.aload r at_143 rfl rfl
  replace r : A0 l Z n0 D h25 3 1092 146 #[.val (.int es), .val (.long ab), .second, .val (.long cd), .second, .val (.int e4), .val (.int g), .val (.int v7_1), .val (.int v8_2), .val (.int v9_3), .val (.int v10_4), .val (.int v11_5), .val (.int e4), .val (.ref b6), .val (.int v14_22), .val (.ref b23), .val (.int m33), .unset, .unset] [(.int (0 : Int32)), (.ref b23)] := Own.iconst r at_145 rfl
  obtain ⟨rv35, h36, hQ37, r⟩ := Own.callV [(.int (0 : Int32))] r at_146 (c8 l Z a0 hw n0 h25 Zs b23 (0 : Int32) tb28 (own_T L21 64) F_table_b23 V_tb28 X_b23 F_bits_b23 F_full_b23 F_grain_b23 (own_tlen _ _)) X_b23 (hw _ (List.mem_of_getElem? (i := 41) rfl)) (hw _ (List.mem_of_getElem? (i := 42) rfl)) (Own.nfS (hw _ (List.mem_of_getElem? (i := 44) rfl))) (hw _ (List.mem_of_getElem? (i := 44) rfl)) (hw _ (List.mem_of_getElem? (i := 43) rfl)) (hw _ (List.mem_of_getElem? (i := 4) rfl)) (hw _ (List.mem_of_getElem? (i := 45) rfl)) (lenOf pd_0_1 rfl) rfl rfl (W := 0) (Nat.le_of_eq rfl) rfl (by decide) (by decide) (by decide) (by decide) (by decide)
  obtain ⟨rfl, y38, rfl, e_y38⟩ := hQ37
  replace r : A0 l Z n0 D h25 3 1092 149 #[.val (.int es), .val (.long ab), .second, .val (.long cd), .second, .val (.int e4), .val (.int g), .val (.int v7_1), .val (.int v8_2), .val (.int v9_3), .val (.int v10_4), .val (.int v11_5), .val (.int e4), .val (.ref b6), .val (.int v14_22), .val (.ref b23), .val (.int m33), .unset, .unset] [(.int y38)] := r
  obtain ⟨m39, e_m39, r⟩ : ∃ (m39 : Int32), m39 = (if y38 = (0 : Int32) then (1 : Int32) else (0 : Int32)) ∧ A0 l Z n0 D h25 3 1092 157 #[.val (.int es), .val (.long ab), .second, .val (.long cd), .second, .val (.int e4), .val (.int g), .val (.int v7_1), .val (.int v8_2), .val (.int v9_3), .val (.int v10_4), .val (.int v11_5), .val (.int e4), .val (.ref b6), .val (.int v14_22), .val (.ref b23), .val (.int m33), .unset, .unset] [(.int m39)] := by
    by_cases br40 : y38 = (0 : Int32)
    · skip
      replace r : A0 l Z n0 D h25 3 1092 152 #[.val (.int es), .val (.long ab), .second, .val (.long cd), .second, .val (.int e4), .val (.int g), .val (.int v7_1), .val (.int v8_2), .val (.int v9_3), .val (.int v10_4), .val (.int v11_5), .val (.int e4), .val (.ref b6), .val (.int v14_22), .val (.ref b23), .val (.int m33), .unset, .unset] [] := Own.ifNo r at_149 ((if0 _ _).trans (teq br40).2)
      replace r : A0 l Z n0 D h25 3 1092 153 #[.val (.int es), .val (.long ab), .second, .val (.long cd), .second, .val (.int e4), .val (.int g), .val (.int v7_1), .val (.int v8_2), .val (.int v9_3), .val (.int v10_4), .val (.int v11_5), .val (.int e4), .val (.ref b6), .val (.int v14_22), .val (.ref b23), .val (.int m33), .unset, .unset] [(.int (1 : Int32))] := Own.iconst r at_152 rfl
      replace r : A0 l Z n0 D h25 3 1092 157 #[.val (.int es), .val (.long ab), .second, .val (.long cd), .second, .val (.int e4), .val (.int g), .val (.int v7_1), .val (.int v8_2), .val (.int v9_3), .val (.int v10_4), .val (.int v11_5), .val (.int e4), .val (.ref b6), .val (.int v14_22), .val (.ref b23), .val (.int m33), .unset, .unset] [(.int (1 : Int32))] := Own.goto r at_153 (by decide) (by decide)
      exact ⟨_, by rw [if_pos br40], r⟩
    · skip
      replace r : A0 l Z n0 D h25 3 1092 156 #[.val (.int es), .val (.long ab), .second, .val (.long cd), .second, .val (.int e4), .val (.int g), .val (.int v7_1), .val (.int v8_2), .val (.int v9_3), .val (.int v10_4), .val (.int v11_5), .val (.int e4), .val (.ref b6), .val (.int v14_22), .val (.ref b23), .val (.int m33), .unset, .unset] [] := Own.ifYes r at_149 ((if0 _ _).trans (feq br40).2) (by decide) (by decide)
      replace r : A0 l Z n0 D h25 3 1092 157 #[.val (.int es), .val (.long ab), .second, .val (.long cd), .second, .val (.int e4), .val (.int g), .val (.int v7_1), .val (.int v8_2), .val (.int v9_3), .val (.int v10_4), .val (.int v11_5), .val (.int e4), .val (.ref b6), .val (.int v14_22), .val (.ref b23), .val (.int m33), .unset, .unset] [(.int (0 : Int32))] := Own.iconst r at_156 rfl
      exact ⟨_, by rw [if_neg br40], r⟩
  replace r : A0 l Z n0 D h25 3 1092 159 #[.val (.int es), .val (.long ab), .second, .val (.long cd), .second, .val (.int e4), .val (.int g), .val (.int v7_1), .val (.int v8_2), .val (.int v9_3), .val (.int v10_4), .val (.int v11_5), .val (.int e4), .val (.ref b6), .val (.int v14_22), .val (.ref b23), .val (.int m33), .val (.int m39), .unset] [] := Own.istore r at_157 rfl
  replace r : A0 l Z n0 D h25 3 1092 161 #[.val (.int es), .val (.long ab), .second, .val (.long cd), .second, .val (.int e4), .val (.int g), .val (.int v7_1), .val (.int v8_2), .val (.int v9_3), .val (.int v10_4), .val (.int v11_5), .val (.int e4), .val (.ref b6), .val (.int v14_22), .val (.ref b23), .val (.int m33), .val (.int m39), .unset] [(.ref b23)] := Own.aload r at_159 rfl rfl
  replace r : A0 l Z n0 D h25 3 1092 163 #[.val (.int es), .val (.long ab), .second, .val (.long cd), .second, .val (.int e4), .val (.int g), .val (.int v7_1), .val (.int v8_2), .val (.int v9_3), .val (.int v10_4), .val (.int v11_5), .val (.int e4), .val (.ref b6), .val (.int v14_22), .val (.ref b23), .val (.int m33), .val (.int m39), .unset] [(.int g), (.ref b23)] := Own.iload r at_161 rfl
  obtain ⟨rv41, h42, hQ43, r⟩ := Own.callV [(.int g)] r at_163 (c8 l Z a0 hw n0 h25 Zs b23 g tb28 (own_T L21 64) F_table_b23 V_tb28 X_b23 F_bits_b23 F_full_b23 F_grain_b23 (own_tlen _ _)) X_b23 (hw _ (List.mem_of_getElem? (i := 41) rfl)) (hw _ (List.mem_of_getElem? (i := 42) rfl)) (Own.nfS (hw _ (List.mem_of_getElem? (i := 44) rfl))) (hw _ (List.mem_of_getElem? (i := 44) rfl)) (hw _ (List.mem_of_getElem? (i := 43) rfl)) (hw _ (List.mem_of_getElem? (i := 4) rfl)) (hw _ (List.mem_of_getElem? (i := 45) rfl)) (lenOf pd_0_1 rfl) rfl rfl (W := 0) (Nat.le_of_eq rfl) rfl (by decide) (by decide) (by decide) (by decide) (by decide)
  obtain ⟨rfl, y44, rfl, e_y44⟩ := hQ43
  replace r : A0 l Z n0 D h25 3 1092 166 #[.val (.int es), .val (.long ab), .second, .val (.long cd), .second, .val (.int e4), .val (.int g), .val (.int v7_1), .val (.int v8_2), .val (.int v9_3), .val (.int v10_4), .val (.int v11_5), .val (.int e4), .val (.ref b6), .val (.int v14_22), .val (.ref b23), .val (.int m33), .val (.int m39), .unset] [(.int y44)] := r
  replace r : A0 l Z n0 D h25 3 1092 168 #[.val (.int es), .val (.long ab), .second, .val (.long cd), .second, .val (.int e4), .val (.int g), .val (.int v7_1), .val (.int v8_2), .val (.int v9_3), .val (.int v10_4), .val (.int v11_5), .val (.int e4), .val (.ref b6), .val (.int v14_22), .val (.ref b23), .val (.int m33), .val (.int m39), .unset] [(.ref b23), (.int y44)] := Own.aload r at_166 rfl rfl
  replace r : A0 l Z n0 D h25 3 1092 170 #[.val (.int es), .val (.long ab), .second, .val (.long cd), .second, .val (.int e4), .val (.int g), .val (.int v7_1), .val (.int v8_2), .val (.int v9_3), .val (.int v10_4), .val (.int v11_5), .val (.int e4), .val (.ref b6), .val (.int v14_22), .val (.ref b23), .val (.int m33), .val (.int m39), .unset] [(.int g), (.ref b23), (.int y44)] := Own.iload r at_168 rfl
  obtain ⟨rv45, h46, hQ47, r⟩ := Own.callV [(.int g)] r at_170 (c9 l Z a0 hw n0 h25 Zs b23 g tb28 (own_T L21 64) F_table_b23 V_tb28 X_b23 F_bits_b23 F_full_b23 F_grain_b23 (own_tlen _ _)) X_b23 (hw _ (List.mem_of_getElem? (i := 46) rfl)) (hw _ (List.mem_of_getElem? (i := 47) rfl)) (Own.nfS (hw _ (List.mem_of_getElem? (i := 49) rfl))) (hw _ (List.mem_of_getElem? (i := 49) rfl)) (hw _ (List.mem_of_getElem? (i := 48) rfl)) (hw _ (List.mem_of_getElem? (i := 4) rfl)) (hw _ (List.mem_of_getElem? (i := 50) rfl)) (lenOf pd_0_2 rfl) rfl rfl (W := 1) (Nat.le_of_eq rfl) rfl (by decide) (by decide) (by decide) (by decide) (by decide)
  obtain ⟨rfl, y48, rfl, e_y48⟩ := hQ47
  replace r : A0 l Z n0 D h25 3 1092 173 #[.val (.int es), .val (.long ab), .second, .val (.long cd), .second, .val (.int e4), .val (.int g), .val (.int v7_1), .val (.int v8_2), .val (.int v9_3), .val (.int v10_4), .val (.int v11_5), .val (.int e4), .val (.ref b6), .val (.int v14_22), .val (.ref b23), .val (.int m33), .val (.int m39), .unset] [(.int y48), (.int y44)] := r
  replace r : A0 l Z n0 D h25 3 1092 175 #[.val (.int es), .val (.long ab), .second, .val (.long cd), .second, .val (.int e4), .val (.int g), .val (.int v7_1), .val (.int v8_2), .val (.int v9_3), .val (.int v10_4), .val (.int v11_5), .val (.int e4), .val (.ref b6), .val (.int v14_22), .val (.ref b23), .val (.int m33), .val (.int m39), .unset] [(.ref b23), (.int y48), (.int y44)] := Own.aload r at_173 rfl rfl
  obtain ⟨rv49, h50, hQ51, r⟩ := Own.callV [] r at_175 (c11 l Z a0 hw n0 h25 Zs b23 (60 : Int32) F_full_b23) X_b23 (hw _ (List.mem_of_getElem? (i := 55) rfl)) (hw _ (List.mem_of_getElem? (i := 56) rfl)) (Own.nfS (hw _ (List.mem_of_getElem? (i := 58) rfl))) (hw _ (List.mem_of_getElem? (i := 58) rfl)) (hw _ (List.mem_of_getElem? (i := 57) rfl)) (hw _ (List.mem_of_getElem? (i := 4) rfl)) (hw _ (List.mem_of_getElem? (i := 59) rfl)) (lenOf pd_0_3 rfl) rfl rfl (W := 2) (Nat.le_of_eq rfl) rfl (by decide) (by decide) (by decide) (by decide) (by decide)
  obtain ⟨rfl, y52, rfl, e_y52⟩ := hQ51
  replace e_y52 : y52 = (60 : Int32) := e_y52
  subst e_y52
  replace r : A0 l Z n0 D h25 3 1092 178 #[.val (.int es), .val (.long ab), .second, .val (.long cd), .second, .val (.int e4), .val (.int g), .val (.int v7_1), .val (.int v8_2), .val (.int v9_3), .val (.int v10_4), .val (.int v11_5), .val (.int e4), .val (.ref b6), .val (.int v14_22), .val (.ref b23), .val (.int m33), .val (.int m39), .unset] [(.int (60 : Int32)), (.int y48), (.int y44)] := r
  obtain ⟨m53, e_m53, r⟩ : ∃ (m53 : Int32), m53 = (if y48 = (60 : Int32) then (1 : Int32) else (0 : Int32)) ∧ A0 l Z n0 D h25 3 1092 186 #[.val (.int es), .val (.long ab), .second, .val (.long cd), .second, .val (.int e4), .val (.int g), .val (.int v7_1), .val (.int v8_2), .val (.int v9_3), .val (.int v10_4), .val (.int v11_5), .val (.int e4), .val (.ref b6), .val (.int v14_22), .val (.ref b23), .val (.int m33), .val (.int m39), .unset] [(.int m53), (.int y44)] := by
    by_cases br54 : y48 = (60 : Int32)
    · skip
      replace r : A0 l Z n0 D h25 3 1092 181 #[.val (.int es), .val (.long ab), .second, .val (.long cd), .second, .val (.int e4), .val (.int g), .val (.int v7_1), .val (.int v8_2), .val (.int v9_3), .val (.int v10_4), .val (.int v11_5), .val (.int e4), .val (.ref b6), .val (.int v14_22), .val (.ref b23), .val (.int m33), .val (.int m39), .unset] [(.int y44)] := Own.icmpNo r at_178 (teq br54).2
      replace r : A0 l Z n0 D h25 3 1092 182 #[.val (.int es), .val (.long ab), .second, .val (.long cd), .second, .val (.int e4), .val (.int g), .val (.int v7_1), .val (.int v8_2), .val (.int v9_3), .val (.int v10_4), .val (.int v11_5), .val (.int e4), .val (.ref b6), .val (.int v14_22), .val (.ref b23), .val (.int m33), .val (.int m39), .unset] [(.int (1 : Int32)), (.int y44)] := Own.iconst r at_181 rfl
      replace r : A0 l Z n0 D h25 3 1092 186 #[.val (.int es), .val (.long ab), .second, .val (.long cd), .second, .val (.int e4), .val (.int g), .val (.int v7_1), .val (.int v8_2), .val (.int v9_3), .val (.int v10_4), .val (.int v11_5), .val (.int e4), .val (.ref b6), .val (.int v14_22), .val (.ref b23), .val (.int m33), .val (.int m39), .unset] [(.int (1 : Int32)), (.int y44)] := Own.goto r at_182 (by decide) (by decide)
      exact ⟨_, by rw [if_pos br54], r⟩
    · skip
      replace r : A0 l Z n0 D h25 3 1092 185 #[.val (.int es), .val (.long ab), .second, .val (.long cd), .second, .val (.int e4), .val (.int g), .val (.int v7_1), .val (.int v8_2), .val (.int v9_3), .val (.int v10_4), .val (.int v11_5), .val (.int e4), .val (.ref b6), .val (.int v14_22), .val (.ref b23), .val (.int m33), .val (.int m39), .unset] [(.int y44)] := Own.icmpYes r at_178 (feq br54).2 (by decide) (by decide)
      replace r : A0 l Z n0 D h25 3 1092 186 #[.val (.int es), .val (.long ab), .second, .val (.long cd), .second, .val (.int e4), .val (.int g), .val (.int v7_1), .val (.int v8_2), .val (.int v9_3), .val (.int v10_4), .val (.int v11_5), .val (.int e4), .val (.ref b6), .val (.int v14_22), .val (.ref b23), .val (.int m33), .val (.int m39), .unset] [(.int (0 : Int32)), (.int y44)] := Own.iconst r at_185 rfl
      exact ⟨_, by rw [if_neg br54], r⟩
  obtain ⟨m55, e_m55, r⟩ : ∃ (m55 : Int32), m55 = (if y44 = m53 then (1 : Int32) else (0 : Int32)) ∧ A0 l Z n0 D h25 3 1092 194 #[.val (.int es), .val (.long ab), .second, .val (.long cd), .second, .val (.int e4), .val (.int g), .val (.int v7_1), .val (.int v8_2), .val (.int v9_3), .val (.int v10_4), .val (.int v11_5), .val (.int e4), .val (.ref b6), .val (.int v14_22), .val (.ref b23), .val (.int m33), .val (.int m39), .unset] [(.int m55)] := by
    by_cases br56 : y44 = m53
    · skip
      replace r : A0 l Z n0 D h25 3 1092 189 #[.val (.int es), .val (.long ab), .second, .val (.long cd), .second, .val (.int e4), .val (.int g), .val (.int v7_1), .val (.int v8_2), .val (.int v9_3), .val (.int v10_4), .val (.int v11_5), .val (.int e4), .val (.ref b6), .val (.int v14_22), .val (.ref b23), .val (.int m33), .val (.int m39), .unset] [] := Own.icmpNo r at_186 (teq br56).2
      replace r : A0 l Z n0 D h25 3 1092 190 #[.val (.int es), .val (.long ab), .second, .val (.long cd), .second, .val (.int e4), .val (.int g), .val (.int v7_1), .val (.int v8_2), .val (.int v9_3), .val (.int v10_4), .val (.int v11_5), .val (.int e4), .val (.ref b6), .val (.int v14_22), .val (.ref b23), .val (.int m33), .val (.int m39), .unset] [(.int (1 : Int32))] := Own.iconst r at_189 rfl
      replace r : A0 l Z n0 D h25 3 1092 194 #[.val (.int es), .val (.long ab), .second, .val (.long cd), .second, .val (.int e4), .val (.int g), .val (.int v7_1), .val (.int v8_2), .val (.int v9_3), .val (.int v10_4), .val (.int v11_5), .val (.int e4), .val (.ref b6), .val (.int v14_22), .val (.ref b23), .val (.int m33), .val (.int m39), .unset] [(.int (1 : Int32))] := Own.goto r at_190 (by decide) (by decide)
      exact ⟨_, by rw [if_pos br56], r⟩
    · skip
      replace r : A0 l Z n0 D h25 3 1092 193 #[.val (.int es), .val (.long ab), .second, .val (.long cd), .second, .val (.int e4), .val (.int g), .val (.int v7_1), .val (.int v8_2), .val (.int v9_3), .val (.int v10_4), .val (.int v11_5), .val (.int e4), .val (.ref b6), .val (.int v14_22), .val (.ref b23), .val (.int m33), .val (.int m39), .unset] [] := Own.icmpYes r at_186 (feq br56).2 (by decide) (by decide)
      replace r : A0 l Z n0 D h25 3 1092 194 #[.val (.int es), .val (.long ab), .second, .val (.long cd), .second, .val (.int e4), .val (.int g), .val (.int v7_1), .val (.int v8_2), .val (.int v9_3), .val (.int v10_4), .val (.int v11_5), .val (.int e4), .val (.ref b6), .val (.int v14_22), .val (.ref b23), .val (.int m33), .val (.int m39), .unset] [(.int (0 : Int32))] := Own.iconst r at_193 rfl
      exact ⟨_, by rw [if_neg br56], r⟩
  replace r : A0 l Z n0 D h25 3 1092 196 #[.val (.int es), .val (.long ab), .second, .val (.long cd), .second, .val (.int e4), .val (.int g), .val (.int v7_1), .val (.int v8_2), .val (.int v9_3), .val (.int v10_4), .val (.int v11_5), .val (.int e4), .val (.ref b6), .val (.int v14_22), .val (.ref b23), .val (.int m33), .val (.int m39), .val (.int m55)] [] := Own.istore r at_194 rfl
  replace r : A0 l Z n0 D h25 3 1092 198 #[.val (.int es), .val (.long ab), .second, .val (.long cd), .second, .val (.int e4), .val (.int g), .val (.int v7_1), .val (.int v8_2), .val (.int v9_3), .val (.int v10_4), .val (.int v11_5), .val (.int e4), .val (.ref b6), .val (.int v14_22), .val (.ref b23), .val (.int m33), .val (.int m39), .val (.int m55)] [(.int m33)] := Own.iload r at_196 rfl
  replace r : A0 l Z n0 D h25 3 1092 201 #[.val (.int es), .val (.long ab), .second, .val (.long cd), .second, .val (.int e4), .val (.int g), .val (.int v7_1), .val (.int v8_2), .val (.int v9_3), .val (.int v10_4), .val (.int v11_5), .val (.int e4), .val (.ref b6), .val (.int v14_22), .val (.ref b23), .val (.int m33), .val (.int m39), .val (.int m55)] [] := Own.ifNo r at_198 ((if0 _ _).trans (feq (own_in e_v7_1 e_L9 e_L12 e_L15 e_L18 e_L21 e_v14_22 e_y32 e_m33)).1)
  replace r : A0 l Z n0 D h25 3 1092 203 #[.val (.int es), .val (.long ab), .second, .val (.long cd), .second, .val (.int e4), .val (.int g), .val (.int v7_1), .val (.int v8_2), .val (.int v9_3), .val (.int v10_4), .val (.int v11_5), .val (.int e4), .val (.ref b6), .val (.int v14_22), .val (.ref b23), .val (.int m33), .val (.int m39), .val (.int m55)] [(.int m39)] := Own.iload r at_201 rfl
  replace r : A0 l Z n0 D h25 3 1092 206 #[.val (.int es), .val (.long ab), .second, .val (.long cd), .second, .val (.int e4), .val (.int g), .val (.int v7_1), .val (.int v8_2), .val (.int v9_3), .val (.int v10_4), .val (.int v11_5), .val (.int e4), .val (.ref b6), .val (.int v14_22), .val (.ref b23), .val (.int m33), .val (.int m39), .val (.int m55)] [] := Own.ifNo r at_203 ((if0 _ _).trans (feq (own_zero e_v7_1 e_L9 e_L12 e_L15 e_L18 e_L21 e_y38 e_m39)).1)
  replace r : A0 l Z n0 D h25 3 1092 208 #[.val (.int es), .val (.long ab), .second, .val (.long cd), .second, .val (.int e4), .val (.int g), .val (.int v7_1), .val (.int v8_2), .val (.int v9_3), .val (.int v10_4), .val (.int v11_5), .val (.int e4), .val (.ref b6), .val (.int v14_22), .val (.ref b23), .val (.int m33), .val (.int m39), .val (.int m55)] [(.int m55)] := Own.iload r at_206 rfl
  replace r : A0 l Z n0 D h25 3 1092 211 #[.val (.int es), .val (.long ab), .second, .val (.long cd), .second, .val (.int e4), .val (.int g), .val (.int v7_1), .val (.int v8_2), .val (.int v9_3), .val (.int v10_4), .val (.int v11_5), .val (.int e4), .val (.ref b6), .val (.int v14_22), .val (.ref b23), .val (.int m33), .val (.int m39), .val (.int m55)] [] := Own.ifNo r at_208 ((if0 _ _).trans (feq (own_agree e_y44 e_y48 e_m53 e_m55)).1)
  replace r : A0 l Z n0 D h25 3 1092 212 #[.val (.int es), .val (.long ab), .second, .val (.long cd), .second, .val (.int e4), .val (.int g), .val (.int v7_1), .val (.int v8_2), .val (.int v9_3), .val (.int v10_4), .val (.int v11_5), .val (.int e4), .val (.ref b6), .val (.int v14_22), .val (.ref b23), .val (.int m33), .val (.int m39), .val (.int m55)] [(.int (1 : Int32))] := Own.iconst r at_211 rfl
  replace r : A0 l Z n0 D h25 3 1092 216 #[.val (.int es), .val (.long ab), .second, .val (.long cd), .second, .val (.int e4), .val (.int g), .val (.int v7_1), .val (.int v8_2), .val (.int v9_3), .val (.int v10_4), .val (.int v11_5), .val (.int e4), .val (.ref b6), .val (.int v14_22), .val (.ref b23), .val (.int m33), .val (.int m39), .val (.int m55)] [(.int (1 : Int32))] := Own.goto r at_212 (by decide) (by decide)
  exact ⟨_, _, (Own.Rch.retZ (y := x) (bytes := code) (mx := maxLocals) r at_216 (by decide)).more (by decide) (by decide), rfl⟩
set_option maxRecDepth 65536 in
set_option maxHeartbeats 40000000 in
theorem comes_1 {Post : Tables → Env → Array Value → State → Outcome → State → Prop} (hpost : ∀ tb e args s v u, (limb_1_1.after args s (.returned v) u = true ∧ limb_1_2.after args s (.returned v) u = true ∧ True) → FrameEnd s (.returned v) u (Jvm.fieldLocs frame_1_writes args s ++ Jvm.arrayLocs frame_1_arrays args s ++ Jvm.staticLocs frame_1_statics s) 16 2304 → Post tb e args s (.returned v) u) :
    ArmFor flags0 classFile x code maxLocals ret World_1 tables_1 room_1 Calls_1 rest_1 Pre_1 Post := by
  intro l hfl _ _ p e ha hc hk s m args below hf hA hF happ hP
  obtain ⟨hcalls, hrest, hpre⟩ := hP
  obtain ⟨-, -, -, hnamed, -, -, -, hat⟩ := (Spec.applies_iff hf).mp happ
  obtain ⟨hg, hn⟩ := and_e (Cond.before_iff.mp (show (Jvm.Cond.and given_1 narrow_1).before args s = true from hpre))
  obtain ⟨g1, g2⟩ := and_e hg
  obtain ⟨g3, g4⟩ := and_e g2
  obtain ⟨g5, g6⟩ := and_e g4
  obtain ⟨g7, g8⟩ := and_e g6
  obtain ⟨g9, g10⟩ := and_e g8
  obtain ⟨w0, w1, w2, w3, w4, rfl⟩ : ∃ w0 w1 w2 w3 w4 : Value, args = #[w0, w1, w2, w3, w4] := by
    have hs : args.size = 5 := by simpa [Cond.value, given_1] using g1
    obtain ⟨L⟩ := args
    match L, hs with
    | [w0, w1, w2, w3, w4], _ => exact ⟨w0, w1, w2, w3, w4, rfl⟩
  have hw := fun d (hd : d ∈ tables_1) => atoms_spec (ws := Jvm.Cond.code x code maxLocals ret :: tables_1) hat d (List.mem_cons_of_mem _ hd)
  have hfit : Fit s := fun {y c} hc i hi => by
    obtain ⟨ha, rfl⟩ := Array.getElem?_eq_some_iff.mp hc
    have q := List.all_eq_true.mp ((Array.all_eq_true_iff_forall_mem.mp hF) _ (Array.getElem_mem ha)) i (List.mem_range.mpr hi)
    simpa [Array.getElem?_eq_getElem hi] using q
  obtain ⟨i0, ei0⟩ := is_v g3
  obtain rfl : w0 = (.int i0) := Option.some.inj ei0
  obtain ⟨i1, ei1⟩ := isL_v g5
  obtain rfl : w1 = (.long i1) := Option.some.inj ei1
  obtain ⟨i2, ei2⟩ := isL_v g7
  obtain rfl : w2 = (.long i2) := Option.some.inj ei2
  obtain ⟨i3, ei3⟩ := is_v g9
  obtain rfl : w3 = (.int i3) := Option.some.inj ei3
  obtain ⟨i4, ei4⟩ := is_v g10
  obtain rfl : w4 = (.int i4) := Option.some.inj ei4
  obtain ⟨n, o, h1, h2, h3, _, L, rfl, ⟨N, rfl⟩, hq⟩ := (c0 l s _ hw s.heap.size s.heap (Nat.le_refl _) i0 i1 i2 i3 i4) tables_1 p e ha hc hk s m _ below hf ((Spec.applies_iff_loose hf).mp happ).1 ⟨rfl, State.Warmed39.refl s, rfl⟩ trivial
  refine ⟨n, _, h1, h2, h3, hpost _ _ _ _ _ _ ⟨Cond.after_iff.mpr rfl, Cond.after_iff.mpr (eq_i res_at (Term.int_eval (1)) rfl), trivial⟩ ⟨hq.1, hq.2.1, (hq.2.2.sift fun y hy => Or.inr (N y hy)).mono (by decide) (by decide)⟩⟩
theorem main_1_1 : Claimed_1_1 := comes_1 fun _ _ _ _ _ _ h hF => ⟨h.1, hF⟩
theorem main_1_2 : Claimed_1_2 := comes_1 fun _ _ _ _ _ _ h hF => ⟨h.2.1, hF⟩
end Jvm.Pilot.@@N@@
namespace Jvm.Pilot.@@N@@
open Jvm Jvm.ClassFile Sem Op Lib Jvm.Free Jvm.Stand Jvm.Pilot.@@N@@.Jvm.D
/-! MADE BY PROGRAM (witnessworld.py) out of the Statement's table words and the real class files: 17 classes; the members and pool entries that the words name. The judged class is class 1, her method 1. -/
namespace start1
open Jvm.ClassFile
def u (s : String) : CpInfo := .utf8 (stringToUtf16 s)
/-- a pool by its gaps: so many unusable entries, then the entry; so many at the end -/
def gap : Nat → List CpInfo → List CpInfo
  | 0, r => r
  | n + 1, r => .unusable :: gap n r
def poolList (es : List (Nat × CpInfo)) (last : Nat) : List CpInfo := es.foldr (fun e r => gap e.1 (e.2 :: r)) (gap last [])
def pool (es : List (Nat × CpInfo)) (last : Nat) : Array CpInfo := ⟨poolList es last⟩
def fileOf (pool : Array CpInfo) (this : Nat) (attrs : Array Attribute := #[]) (ms : Array MethodInfo := #[]) (fl : Nat := 33) (sup : Nat := 0) (ifs : Array Nat := #[]) (fds : Array FieldInfo := #[]) : ClassFile where
  minorVersion := 0
  majorVersion := 65
  constantPool := pool
  accessFlags := fl
  thisClass := this
  superClass := sup
  interfaces := ifs
  fields := fds
  methods := ms
  attributes := attrs
def plain (name : String) (sup : Option ClassId) : Class where
  name := name
  kind := .ordinary
  loader := none
  accessFlags := 33
  super := sup
  interfaces := #[]
  cf := none
  fields := #[]
  methods := #[]
  instanceTypes := #[]
  staticTypes := #[]
  resolved := #[]
  callSites := []
  init := .initialized
  statics := none
  mirror := none

def pool0 : Array CpInfo := pool [(5, u "<init>"), (0, u "()V"), (1, .class_ 10), (1, u "java/lang/Object")] 113

def k0c0 : Code := { maxStack := 0, maxLocals := 1, code := object_method_1_code, exceptionTable := #[], attributes := #[] }
def k0m0 : Method := { name := "<init>", desc := "()V", sig := { parameters := [], returnType := none }, accessFlags := 1, code := some k0c0 }
/-- java/lang/Object -/
def k0 : Class := { plain "java/lang/Object" none with
  accessFlags := 33
  interfaces := #[]
  cf := some (fileOf pool0 8 #[] #[{ accessFlags := 1, nameIndex := 5, descriptorIndex := 6, attributes := #[] }] 33 0 #[] #[])
  fields := #[]
  methods := #[k0m0]
  instanceTypes := #[]
  staticTypes := #[]
  resolved := Array.replicate 124 none
  statics := none }

def pool1 : Array CpInfo := pool [(2, .class_ 4), (1, u "java/lang/Object"), (0, u "<init>"), (0, u "()V"), (0, .integer 2147483647), (0, .class_ 9), (0, u "needlework/Skip"), (0, .methodref 8 11), (0, .nameAndType 5 12), (0, u "([I)V"), (0, .methodref 8 14), (0, .nameAndType 15 16), (0, u "absent"), (0, u "(I)Z"), (0, .methodref 8 18), (0, .nameAndType 19 20), (0, u "shift"), (0, u "(I)I"), (0, .methodref 8 22), (0, .nameAndType 23 24), (0, u "full"), (0, u "()I"), (0, .class_ 26), (0, u "needlework/SkipAbsentPinLaw"), (2, u "law"), (0, u "(IJJII)Z")] 5

def k1m0 : Method := { name := "<init>", desc := "()V", sig := { parameters := [], returnType := none }, accessFlags := 1, code := none }
def k1c1 : Code := { maxStack := 3, maxLocals := 19, code := code, exceptionTable := #[], attributes := #[] }
def k1m1 : Method := { name := "law", desc := "(IJJII)Z", sig := { parameters := [.int, .long, .long, .int, .int], returnType := some .boolean }, accessFlags := 9, code := some k1c1 }
/-- needlework/SkipAbsentPinLaw -/
def k1 : Class := { plain "needlework/SkipAbsentPinLaw" (some 0) with
  accessFlags := 49
  interfaces := #[]
  cf := some (fileOf pool1 25 #[] #[{ accessFlags := 1, nameIndex := 5, descriptorIndex := 6, attributes := #[] }, { accessFlags := 9, nameIndex := 29, descriptorIndex := 30, attributes := #[] }] 49 2 #[] #[])
  fields := #[]
  methods := #[k1m0, k1m1]
  instanceTypes := #[]
  staticTypes := #[]
  resolved := Array.replicate 36 none
  statics := none }

def pool2 : Array CpInfo := pool [(1, .methodref 2 3), (0, .class_ 4), (0, .nameAndType 5 6), (0, u "java/lang/Object"), (0, u "<init>"), (0, u "()V"), (0, .class_ 8), (0, u "needlework/Text"), (0, .fieldref 10 11), (0, .class_ 12), (0, .nameAndType 13 14), (0, u "needlework/Skip"), (0, u "full"), (0, u "I"), (0, .fieldref 10 16), (0, .nameAndType 17 14), (0, u "grain"), (0, .methodref 19 20), (0, .class_ 21), (0, .nameAndType 22 23), (0, u "java/lang/Integer"), (0, u "numberOfLeadingZeros"), (0, u "(I)I"), (0, .methodref 25 26), (0, .class_ 27), (0, .nameAndType 28 29), (0, u "java/lang/Math"), (0, u "min"), (0, u "(II)I"), (0, .fieldref 10 31), (0, .nameAndType 32 14), (0, u "bits"), (0, .fieldref 10 34), (0, .nameAndType 35 36), (0, u "table"), (0, u "[B"), (0, .interfaceMethodref 7 38), (0, .nameAndType 39 29), (0, u "gram"), (0, .interfaceMethodref 7 41), (0, .nameAndType 42 29), (0, u "ungram"), (0, .methodref 10 44), (0, .nameAndType 45 23), (0, u "slot"), (0, .methodref 47 48), (0, .class_ 49), (0, .nameAndType 50 51), (0, u "java/lang/Byte"), (0, u "toUnsignedInt"), (0, u "(B)I"), (0, .methodref 25 53), (0, .nameAndType 54 29), (0, u "max"), (0, .integer 2654435761), (0, u "MIN_LENGTH"), (2, u "CANDIDATE"), (1, u "([I)V"), (6, u "()I"), (0, u "shift"), (0, u "absent"), (0, u "(I)Z")] 2

def k2c0 : Code := { maxStack := 5, maxLocals := 7, code := prog_20_method_1_code, exceptionTable := #[], attributes := #[] }
def k2m0 : Method := { name := "<init>", desc := "([I)V", sig := { parameters := [(.array .int)], returnType := none }, accessFlags := 0, code := some k2c0 }
def k2c1 : Code := { maxStack := 1, maxLocals := 1, code := prog_20_method_2_code, exceptionTable := #[], attributes := #[] }
def k2m1 : Method := { name := "full", desc := "()I", sig := { parameters := [], returnType := some .int }, accessFlags := 0, code := some k2c1 }
def k2c2 : Code := { maxStack := 4, maxLocals := 3, code := prog_20_method_3_code, exceptionTable := #[], attributes := #[] }
def k2m2 : Method := { name := "shift", desc := "(I)I", sig := { parameters := [.int], returnType := some .int }, accessFlags := 0, code := some k2c2 }
def k2c3 : Code := { maxStack := 3, maxLocals := 2, code := prog_20_method_4_code, exceptionTable := #[], attributes := #[] }
def k2m3 : Method := { name := "absent", desc := "(I)Z", sig := { parameters := [.int], returnType := some .boolean }, accessFlags := 0, code := some k2c3 }
def k2c4 : Code := { maxStack := 3, maxLocals := 2, code := prog_20_method_5_code, exceptionTable := #[], attributes := #[] }
def k2m4 : Method := { name := "slot", desc := "(I)I", sig := { parameters := [.int], returnType := some .int }, accessFlags := 2, code := some k2c4 }
/-- needlework/Skip -/
def k2 : Class := { plain "needlework/Skip" (some 0) with
  accessFlags := 48
  interfaces := #[]
  cf := some (fileOf pool2 10 #[] #[{ accessFlags := 0, nameIndex := 5, descriptorIndex := 61, attributes := #[] }, { accessFlags := 0, nameIndex := 13, descriptorIndex := 68, attributes := #[] }, { accessFlags := 0, nameIndex := 69, descriptorIndex := 23, attributes := #[] }, { accessFlags := 0, nameIndex := 70, descriptorIndex := 71, attributes := #[] }, { accessFlags := 2, nameIndex := 45, descriptorIndex := 23, attributes := #[] }] 48 2 #[] #[{ accessFlags := 24, nameIndex := 56, descriptorIndex := 14, attributes := #[] }, { accessFlags := 18, nameIndex := 13, descriptorIndex := 14, attributes := #[] }, { accessFlags := 18, nameIndex := 17, descriptorIndex := 14, attributes := #[] }, { accessFlags := 18, nameIndex := 32, descriptorIndex := 14, attributes := #[] }, { accessFlags := 18, nameIndex := 35, descriptorIndex := 36, attributes := #[] }, { accessFlags := 26, nameIndex := 59, descriptorIndex := 14, attributes := #[] }])
  fields := #[{ name := "MIN_LENGTH", type := .int, accessFlags := 24, slot := 0, constantValue := 0 }, { name := "full", type := .int, accessFlags := 18, slot := 0, constantValue := 0 }, { name := "grain", type := .int, accessFlags := 18, slot := 1, constantValue := 0 }, { name := "bits", type := .int, accessFlags := 18, slot := 2, constantValue := 0 }, { name := "table", type := (.array .byte), accessFlags := 18, slot := 3, constantValue := 0 }, { name := "CANDIDATE", type := .int, accessFlags := 26, slot := 1, constantValue := 0 }]
  methods := #[k2m0, k2m1, k2m2, k2m3, k2m4]
  instanceTypes := #[.int, .int, .int, (.array .byte)]
  staticTypes := #[.int, .int]
  resolved := Array.replicate 74 none
  statics := none }

def pool3 : Array CpInfo := pool [(1, .class_ 2), (0, u "java/io/Serializable"), (0, .class_ 4), (0, u "java/lang/Object")] 2

/-- java/io/Serializable -/
def k3 : Class := { plain "java/io/Serializable" (some 0) with
  accessFlags := 1537
  interfaces := #[]
  cf := some (fileOf pool3 1 #[] #[] 1537 3 #[] #[])
  fields := #[]
  methods := #[]
  instanceTypes := #[]
  staticTypes := #[]
  resolved := Array.replicate 7 none
  statics := none }

def pool4 : Array CpInfo := pool [(2, .class_ 4), (1, u "java/lang/Object"), (0, u "<init>"), (0, u "()V"), (1, .class_ 10), (1, u "java/lang/Number"), (2, .class_ 14), (0, u "java/io/Serializable"), (0, u "serialVersionUID"), (0, u "J")] 20

def k4m0 : Method := { name := "<init>", desc := "()V", sig := { parameters := [], returnType := none }, accessFlags := 1, code := none }
/-- java/lang/Number -/
def k4 : Class := { plain "java/lang/Number" (some 0) with
  accessFlags := 1057
  interfaces := #[3]
  cf := some (fileOf pool4 8 #[] #[{ accessFlags := 1, nameIndex := 5, descriptorIndex := 6, attributes := #[] }] 1057 2 #[13] #[{ accessFlags := 26, nameIndex := 15, descriptorIndex := 16, attributes := #[] }])
  fields := #[{ name := "serialVersionUID", type := .long, accessFlags := 26, slot := 0, constantValue := 0 }]
  methods := #[k4m0]
  instanceTypes := #[]
  staticTypes := #[.long]
  resolved := Array.replicate 37 none
  statics := none }

def pool5 : Array CpInfo := pool [(1, .class_ 2), (0, u "java/lang/Comparable"), (0, .class_ 4), (0, u "java/lang/Object")] 7

/-- java/lang/Comparable -/
def k5 : Class := { plain "java/lang/Comparable" (some 0) with
  accessFlags := 1537
  interfaces := #[]
  cf := some (fileOf pool5 1 #[] #[] 1537 3 #[] #[])
  fields := #[]
  methods := #[]
  instanceTypes := #[]
  staticTypes := #[]
  resolved := Array.replicate 12 none
  statics := none }

def pool6 : Array CpInfo := pool [(1, .class_ 2), (0, u "java/lang/constant/Constable"), (0, .class_ 4), (0, u "java/lang/Object")] 6

/-- java/lang/constant/Constable -/
def k6 : Class := { plain "java/lang/constant/Constable" (some 0) with
  accessFlags := 1537
  interfaces := #[]
  cf := some (fileOf pool6 1 #[] #[] 1537 3 #[] #[])
  fields := #[]
  methods := #[]
  instanceTypes := #[]
  staticTypes := #[]
  resolved := Array.replicate 11 none
  statics := none }

def pool7 : Array CpInfo := pool [(1, .class_ 2), (0, u "java/lang/constant/ConstantDesc"), (0, .class_ 4), (0, u "java/lang/Object")] 32

/-- java/lang/constant/ConstantDesc -/
def k7 : Class := { plain "java/lang/constant/ConstantDesc" (some 0) with
  accessFlags := 1537
  interfaces := #[]
  cf := some (fileOf pool7 1 #[] #[] 1537 3 #[] #[])
  fields := #[]
  methods := #[]
  instanceTypes := #[]
  staticTypes := #[]
  resolved := Array.replicate 37 none
  statics := none }

def pool8 : Array CpInfo := pool [(1, .class_ 2), (0, u "java/lang/Integer"), (16, u "digits"), (0, u "[C"), (32, u "numberOfLeadingZeros"), (0, u "(I)I"), (30, u "DigitOnes"), (0, u "[B"), (2, u "DigitTens"), (99, .class_ 190), (0, u "java/lang/Integer$IntegerCache"), (3, u "I"), (8, .class_ 204), (0, u "java/lang/Number"), (2, u "value"), (56, .integer 65536), (37, u "TYPE"), (0, u "Ljava/lang/Class;"), (0, .class_ 305), (0, u "java/lang/Comparable"), (0, .class_ 307), (0, u "java/lang/constant/Constable"), (0, .class_ 309), (0, u "java/lang/constant/ConstantDesc"), (0, u "MIN_VALUE"), (1, u "MAX_VALUE"), (3, u "SIZE"), (1, u "BYTES"), (1, u "serialVersionUID"), (0, u "J")] 131

def k8c0 : Code := { maxStack := 3, maxLocals := 2, code := jdk_33_method_47_code, exceptionTable := #[], attributes := #[] }
def k8m0 : Method := { name := "numberOfLeadingZeros", desc := "(I)I", sig := { parameters := [.int], returnType := some .int }, accessFlags := 9, code := some k8c0 }
/-- java/lang/Integer -/
def k8 : Class := { plain "java/lang/Integer" (some 4) with
  accessFlags := 49
  interfaces := #[5, 6, 7]
  cf := some (fileOf pool8 1 #[.nestMembers #[189]] #[{ accessFlags := 9, nameIndex := 53, descriptorIndex := 54, attributes := #[] }] 49 203 #[304, 306, 308] #[{ accessFlags := 25, nameIndex := 310, descriptorIndex := 194, attributes := #[] }, { accessFlags := 25, nameIndex := 312, descriptorIndex := 194, attributes := #[] }, { accessFlags := 25, nameIndex := 302, descriptorIndex := 303, attributes := #[] }, { accessFlags := 24, nameIndex := 19, descriptorIndex := 20, attributes := #[] }, { accessFlags := 24, nameIndex := 89, descriptorIndex := 86, attributes := #[] }, { accessFlags := 24, nameIndex := 85, descriptorIndex := 86, attributes := #[] }, { accessFlags := 18, nameIndex := 207, descriptorIndex := 194, attributes := #[] }, { accessFlags := 25, nameIndex := 316, descriptorIndex := 194, attributes := #[] }, { accessFlags := 25, nameIndex := 318, descriptorIndex := 194, attributes := #[] }, { accessFlags := 26, nameIndex := 320, descriptorIndex := 321, attributes := #[] }])
  fields := #[{ name := "MIN_VALUE", type := .int, accessFlags := 25, slot := 0, constantValue := 0 }, { name := "MAX_VALUE", type := .int, accessFlags := 25, slot := 1, constantValue := 0 }, { name := "TYPE", type := (.object "java/lang/Class"), accessFlags := 25, slot := 2, constantValue := 0 }, { name := "digits", type := (.array .char), accessFlags := 24, slot := 3, constantValue := 0 }, { name := "DigitTens", type := (.array .byte), accessFlags := 24, slot := 4, constantValue := 0 }, { name := "DigitOnes", type := (.array .byte), accessFlags := 24, slot := 5, constantValue := 0 }, { name := "value", type := .int, accessFlags := 18, slot := 0, constantValue := 0 }, { name := "SIZE", type := .int, accessFlags := 25, slot := 6, constantValue := 0 }, { name := "BYTES", type := .int, accessFlags := 25, slot := 7, constantValue := 0 }, { name := "serialVersionUID", type := .long, accessFlags := 26, slot := 8, constantValue := 0 }]
  methods := #[k8m0]
  instanceTypes := #[.int]
  staticTypes := #[.int, .int, (.object "java/lang/Class"), (.array .char), (.array .byte), (.array .byte), .int, .int, .long]
  resolved := Array.replicate 453 none
  statics := none }

def pool9 : Array CpInfo := pool [(1, .class_ 2), (0, u "java/lang/Math"), (1, .class_ 6), (1, u "java/lang/Object"), (0, u "<init>"), (0, u "()V"), (89, .class_ 100), (1, u "java/lang/Math$RandomNumberGeneratorHolder"), (71, u "negativeZeroFloatBits"), (0, u "J"), (2, u "negativeZeroDoubleBits"), (21, u "max"), (2, u "min"), (43, u "$assertionsDisabled"), (0, u "Z"), (88, u "(II)I"), (2, u "twoToTheDoubleScaleDown"), (0, u "D"), (4, u "twoToTheDoubleScaleUp"), (9, u "E"), (3, u "PI"), (2, u "TAU"), (2, u "DEGREES_TO_RADIANS"), (0, u "RADIANS_TO_DEGREES")] 94

def k9m0 : Method := { name := "<init>", desc := "()V", sig := { parameters := [], returnType := none }, accessFlags := 2, code := none }
def k9c1 : Code := { maxStack := 2, maxLocals := 2, code := jdk_29_method_65_code, exceptionTable := #[], attributes := #[] }
def k9m1 : Method := { name := "max", desc := "(II)I", sig := { parameters := [.int, .int], returnType := some .int }, accessFlags := 9, code := some k9c1 }
def k9c2 : Code := { maxStack := 2, maxLocals := 2, code := jdk_29_method_69_code, exceptionTable := #[], attributes := #[] }
def k9m2 : Method := { name := "min", desc := "(II)I", sig := { parameters := [.int, .int], returnType := some .int }, accessFlags := 9, code := some k9c2 }
/-- java/lang/Math -/
def k9 : Class := { plain "java/lang/Math" (some 0) with
  accessFlags := 49
  interfaces := #[]
  cf := some (fileOf pool9 1 #[.nestMembers #[98]] #[{ accessFlags := 2, nameIndex := 7, descriptorIndex := 8, attributes := #[] }, { accessFlags := 9, nameIndex := 198, descriptorIndex := 335, attributes := #[] }, { accessFlags := 9, nameIndex := 201, descriptorIndex := 335, attributes := #[] }] 49 4 #[] #[{ accessFlags := 25, nameIndex := 354, descriptorIndex := 339, attributes := #[] }, { accessFlags := 25, nameIndex := 358, descriptorIndex := 339, attributes := #[] }, { accessFlags := 25, nameIndex := 361, descriptorIndex := 339, attributes := #[] }, { accessFlags := 26, nameIndex := 364, descriptorIndex := 339, attributes := #[] }, { accessFlags := 26, nameIndex := 365, descriptorIndex := 339, attributes := #[] }, { accessFlags := 26, nameIndex := 172, descriptorIndex := 173, attributes := #[] }, { accessFlags := 26, nameIndex := 176, descriptorIndex := 173, attributes := #[] }, { accessFlags := 8, nameIndex := 344, descriptorIndex := 339, attributes := #[] }, { accessFlags := 8, nameIndex := 338, descriptorIndex := 339, attributes := #[] }, { accessFlags := 4120, nameIndex := 245, descriptorIndex := 246, attributes := #[] }])
  fields := #[{ name := "E", type := .double, accessFlags := 25, slot := 0, constantValue := 0 }, { name := "PI", type := .double, accessFlags := 25, slot := 1, constantValue := 0 }, { name := "TAU", type := .double, accessFlags := 25, slot := 2, constantValue := 0 }, { name := "DEGREES_TO_RADIANS", type := .double, accessFlags := 26, slot := 3, constantValue := 0 }, { name := "RADIANS_TO_DEGREES", type := .double, accessFlags := 26, slot := 4, constantValue := 0 }, { name := "negativeZeroFloatBits", type := .long, accessFlags := 26, slot := 5, constantValue := 0 }, { name := "negativeZeroDoubleBits", type := .long, accessFlags := 26, slot := 6, constantValue := 0 }, { name := "twoToTheDoubleScaleUp", type := .double, accessFlags := 8, slot := 7, constantValue := 0 }, { name := "twoToTheDoubleScaleDown", type := .double, accessFlags := 8, slot := 8, constantValue := 0 }, { name := "$assertionsDisabled", type := .boolean, accessFlags := 4120, slot := 9, constantValue := 0 }]
  methods := #[k9m0, k9m1, k9m2]
  instanceTypes := #[]
  staticTypes := #[.double, .double, .double, .double, .double, .long, .long, .double, .double, .boolean]
  resolved := Array.replicate 460 none
  statics := none }

def pool10 : Array CpInfo := pool [(2, .class_ 4), (1, u "needlework/Text$Pattern"), (3, .class_ 10), (1, u "needlework/Text"), (6, u "gram"), (0, u "(II)I"), (0, .class_ 20), (0, u "java/lang/Object"), (0, u "GRAM_LENGTH"), (0, u "I"), (2, u "GRAM_SHIFT"), (22, u "ungram")] 5

def k10c0 : Code := { maxStack := 2, maxLocals := 2, code := prog_24_method_11_code, exceptionTable := #[], attributes := #[] }
def k10m0 : Method := { name := "gram", desc := "(II)I", sig := { parameters := [.int, .int], returnType := some .int }, accessFlags := 9, code := some k10c0 }
def k10c1 : Code := { maxStack := 3, maxLocals := 2, code := prog_24_method_12_code, exceptionTable := #[], attributes := #[] }
def k10m1 : Method := { name := "ungram", desc := "(II)I", sig := { parameters := [.int, .int], returnType := some .int }, accessFlags := 9, code := some k10c1 }
/-- needlework/Text -/
def k10 : Class := { plain "needlework/Text" (some 0) with
  accessFlags := 1536
  interfaces := #[]
  cf := some (fileOf pool10 8 #[.nestMembers #[2]] #[{ accessFlags := 9, nameIndex := 17, descriptorIndex := 18, attributes := #[] }, { accessFlags := 9, nameIndex := 48, descriptorIndex := 18, attributes := #[] }] 1536 19 #[] #[{ accessFlags := 25, nameIndex := 21, descriptorIndex := 22, attributes := #[] }, { accessFlags := 25, nameIndex := 25, descriptorIndex := 22, attributes := #[] }])
  fields := #[{ name := "GRAM_LENGTH", type := .int, accessFlags := 25, slot := 0, constantValue := 0 }, { name := "GRAM_SHIFT", type := .int, accessFlags := 25, slot := 1, constantValue := 0 }]
  methods := #[k10m0, k10m1]
  instanceTypes := #[]
  staticTypes := #[.int, .int]
  resolved := Array.replicate 54 none
  statics := none }

def pool11 : Array CpInfo := pool [(1, .class_ 2), (0, u "java/lang/Byte"), (41, .class_ 46), (1, u "java/lang/Byte$ByteCache"), (51, .class_ 99), (0, u "java/lang/Number"), (2, u "value"), (0, u "B"), (3, u "(B)I"), (10, u "toUnsignedInt"), (16, u "TYPE"), (0, u "Ljava/lang/Class;"), (0, .class_ 138), (0, u "java/lang/Comparable"), (0, .class_ 140), (0, u "java/lang/constant/Constable"), (0, u "MIN_VALUE"), (2, u "MAX_VALUE"), (3, u "SIZE"), (0, u "I"), (1, u "BYTES"), (1, u "serialVersionUID"), (0, u "J")] 58

def k11c0 : Code := { maxStack := 2, maxLocals := 1, code := jdk_2056_method_24_code, exceptionTable := #[], attributes := #[] }
def k11m0 : Method := { name := "toUnsignedInt", desc := "(B)I", sig := { parameters := [.byte], returnType := some .int }, accessFlags := 9, code := some k11c0 }
/-- java/lang/Byte -/
def k11 : Class := { plain "java/lang/Byte" (some 4) with
  accessFlags := 49
  interfaces := #[5, 6]
  cf := some (fileOf pool11 1 #[.nestMembers #[44]] #[{ accessFlags := 9, nameIndex := 118, descriptorIndex := 107, attributes := #[] }] 49 98 #[137, 139] #[{ accessFlags := 25, nameIndex := 141, descriptorIndex := 103, attributes := #[] }, { accessFlags := 25, nameIndex := 144, descriptorIndex := 103, attributes := #[] }, { accessFlags := 25, nameIndex := 135, descriptorIndex := 136, attributes := #[] }, { accessFlags := 18, nameIndex := 102, descriptorIndex := 103, attributes := #[] }, { accessFlags := 25, nameIndex := 148, descriptorIndex := 149, attributes := #[] }, { accessFlags := 25, nameIndex := 151, descriptorIndex := 149, attributes := #[] }, { accessFlags := 26, nameIndex := 153, descriptorIndex := 154, attributes := #[] }])
  fields := #[{ name := "MIN_VALUE", type := .byte, accessFlags := 25, slot := 0, constantValue := 0 }, { name := "MAX_VALUE", type := .byte, accessFlags := 25, slot := 1, constantValue := 0 }, { name := "TYPE", type := (.object "java/lang/Class"), accessFlags := 25, slot := 2, constantValue := 0 }, { name := "value", type := .byte, accessFlags := 18, slot := 0, constantValue := 0 }, { name := "SIZE", type := .int, accessFlags := 25, slot := 3, constantValue := 0 }, { name := "BYTES", type := .int, accessFlags := 25, slot := 4, constantValue := 0 }, { name := "serialVersionUID", type := .long, accessFlags := 26, slot := 5, constantValue := 0 }]
  methods := #[k11m0]
  instanceTypes := #[.byte]
  staticTypes := #[.byte, .byte, (.object "java/lang/Class"), .int, .int, .long]
  resolved := Array.replicate 213 none
  statics := none }

def pool12 : Array CpInfo := pool [(1, u "java/lang/Cloneable"), (0, .class_ 1), (0, u "java/lang/Object"), (0, .class_ 3)] 3

/-- java/lang/Cloneable -/
def k12 : Class := { plain "java/lang/Cloneable" (some 0) with
  accessFlags := 1537
  interfaces := #[]
  cf := some (fileOf pool12 2 #[] #[] 1537 4 #[] #[])
  fields := #[]
  methods := #[]
  instanceTypes := #[]
  staticTypes := #[]
  resolved := Array.replicate 8 none
  statics := none }

/-- the primitive byte -/
def k13 : Class := { plain "byte" none with kind := .primitive 'B', accessFlags := 0x411 }
/-- [B -/
def k14 : Class := { plain "[B" (some 0) with kind := .array 13 .byte, interfaces := #[12, 3], accessFlags := 1041 }

/-- the primitive int -/
def k15 : Class := { plain "int" none with kind := .primitive 'I', accessFlags := 0x411 }
/-- [I -/
def k16 : Class := { plain "[I" (some 0) with kind := .array 15 .int, interfaces := #[12, 3], accessFlags := 1041 }

def heap : Heap := #[]
def classes : Array Class := #[k0, k1, k2, k3, k4, k5, k6, k7, k8, k9, k10, k11, k12, k13, k14, k15, k16]
def interned : List (Array UInt16 × Addr) := []
def slotsUsed : Nat := 0
def theMethod : MethodId := ⟨1, 1⟩
def args0 : Array Value := #[.int 7, .long 5, .long 6, .int 1, .int 2]
def aboutOver (below : List Frame) : State where
  vm := { classes := classes, interned := interned.toArray }
  heap := heap
  slotsUsed := slotsUsed
  threads := #[{ frames := .invoking theMethod args0 :: below }]
def below0 : List Frame := [.native { method := ⟨0, 0⟩, args := #[] }]
def about1 : State := aboutOver below0
def p0 : Program := .bare "" "" ""
def e0 : Env := launch0.env 0 0 0
theorem w_frames : about1.frames = Frame.invoking theMethod args0 :: below0 := rfl
set_option maxRecDepth 65536 in
theorem w_args : argsFit about1.vm theMethod args0 = true := by decide +kernel
set_option maxRecDepth 65536 in
theorem w_heap : heapFits about1 = true := by decide +kernel
set_option maxRecDepth 65536 in
theorem w_runnable : about1.curStatus? = some .runnable := by decide +kernel
set_option maxRecDepth 65536 in
theorem w_alone : about1.alone = true := by decide +kernel
set_option maxRecDepth 65536 in
theorem w_named : about1.methodNamed? x = some theMethod := by decide +kernel
set_option maxRecDepth 65536 in
theorem w_hears : about1.hears theMethod below0 = true := by decide +kernel
set_option maxRecDepth 65536 in
theorem w_ripe : about1.ripe theMethod args0 below0 = true := by decide +kernel
theorem w_running : about1.status = .running := rfl
set_option maxRecDepth 65536 in
theorem w_room : about1.hasRoom e0.platform room_1 = true :=
  launch0.hasRoom_least _ room_1 (by decide +kernel) (by decide +kernel) (by decide +kernel) (by decide +kernel) (by decide +kernel) (by decide +kernel)
theorem allAtoms_all (ts : List Jvm.Cond) (a : Array Jvm.Value) (st : Jvm.State) : (allAtoms ts).before a st = ts.all (fun c => c.before a st) := by
  induction ts with
  | nil => rfl
  | cons c t ih =>
    show (Jvm.Cond.and c (allAtoms t)).before a st = _
    rw [Jvm.Cond.before_and, ih, List.all_cons]
def words1 : List Jvm.Cond := Jvm.Cond.code x code maxLocals ret :: tables_1
/-- a 'code' word, met by the world's own term for the bytes: nothing is compared byte by byte -/
theorem code_word {y : MethodName} {bytes : ByteArray} {mx : Nat} {rt : Option FieldType} {a : Array Value} {s : State} {m : MethodId} {meth : Method} {c : Code} (h1 : s.methodNamed? y = some m) (h2 : s.vm.method? m = some meth) (h3 : meth.code = some c) (h4 : c.code = bytes)
    (h5 : (c.maxLocals == mx && c.exceptionTable.isEmpty && decide (c.maxStack ≤ mostOperands) && decide (meth.sig.returnType = rt) && !meth.locks && decide (parseMethodDescriptor y.desc = some meth.sig)) = true) : (Jvm.Cond.code y bytes mx rt).before a s = true := by
  simp only [Bool.and_eq_true, beq_iff_eq, Bool.not_eq_true', decide_eq_true_eq] at h5
  obtain ⟨⟨⟨⟨⟨g1, g2⟩, g3⟩, g4⟩, g5⟩, g6⟩ := h5
  simp [Cond.before, Cond.holds, Cond.value, h1, h2, h3, h4, g1, g2, g3, g4, g5, g6]
def isCode : Jvm.Cond → Bool
  | .code _ _ _ _ => true
  | _ => false
theorem all_split {L : List Jvm.Cond} {P : Jvm.Cond → Bool} (h1 : L.all (fun c => isCode c || P c) = true) (h2 : ∀ c ∈ L.filter isCode, P c = true) : L.all P = true := by
  refine List.all_eq_true.mpr fun c hc => ?_
  have h := List.all_eq_true.mp h1 c hc
  rcases Bool.eq_false_or_eq_true (isCode c) with hi | hi
  · exact h2 c (List.mem_filter.mpr ⟨hc, hi⟩)
  · simpa [hi] using h
set_option maxRecDepth 65536 in
theorem w_c0 : (Jvm.Cond.code x code maxLocals ret).before args0 about1 = true := code_word (m := ⟨1, 1⟩) (meth := k1m1) (c := k1c1) (by decide +kernel) rfl rfl rfl (by decide +kernel)
set_option maxRecDepth 65536 in
theorem w_c1 : (Jvm.Cond.code ({ cls := "needlework/Skip", name := "<init>", desc := "([I)V" } : Jvm.MethodName) prog_20_method_1_code (7 : Nat) (Option.none : Option Jvm.ClassFile.FieldType)).before args0 about1 = true := code_word (m := ⟨2, 0⟩) (meth := k2m0) (c := k2c0) (by decide +kernel) rfl rfl rfl (by decide +kernel)
set_option maxRecDepth 65536 in
theorem w_c2 : (Jvm.Cond.code ({ cls := "java/lang/Object", name := "<init>", desc := "()V" } : Jvm.MethodName) object_method_1_code (1 : Nat) (Option.none : Option Jvm.ClassFile.FieldType)).before args0 about1 = true := code_word (m := ⟨0, 0⟩) (meth := k0m0) (c := k0c0) (by decide +kernel) rfl rfl rfl (by decide +kernel)
set_option maxRecDepth 65536 in
theorem w_c3 : (Jvm.Cond.code ({ cls := "java/lang/Integer", name := "numberOfLeadingZeros", desc := "(I)I" } : Jvm.MethodName) jdk_33_method_47_code (2 : Nat) (Option.some Jvm.ClassFile.FieldType.int)).before args0 about1 = true := code_word (m := ⟨8, 0⟩) (meth := k8m0) (c := k8c0) (by decide +kernel) rfl rfl rfl (by decide +kernel)
set_option maxRecDepth 65536 in
theorem w_c4 : (Jvm.Cond.code ({ cls := "java/lang/Math", name := "min", desc := "(II)I" } : Jvm.MethodName) jdk_29_method_69_code (2 : Nat) (Option.some Jvm.ClassFile.FieldType.int)).before args0 about1 = true := code_word (m := ⟨9, 2⟩) (meth := k9m2) (c := k9c2) (by decide +kernel) rfl rfl rfl (by decide +kernel)
set_option maxRecDepth 65536 in
theorem w_c5 : (Jvm.Cond.code ({ cls := "needlework/Text", name := "gram", desc := "(II)I" } : Jvm.MethodName) prog_24_method_11_code (2 : Nat) (Option.some Jvm.ClassFile.FieldType.int)).before args0 about1 = true := code_word (m := ⟨10, 0⟩) (meth := k10m0) (c := k10c0) (by decide +kernel) rfl rfl rfl (by decide +kernel)
set_option maxRecDepth 65536 in
theorem w_c6 : (Jvm.Cond.code ({ cls := "needlework/Skip", name := "slot", desc := "(I)I" } : Jvm.MethodName) prog_20_method_5_code (2 : Nat) (Option.some Jvm.ClassFile.FieldType.int)).before args0 about1 = true := code_word (m := ⟨2, 4⟩) (meth := k2m4) (c := k2c4) (by decide +kernel) rfl rfl rfl (by decide +kernel)
set_option maxRecDepth 65536 in
theorem w_c7 : (Jvm.Cond.code ({ cls := "needlework/Text", name := "ungram", desc := "(II)I" } : Jvm.MethodName) prog_24_method_12_code (2 : Nat) (Option.some Jvm.ClassFile.FieldType.int)).before args0 about1 = true := code_word (m := ⟨10, 1⟩) (meth := k10m1) (c := k10c1) (by decide +kernel) rfl rfl rfl (by decide +kernel)
set_option maxRecDepth 65536 in
theorem w_c8 : (Jvm.Cond.code ({ cls := "needlework/Skip", name := "absent", desc := "(I)Z" } : Jvm.MethodName) prog_20_method_4_code (2 : Nat) (Option.some Jvm.ClassFile.FieldType.boolean)).before args0 about1 = true := code_word (m := ⟨2, 3⟩) (meth := k2m3) (c := k2c3) (by decide +kernel) rfl rfl rfl (by decide +kernel)
set_option maxRecDepth 65536 in
theorem w_c9 : (Jvm.Cond.code ({ cls := "needlework/Skip", name := "shift", desc := "(I)I" } : Jvm.MethodName) prog_20_method_3_code (3 : Nat) (Option.some Jvm.ClassFile.FieldType.int)).before args0 about1 = true := code_word (m := ⟨2, 2⟩) (meth := k2m2) (c := k2c2) (by decide +kernel) rfl rfl rfl (by decide +kernel)
set_option maxRecDepth 65536 in
theorem w_c10 : (Jvm.Cond.code ({ cls := "java/lang/Byte", name := "toUnsignedInt", desc := "(B)I" } : Jvm.MethodName) jdk_2056_method_24_code (1 : Nat) (Option.some Jvm.ClassFile.FieldType.int)).before args0 about1 = true := code_word (m := ⟨11, 0⟩) (meth := k11m0) (c := k11c0) (by decide +kernel) rfl rfl rfl (by decide +kernel)
set_option maxRecDepth 65536 in
theorem w_c11 : (Jvm.Cond.code ({ cls := "needlework/Skip", name := "full", desc := "()I" } : Jvm.MethodName) prog_20_method_2_code (1 : Nat) (Option.some Jvm.ClassFile.FieldType.int)).before args0 about1 = true := code_word (m := ⟨2, 1⟩) (meth := k2m1) (c := k2c1) (by decide +kernel) rfl rfl rfl (by decide +kernel)
set_option maxRecDepth 65536 in
theorem w_c12 : (Jvm.Cond.code ({ cls := "java/lang/Math", name := "max", desc := "(II)I" } : Jvm.MethodName) jdk_29_method_65_code (2 : Nat) (Option.some Jvm.ClassFile.FieldType.int)).before args0 about1 = true := code_word (m := ⟨9, 1⟩) (meth := k9m1) (c := k9c1) (by decide +kernel) rfl rfl rfl (by decide +kernel)
def codes1 : List Jvm.Cond := [Jvm.Cond.code x code maxLocals ret, Jvm.Cond.code ({ cls := "needlework/Skip", name := "<init>", desc := "([I)V" } : Jvm.MethodName) prog_20_method_1_code (7 : Nat) (Option.none : Option Jvm.ClassFile.FieldType), Jvm.Cond.code ({ cls := "java/lang/Object", name := "<init>", desc := "()V" } : Jvm.MethodName) object_method_1_code (1 : Nat) (Option.none : Option Jvm.ClassFile.FieldType), Jvm.Cond.code ({ cls := "java/lang/Integer", name := "numberOfLeadingZeros", desc := "(I)I" } : Jvm.MethodName) jdk_33_method_47_code (2 : Nat) (Option.some Jvm.ClassFile.FieldType.int), Jvm.Cond.code ({ cls := "java/lang/Math", name := "min", desc := "(II)I" } : Jvm.MethodName) jdk_29_method_69_code (2 : Nat) (Option.some Jvm.ClassFile.FieldType.int), Jvm.Cond.code ({ cls := "needlework/Text", name := "gram", desc := "(II)I" } : Jvm.MethodName) prog_24_method_11_code (2 : Nat) (Option.some Jvm.ClassFile.FieldType.int), Jvm.Cond.code ({ cls := "needlework/Skip", name := "slot", desc := "(I)I" } : Jvm.MethodName) prog_20_method_5_code (2 : Nat) (Option.some Jvm.ClassFile.FieldType.int), Jvm.Cond.code ({ cls := "needlework/Text", name := "ungram", desc := "(II)I" } : Jvm.MethodName) prog_24_method_12_code (2 : Nat) (Option.some Jvm.ClassFile.FieldType.int), Jvm.Cond.code ({ cls := "needlework/Skip", name := "absent", desc := "(I)Z" } : Jvm.MethodName) prog_20_method_4_code (2 : Nat) (Option.some Jvm.ClassFile.FieldType.boolean), Jvm.Cond.code ({ cls := "needlework/Skip", name := "shift", desc := "(I)I" } : Jvm.MethodName) prog_20_method_3_code (3 : Nat) (Option.some Jvm.ClassFile.FieldType.int), Jvm.Cond.code ({ cls := "java/lang/Byte", name := "toUnsignedInt", desc := "(B)I" } : Jvm.MethodName) jdk_2056_method_24_code (1 : Nat) (Option.some Jvm.ClassFile.FieldType.int), Jvm.Cond.code ({ cls := "needlework/Skip", name := "full", desc := "()I" } : Jvm.MethodName) prog_20_method_2_code (1 : Nat) (Option.some Jvm.ClassFile.FieldType.int), Jvm.Cond.code ({ cls := "java/lang/Math", name := "max", desc := "(II)I" } : Jvm.MethodName) jdk_29_method_65_code (2 : Nat) (Option.some Jvm.ClassFile.FieldType.int)]
set_option maxRecDepth 65536 in
theorem codes_eq : words1.filter isCode = codes1 := rfl
theorem w_codes : ∀ c ∈ words1.filter isCode, c.before args0 about1 = true := by
  rw [codes_eq]
  intro c hc
  simp only [codes1, List.mem_cons, List.not_mem_nil, or_false] at hc
  rcases hc with rfl | rfl | rfl | rfl | rfl | rfl | rfl | rfl | rfl | rfl | rfl | rfl | rfl
  · exact w_c0
  · exact w_c1
  · exact w_c2
  · exact w_c3
  · exact w_c4
  · exact w_c5
  · exact w_c6
  · exact w_c7
  · exact w_c8
  · exact w_c9
  · exact w_c10
  · exact w_c11
  · exact w_c12
set_option maxRecDepth 65536 in
theorem w_t1 : (words1.take 24).all (fun c => isCode c || c.before args0 about1) = true := by decide +kernel
set_option maxRecDepth 65536 in
theorem w_t2 : ((words1.drop 24).take 24).all (fun c => isCode c || c.before args0 about1) = true := by decide +kernel
set_option maxRecDepth 65536 in
theorem w_t3 : ((words1.drop 24).drop 24).all (fun c => isCode c || c.before args0 about1) = true := by decide +kernel
theorem w_tables : (allAtoms (Jvm.Cond.code x code maxLocals ret :: tables_1)).before args0 about1 = true := by
  rw [allAtoms_all]
  show words1.all (fun c => c.before args0 about1) = true
  refine all_split ?_ w_codes
  rw [← List.take_append_drop 24 words1, List.all_append, w_t1, ← List.take_append_drop 24 (words1.drop 24), List.all_append, w_t2, w_t3]
  rfl
set_option maxRecDepth 65536 in
theorem w_case : (Jvm.Cond.and given_1 narrow_1).before args0 about1 = true := by decide +kernel
theorem w_applies : (headSpec (Jvm.Cond.code x code maxLocals ret :: tables_1) room_1).applies x e0.platform about1 = true :=
  (Spec.applies_iff w_frames).mpr ⟨w_running, w_runnable, w_alone, w_named, w_hears, w_ripe, w_room, w_tables⟩
theorem atStart : AtStart classFile x code maxLocals ret World_1 tables_1 room_1 Calls_1 rest_1 Pre_1 launch0 p0 e0 about1 theMethod args0 below0 :=
  ⟨lists_1, trivial, launch0.admits_env _ _ _, launch0.least_env, fairChoices_fair.cas, fairChoices_fair.clock, w_frames, w_args, w_heap, w_applies, trivial, trivial, w_case⟩
end start1
theorem witness_1 : WitnessClaimed_1 := ⟨start1.p0, start1.e0, start1.about1, start1.theMethod, start1.args0, start1.below0, start1.atStart⟩
end Jvm.Pilot.@@N@@
