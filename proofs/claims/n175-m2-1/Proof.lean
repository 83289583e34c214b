import JvmDerived
import JvmDerived.Pilot.@@N@@Statement
import JvmDerived.Pilot.@@N@@Code
set_option linter.unusedVariables false
set_option linter.unusedSimpArgs false
namespace Jvm.RoadKit
open Sem ClassFile Op Lib Jvm.Stand Jvm.Free Jvm.LawKit
section OwnGo
variable {p : Program} {l : Launch} {e : Env} {R : Room} {s : State} {m : MethodId} {args : Array Value} {below : List Frame} {meth : Method} {c : Code} {T : State} {locs : List Loc} {cells slots : Nat} {Z : State} {a0 : Array Value} {h : Heap} {Q : Option Value → Heap → List Loc → Prop} {P : Option Value → State → Prop} {K N : Nat} {by_ : ByteArray} {pc pc' : Nat} {Ls : Array Slot} {rest : List Value}
/-- from S the run comes to its end, and P says what it leaves -/
def Go (p : Program) (e : Env) (below : List Frame) (P : Option Value → State → Prop) (S : State) : Prop :=
  ∃ U v, Steps p.tables e below S U ∧ U.status = .running ∧ Ended U below (.returned v) ∧ P v U
/-- an end within a frame: the narrow one, and the wide one (String constants may have been interned) -/
def Nr (s : State) (Q : Option Value → Heap → List Loc → Prop) (K N : Nat) (v : Option Value) (U : State) : Prop := ∃ L, Q v U.heap L ∧ FrameEnd s (.returned v) U L K N
def Wd (s : State) (Q : Option Value → Heap → List Loc → Prop) (K N : Nat) (v : Option Value) (U : State) : Prop := ∃ L, Q v U.heap L ∧ ReturnedEndW s (.returned v) U L K N
theorem Go.st {A B : State} (f : ∀ t, Steps p.tables e below A t → Steps p.tables e below B t) (k : Go p e below P A) : Go p e below P B := by
  obtain ⟨U, v, h1, h2⟩ := k
  exact ⟨U, v, f _ h1, h2⟩
theorem Go.via {A B : State} (f : Steps p.tables e below B A) (k : Go p e below P A) : Go p e below P B := by
  obtain ⟨U, v, h1, h2⟩ := k
  exact ⟨U, v, f.trans h1, h2⟩
/-- the contract of a body -/
abbrev Con (l : Launch) (Z : State) (y : MethodName) (bytes : ByteArray) (maxL : Nat) (ret : Option FieldType) (ws : List Jvm.Cond) (rm : Room) (as : Array Value) (h : Heap) (Q : Option Value → Heap → List Loc → Prop) : Prop :=
  MetFree l y (head1 (Jvm.Cond.code y bytes maxL ret :: ws) rm) (fun a U => a = as ∧ Z.Warmed39 U.vm ∧ U.heap = h) (fun _ _ _ _ _ => True) (fun _ U o U' => ∃ v L, o = .returned v ∧ Q v U'.heap L ∧ FrameEnd U o U' L rm.cells rm.slots)
theorem Con.of {y : MethodName} {bytes : ByteArray} {maxL : Nat} {ret : Option FieldType} {ws : List Jvm.Cond} {rm : Room} {as : Array Value} (hpn : plainFor y = true)
    (body : ∀ (p : Program) (e : Env) (s : State) (m : MethodId) (below : List Frame) (meth : Method) (c : Code) (s₁ : State), p.tables.exec = Jvm.exec → c.code = bytes → c.maxLocals = maxL → s.vm.findClass y.cls = some m.cls → meth.name = y.name → meth.sig.returnType = ret → meth.locks = false → Z.Warmed39 s.vm →
      Stand p l e rm s m as below meth c s₁ [] 0 0 → s₁.heap = h → Go p e below (Nr s Q rm.cells rm.slots) (s₁.setTop (entryFrame m as maxL))) : Con l Z y bytes maxL ret ws rm as h Q := by
  refine MetFree.of_bodySF hpn hisR ?_
  intro p e s m args below meth c s₁ Bd hml0 hP hK
  obtain ⟨rfl, hZ, hh⟩ := hP
  have hown := findClass_of_methodNamed Bd.named
  have hnm := (name_of_methodNamed Bd.named Bd.method).1
  have X0 := Stand.of_body Bd
  have e0 : s₁.heap = h := by rw [← hh, Bd.state]; rfl
  obtain ⟨U, v, h1, h2, h3, L, h4, h5⟩ := body p e s m below meth c s₁ Bd.exec Bd.bytes hml0 hown hnm Bd.returns Bd.notSynchronized hZ X0 e0
  exact ⟨U, _, h1, h2, h3, v, L, rfl, h4, h5⟩
theorem Go.cast {g g' : JFrame} (q : g = g') (k : Go p e below P (T.setTop g')) : Go p e below P (T.setTop g) := q ▸ k
/-- a body that only reads numbers: what it returns, and nothing moved -/
def PQ (w : Option Value) (h0 : Heap) (v : Option Value) (h : Heap) (L : List Loc) : Prop := v = w ∧ L = [] ∧ h = h0
theorem Go.end_ {w : Option Value} {A : State} (X : Stand p l e R s m args below meth c T locs cells slots) (hlk : meth.locks = false) (hr0 : meth.sig.returnType = none → w = none) (f : ∀ fs, (∀ (f : JFrame) (acts : List Action), f.method = m → f.locked = none → f.entered = [] → (doReturn e (T.setTop f) acts w).1 = T.setFrames fs) → Steps p.tables e below A (T.setFrames fs))
    (hc : cells ≤ K) (hn : slots ≤ N) (q : Q w T.heap locs) : Go p e below (Nr s Q K N) A := by
  obtain ⟨fs, hr, hrun, hended, hW, hsame⟩ := X.leave (v := w) hr0 hlk
  exact ⟨_, _, f fs hr, hrun, hended, locs, q, ⟨_, rfl⟩, hW, hsame.mono hc hn⟩
theorem Go.ret0 (X : Stand p l e R s m args below meth c T locs cells slots) (hx : p.tables.exec = Jvm.exec) (hby : c.code = by_) (hlk : meth.locks = false) (hret : meth.sig.returnType = none) (hd : decode by_ pc = .ok (.return_, 1)) (hc : cells ≤ K) (hn : slots ≤ N) (q : Q none T.heap locs) : Go p e below (Nr s Q K N) (T.setTop (mkF m pc Ls [])) :=
  Go.end_ X hlk (fun _ => rfl) (fun fs hr => X.returnOut hx hret (hb hby hd) hr) hc hn q
theorem Go.retV {w : Value} {t : FieldType} {i : Instr} (X : Stand p l e R s m args below meth c T locs cells slots) (hx : p.tables.exec = Jvm.exec) (hby : c.code = by_) (hlk : meth.locks = false) (hret : meth.sig.returnType = some t) (hnw : narrow t w = w)
    (hi : (i = .ireturn ∧ (t = .int ∨ t = .boolean ∨ t = .byte ∨ t = .char ∨ t = .short) ∧ ∃ z, w = .int z) ∨ (i = .lreturn ∧ t = .long ∧ ∃ z, w = .long z) ∨ (i = .dreturn ∧ t = .double ∧ ∃ z, w = .double z) ∨ (i = .freturn ∧ t = .float ∧ ∃ z, w = .float z) ∨ (i = .areturn ∧ t.isReference = true ∧ w.isRef = true))
    (hd : decode by_ pc = .ok (i, 1)) (hc : cells ≤ K) (hn : slots ≤ N) (q : Q (some w) T.heap locs) : Go p e below (Nr s Q K N) (T.setTop (mkF m pc Ls (w :: rest))) :=
  Go.end_ X hlk (fun h => by rw [hret] at h; cases h) (fun fs hr => retOut X hx hret hnw hi (hb hby hd) hr) hc hn q
theorem Go.retI {z : Int32} (X : Stand p l e R s m args below meth c T locs cells slots) (hx : p.tables.exec = Jvm.exec) (hby : c.code = by_) (hlk : meth.locks = false) (hret : meth.sig.returnType = some .int) (hd : decode by_ pc = .ok (.ireturn, 1)) (hc : cells ≤ K) (hn : slots ≤ N) (q : Q (some (.int z)) T.heap locs) : Go p e below (Nr s Q K N) (T.setTop (mkF m pc Ls (.int z :: rest))) :=
  Go.retV X hx hby hlk hret rfl (Or.inl ⟨rfl, Or.inl rfl, z, rfl⟩) hd hc hn q
theorem Go.retZ {z : Int32} {t : FieldType} (X : Stand p l e R s m args below meth c T locs cells slots) (hx : p.tables.exec = Jvm.exec) (hby : c.code = by_) (hlk : meth.locks = false) (hret : meth.sig.returnType = some t) (ht : t = .boolean ∨ t = .byte ∨ t = .char ∨ t = .short) (hd : decode by_ pc = .ok (.ireturn, 1)) (hc : cells ≤ K) (hn : slots ≤ N) (q : Q (some (.int (nar t z))) T.heap locs) : Go p e below (Nr s Q K N) (T.setTop (mkF m pc Ls (.int z :: rest))) :=
  Go.end_ X hlk (fun h => by rw [hret] at h; cases h) (fun fs hr => retN X hx hret ht (hb hby hd) hr) hc hn q
theorem Go.retJ {z : Int64} (X : Stand p l e R s m args below meth c T locs cells slots) (hx : p.tables.exec = Jvm.exec) (hby : c.code = by_) (hlk : meth.locks = false) (hret : meth.sig.returnType = some .long) (hd : decode by_ pc = .ok (.lreturn, 1)) (hc : cells ≤ K) (hn : slots ≤ N) (q : Q (some (.long z)) T.heap locs) : Go p e below (Nr s Q K N) (T.setTop (mkF m pc Ls (.long z :: rest))) :=
  Go.retV X hx hby hlk hret rfl (Or.inr (Or.inl ⟨rfl, rfl, z, rfl⟩)) hd hc hn q
theorem Go.retA {w : Value} {t : FieldType} (X : Stand p l e R s m args below meth c T locs cells slots) (hx : p.tables.exec = Jvm.exec) (hby : c.code = by_) (hlk : meth.locks = false) (hret : meth.sig.returnType = some t) (hnw : narrow t w = w) (ht : t.isReference = true) (hw : w.isRef = true) (hd : decode by_ pc = .ok (.areturn, 1)) (hc : cells ≤ K) (hn : slots ≤ N) (q : Q (some w) T.heap locs) : Go p e below (Nr s Q K N) (T.setTop (mkF m pc Ls (w :: rest))) :=
  Go.retV X hx hby hlk hret hnw (Or.inr (Or.inr (Or.inr (Or.inr ⟨rfl, ht, hw⟩)))) hd hc hn q
def icP : ClassFile.Cond → Int32 → Int32 → Prop
  | .eq, x, y => x = y
  | .ne, x, y => x ≠ y
  | .lt, x, y => x < y
  | .ge, x, y => y ≤ x
  | .gt, x, y => y < x
  | .le, x, y => x ≤ y
theorem icP_iff (cd : ClassFile.Cond) (x y : Int32) : if_icmp.holds cd x y = true ↔ icP cd x y := by cases cd <;> simp [if_icmp.holds, icP]
theorem icP_not {cd : ClassFile.Cond} {x y : Int32} (q : ¬ icP cd x y) : if_icmp.holds cd x y = false := by
  cases hq : if_icmp.holds cd x y
  · rfl
  · exact absurd ((icP_iff cd x y).mp hq) q

theorem Go.iadd {x y : Int32} (X : Stand p l e R s m args below meth c T locs cells slots) (hx : p.tables.exec = Jvm.exec) (hby : c.code = by_) (hd : decode by_ pc = .ok (.iadd, 1)) (hp : pc + 1 = pc') (k : Go p e below P (T.setTop (mkF m pc' Ls (.int (x + y) :: rest)))) : Go p e below P (T.setTop (mkF m pc Ls (.int y :: .int x :: rest))) := by
  subst hp; exact Go.st (fun t k => XS.iadd X.here hx rfl (hb hby hd) rfl k) k
theorem Go.isub {x y : Int32} (X : Stand p l e R s m args below meth c T locs cells slots) (hx : p.tables.exec = Jvm.exec) (hby : c.code = by_) (hd : decode by_ pc = .ok (.isub, 1)) (hp : pc + 1 = pc') (k : Go p e below P (T.setTop (mkF m pc' Ls (.int (x - y) :: rest)))) : Go p e below P (T.setTop (mkF m pc Ls (.int y :: .int x :: rest))) := by
  subst hp; exact Go.st (fun t k => XS.isub X.here hx rfl (hb hby hd) rfl k) k
theorem Go.imul {x y : Int32} (X : Stand p l e R s m args below meth c T locs cells slots) (hx : p.tables.exec = Jvm.exec) (hby : c.code = by_) (hd : decode by_ pc = .ok (.imul, 1)) (hp : pc + 1 = pc') (k : Go p e below P (T.setTop (mkF m pc' Ls (.int (x * y) :: rest)))) : Go p e below P (T.setTop (mkF m pc Ls (.int y :: .int x :: rest))) := by
  subst hp; exact Go.st (fun t k => XS.imul X.here hx rfl (hb hby hd) rfl k) k
theorem Go.iand {x y : Int32} (X : Stand p l e R s m args below meth c T locs cells slots) (hx : p.tables.exec = Jvm.exec) (hby : c.code = by_) (hd : decode by_ pc = .ok (.iand, 1)) (hp : pc + 1 = pc') (k : Go p e below P (T.setTop (mkF m pc' Ls (.int (x &&& y) :: rest)))) : Go p e below P (T.setTop (mkF m pc Ls (.int y :: .int x :: rest))) := by
  subst hp; exact Go.st (fun t k => XS.iand X.here hx rfl (hb hby hd) rfl k) k
theorem Go.ior {x y : Int32} (X : Stand p l e R s m args below meth c T locs cells slots) (hx : p.tables.exec = Jvm.exec) (hby : c.code = by_) (hd : decode by_ pc = .ok (.ior, 1)) (hp : pc + 1 = pc') (k : Go p e below P (T.setTop (mkF m pc' Ls (.int (x ||| y) :: rest)))) : Go p e below P (T.setTop (mkF m pc Ls (.int y :: .int x :: rest))) := by
  subst hp; exact Go.st (fun t k => XS.ior X.here hx rfl (hb hby hd) rfl k) k
theorem Go.ixor {x y : Int32} (X : Stand p l e R s m args below meth c T locs cells slots) (hx : p.tables.exec = Jvm.exec) (hby : c.code = by_) (hd : decode by_ pc = .ok (.ixor, 1)) (hp : pc + 1 = pc') (k : Go p e below P (T.setTop (mkF m pc' Ls (.int (x ^^^ y) :: rest)))) : Go p e below P (T.setTop (mkF m pc Ls (.int y :: .int x :: rest))) := by
  subst hp; exact Go.st (fun t k => XS.ixor X.here hx rfl (hb hby hd) rfl k) k
theorem Go.ladd {x y : Int64} (X : Stand p l e R s m args below meth c T locs cells slots) (hx : p.tables.exec = Jvm.exec) (hby : c.code = by_) (hd : decode by_ pc = .ok (.ladd, 1)) (hp : pc + 1 = pc') (k : Go p e below P (T.setTop (mkF m pc' Ls (.long (x + y) :: rest)))) : Go p e below P (T.setTop (mkF m pc Ls (.long y :: .long x :: rest))) := by
  subst hp; exact Go.st (fun t k => XS.ladd X.here hx rfl (hb hby hd) rfl k) k
theorem Go.lsub {x y : Int64} (X : Stand p l e R s m args below meth c T locs cells slots) (hx : p.tables.exec = Jvm.exec) (hby : c.code = by_) (hd : decode by_ pc = .ok (.lsub, 1)) (hp : pc + 1 = pc') (k : Go p e below P (T.setTop (mkF m pc' Ls (.long (x - y) :: rest)))) : Go p e below P (T.setTop (mkF m pc Ls (.long y :: .long x :: rest))) := by
  subst hp; exact Go.st (fun t k => XS.lsub X.here hx rfl (hb hby hd) rfl k) k
theorem Go.lmul {x y : Int64} (X : Stand p l e R s m args below meth c T locs cells slots) (hx : p.tables.exec = Jvm.exec) (hby : c.code = by_) (hd : decode by_ pc = .ok (.lmul, 1)) (hp : pc + 1 = pc') (k : Go p e below P (T.setTop (mkF m pc' Ls (.long (x * y) :: rest)))) : Go p e below P (T.setTop (mkF m pc Ls (.long y :: .long x :: rest))) := by
  subst hp; exact Go.st (fun t k => XS.lmul X.here hx rfl (hb hby hd) rfl k) k
theorem Go.land {x y : Int64} (X : Stand p l e R s m args below meth c T locs cells slots) (hx : p.tables.exec = Jvm.exec) (hby : c.code = by_) (hd : decode by_ pc = .ok (.land, 1)) (hp : pc + 1 = pc') (k : Go p e below P (T.setTop (mkF m pc' Ls (.long (x &&& y) :: rest)))) : Go p e below P (T.setTop (mkF m pc Ls (.long y :: .long x :: rest))) := by
  subst hp; exact Go.st (fun t k => XS.land X.here hx rfl (hb hby hd) rfl k) k
theorem Go.lor {x y : Int64} (X : Stand p l e R s m args below meth c T locs cells slots) (hx : p.tables.exec = Jvm.exec) (hby : c.code = by_) (hd : decode by_ pc = .ok (.lor, 1)) (hp : pc + 1 = pc') (k : Go p e below P (T.setTop (mkF m pc' Ls (.long (x ||| y) :: rest)))) : Go p e below P (T.setTop (mkF m pc Ls (.long y :: .long x :: rest))) := by
  subst hp; exact Go.st (fun t k => XS.lor X.here hx rfl (hb hby hd) rfl k) k
theorem Go.lxor {x y : Int64} (X : Stand p l e R s m args below meth c T locs cells slots) (hx : p.tables.exec = Jvm.exec) (hby : c.code = by_) (hd : decode by_ pc = .ok (.lxor, 1)) (hp : pc + 1 = pc') (k : Go p e below P (T.setTop (mkF m pc' Ls (.long (x ^^^ y) :: rest)))) : Go p e below P (T.setTop (mkF m pc Ls (.long y :: .long x :: rest))) := by
  subst hp; exact Go.st (fun t k => XS.lxor X.here hx rfl (hb hby hd) rfl k) k
theorem Go.ishl {x y : Int32} (X : Stand p l e R s m args below meth c T locs cells slots) (hx : p.tables.exec = Jvm.exec) (hby : c.code = by_) (hd : decode by_ pc = .ok (.ishl, 1)) (hp : pc + 1 = pc') (k : Go p e below P (T.setTop (mkF m pc' Ls (.int (x <<< (y &&& 31)) :: rest)))) : Go p e below P (T.setTop (mkF m pc Ls (.int y :: .int x :: rest))) := by
  subst hp; exact Go.st (fun t k => XS.ishl X.here hx rfl (hb hby hd) rfl k) k
theorem Go.ishr {x y : Int32} (X : Stand p l e R s m args below meth c T locs cells slots) (hx : p.tables.exec = Jvm.exec) (hby : c.code = by_) (hd : decode by_ pc = .ok (.ishr, 1)) (hp : pc + 1 = pc') (k : Go p e below P (T.setTop (mkF m pc' Ls (.int (x >>> (y &&& 31)) :: rest)))) : Go p e below P (T.setTop (mkF m pc Ls (.int y :: .int x :: rest))) := by
  subst hp; exact Go.st (fun t k => XS.ishr X.here hx rfl (hb hby hd) rfl k) k
theorem Go.iushr {x y : Int32} (X : Stand p l e R s m args below meth c T locs cells slots) (hx : p.tables.exec = Jvm.exec) (hby : c.code = by_) (hd : decode by_ pc = .ok (.iushr, 1)) (hp : pc + 1 = pc') (k : Go p e below P (T.setTop (mkF m pc' Ls (.int ((x.toUInt32 >>> (y &&& 31).toUInt32).toInt32) :: rest)))) : Go p e below P (T.setTop (mkF m pc Ls (.int y :: .int x :: rest))) := by
  subst hp; exact Go.st (fun t k => XS.iushr X.here hx rfl (hb hby hd) rfl k) k
theorem Go.lshl {x : Int64} {y : Int32} (X : Stand p l e R s m args below meth c T locs cells slots) (hx : p.tables.exec = Jvm.exec) (hby : c.code = by_) (hd : decode by_ pc = .ok (.lshl, 1)) (hp : pc + 1 = pc') (k : Go p e below P (T.setTop (mkF m pc' Ls (.long (x <<< (y &&& 0x3f).toInt64) :: rest)))) : Go p e below P (T.setTop (mkF m pc Ls (.int y :: .long x :: rest))) := by
  subst hp; exact Go.st (fun t k => XS.lshl X.here hx rfl (hb hby hd) rfl k) k
theorem Go.lshr {x : Int64} {y : Int32} (X : Stand p l e R s m args below meth c T locs cells slots) (hx : p.tables.exec = Jvm.exec) (hby : c.code = by_) (hd : decode by_ pc = .ok (.lshr, 1)) (hp : pc + 1 = pc') (k : Go p e below P (T.setTop (mkF m pc' Ls (.long (x >>> (y &&& 0x3f).toInt64) :: rest)))) : Go p e below P (T.setTop (mkF m pc Ls (.int y :: .long x :: rest))) := by
  subst hp; exact Go.st (fun t k => XS.lshr X.here hx rfl (hb hby hd) rfl k) k
theorem Go.lushr {x : Int64} {y : Int32} (X : Stand p l e R s m args below meth c T locs cells slots) (hx : p.tables.exec = Jvm.exec) (hby : c.code = by_) (hd : decode by_ pc = .ok (.lushr, 1)) (hp : pc + 1 = pc') (k : Go p e below P (T.setTop (mkF m pc' Ls (.long ((x.toUInt64 >>> (y &&& 0x3f).toInt64.toUInt64).toInt64) :: rest)))) : Go p e below P (T.setTop (mkF m pc Ls (.int y :: .long x :: rest))) := by
  subst hp; exact Go.st (fun t k => XS.lushr X.here hx rfl (hb hby hd) rfl k) k
theorem Go.ineg {x : Int32} (X : Stand p l e R s m args below meth c T locs cells slots) (hx : p.tables.exec = Jvm.exec) (hby : c.code = by_) (hd : decode by_ pc = .ok (.ineg, 1)) (hp : pc + 1 = pc') (k : Go p e below P (T.setTop (mkF m pc' Ls (.int (-x) :: rest)))) : Go p e below P (T.setTop (mkF m pc Ls (.int x :: rest))) := by
  subst hp; exact Go.st (fun t k => XS.ineg X.here hx rfl (hb hby hd) rfl k) k
theorem Go.lneg {x : Int64} (X : Stand p l e R s m args below meth c T locs cells slots) (hx : p.tables.exec = Jvm.exec) (hby : c.code = by_) (hd : decode by_ pc = .ok (.lneg, 1)) (hp : pc + 1 = pc') (k : Go p e below P (T.setTop (mkF m pc' Ls (.long (-x) :: rest)))) : Go p e below P (T.setTop (mkF m pc Ls (.long x :: rest))) := by
  subst hp; exact Go.st (fun t k => XS.lneg X.here hx rfl (hb hby hd) rfl k) k
theorem Go.i2b {x : Int32} (X : Stand p l e R s m args below meth c T locs cells slots) (hx : p.tables.exec = Jvm.exec) (hby : c.code = by_) (hd : decode by_ pc = .ok (.i2b, 1)) (hp : pc + 1 = pc') (k : Go p e below P (T.setTop (mkF m pc' Ls (.int (x.toInt8.toInt32) :: rest)))) : Go p e below P (T.setTop (mkF m pc Ls (.int x :: rest))) := by
  subst hp; exact Go.st (fun t k => XS.i2b X.here hx rfl (hb hby hd) rfl k) k
theorem Go.i2c {x : Int32} (X : Stand p l e R s m args below meth c T locs cells slots) (hx : p.tables.exec = Jvm.exec) (hby : c.code = by_) (hd : decode by_ pc = .ok (.i2c, 1)) (hp : pc + 1 = pc') (k : Go p e below P (T.setTop (mkF m pc' Ls (.int (x.toUInt32.toUInt16.toUInt32.toInt32) :: rest)))) : Go p e below P (T.setTop (mkF m pc Ls (.int x :: rest))) := by
  subst hp; exact Go.st (fun t k => XS.i2c X.here hx rfl (hb hby hd) rfl k) k
theorem Go.i2s {x : Int32} (X : Stand p l e R s m args below meth c T locs cells slots) (hx : p.tables.exec = Jvm.exec) (hby : c.code = by_) (hd : decode by_ pc = .ok (.i2s, 1)) (hp : pc + 1 = pc') (k : Go p e below P (T.setTop (mkF m pc' Ls (.int (x.toInt16.toInt32) :: rest)))) : Go p e below P (T.setTop (mkF m pc Ls (.int x :: rest))) := by
  subst hp; exact Go.st (fun t k => XS.i2s X.here hx rfl (hb hby hd) rfl k) k
theorem Go.i2l {x : Int32} (X : Stand p l e R s m args below meth c T locs cells slots) (hx : p.tables.exec = Jvm.exec) (hby : c.code = by_) (hd : decode by_ pc = .ok (.i2l, 1)) (hp : pc + 1 = pc') (k : Go p e below P (T.setTop (mkF m pc' Ls (.long (x.toInt64) :: rest)))) : Go p e below P (T.setTop (mkF m pc Ls (.int x :: rest))) := by
  subst hp; exact Go.st (fun t k => XS.i2l X.here hx rfl (hb hby hd) rfl k) k
theorem Go.l2i {x : Int64} (X : Stand p l e R s m args below meth c T locs cells slots) (hx : p.tables.exec = Jvm.exec) (hby : c.code = by_) (hd : decode by_ pc = .ok (.l2i, 1)) (hp : pc + 1 = pc') (k : Go p e below P (T.setTop (mkF m pc' Ls (.int (x.toInt32) :: rest)))) : Go p e below P (T.setTop (mkF m pc Ls (.long x :: rest))) := by
  subst hp; exact Go.st (fun t k => XS.l2i X.here hx rfl (hb hby hd) rfl k) k
theorem Go.lcmp {x y : Int64} (X : Stand p l e R s m args below meth c T locs cells slots) (hx : p.tables.exec = Jvm.exec) (hby : c.code = by_) (hd : decode by_ pc = .ok (.lcmp, 1)) (hp : pc + 1 = pc') (k : Go p e below P (T.setTop (mkF m pc' Ls (.int (lcmpW x y) :: rest)))) : Go p e below P (T.setTop (mkF m pc Ls (.long y :: .long x :: rest))) := by
  subst hp; exact Go.st (fun t k => XS.lcmp X.here hx rfl (hb hby hd) rfl k) k
theorem Go.idiv {x y : Int32} (X : Stand p l e R s m args below meth c T locs cells slots) (hx : p.tables.exec = Jvm.exec) (hby : c.code = by_) (hd : decode by_ pc = .ok (.idiv, 1)) (hp : pc + 1 = pc') (hy : y ≠ 0) (k : Go p e below P (T.setTop (mkF m pc' Ls (.int (x / y) :: rest)))) : Go p e below P (T.setTop (mkF m pc Ls (.int y :: .int x :: rest))) := by
  subst hp; exact Go.st (fun t k => XS.idiv X.here hx rfl (hb hby hd) rfl hy k) k
theorem Go.irem {x y : Int32} (X : Stand p l e R s m args below meth c T locs cells slots) (hx : p.tables.exec = Jvm.exec) (hby : c.code = by_) (hd : decode by_ pc = .ok (.irem, 1)) (hp : pc + 1 = pc') (hy : y ≠ 0) (k : Go p e below P (T.setTop (mkF m pc' Ls (.int (x % y) :: rest)))) : Go p e below P (T.setTop (mkF m pc Ls (.int y :: .int x :: rest))) := by
  subst hp; exact Go.st (fun t k => iremM X hx rfl (hb hby hd) rfl hy k) k
theorem Go.ldiv {x y : Int64} (X : Stand p l e R s m args below meth c T locs cells slots) (hx : p.tables.exec = Jvm.exec) (hby : c.code = by_) (hd : decode by_ pc = .ok (.ldiv, 1)) (hp : pc + 1 = pc') (hy : y ≠ 0) (k : Go p e below P (T.setTop (mkF m pc' Ls (.long (x / y) :: rest)))) : Go p e below P (T.setTop (mkF m pc Ls (.long y :: .long x :: rest))) := by
  subst hp; exact Go.st (fun t k => XS.ldiv X.here hx rfl (hb hby hd) rfl hy k) k
theorem Go.lrem {x y : Int64} (X : Stand p l e R s m args below meth c T locs cells slots) (hx : p.tables.exec = Jvm.exec) (hby : c.code = by_) (hd : decode by_ pc = .ok (.lrem, 1)) (hp : pc + 1 = pc') (hy : y ≠ 0) (k : Go p e below P (T.setTop (mkF m pc' Ls (.long (x - (x / y) * y) :: rest)))) : Go p e below P (T.setTop (mkF m pc Ls (.long y :: .long x :: rest))) := by
  subst hp; exact Go.st (fun t k => XS.lrem X.here hx rfl (hb hby hd) rfl hy k) k
theorem Go.dup {w : Value} (X : Stand p l e R s m args below meth c T locs cells slots) (hx : p.tables.exec = Jvm.exec) (hby : c.code = by_) (hd : decode by_ pc = .ok (.dup, 1)) (hp : pc + 1 = pc') (hc : w.category = 1) (k : Go p e below P (T.setTop (mkF m pc' Ls (w :: w :: rest)))) : Go p e below P (T.setTop (mkF m pc Ls (w :: rest))) := by
  subst hp; exact Go.st (fun t k => XS.dup X.here hx rfl (hb hby hd) rfl hc k) k
theorem Go.pop {w : Value} (X : Stand p l e R s m args below meth c T locs cells slots) (hx : p.tables.exec = Jvm.exec) (hby : c.code = by_) (hd : decode by_ pc = .ok (.pop, 1)) (hp : pc + 1 = pc') (hc : w.category = 1) (k : Go p e below P (T.setTop (mkF m pc' Ls rest))) : Go p e below P (T.setTop (mkF m pc Ls (w :: rest))) := by
  subst hp; exact Go.st (fun t k => XS.pop X.here hx rfl (hb hby hd) rfl hc k) k
theorem Go.dupX1 {w u : Value} (X : Stand p l e R s m args below meth c T locs cells slots) (hx : p.tables.exec = Jvm.exec) (hby : c.code = by_) (hd : decode by_ pc = .ok (.dup_x1, 1)) (hp : pc + 1 = pc') (hc : w.category = 1) (hc2 : u.category = 1) (k : Go p e below P (T.setTop (mkF m pc' Ls (w :: u :: w :: rest)))) : Go p e below P (T.setTop (mkF m pc Ls (w :: u :: rest))) := by
  subst hp; exact Go.st (fun t k => XS.dupX1 X.here hx rfl (hb hby hd) rfl hc hc2 k) k
theorem Go.dup2 {w u : Value} (X : Stand p l e R s m args below meth c T locs cells slots) (hx : p.tables.exec = Jvm.exec) (hby : c.code = by_) (hd : decode by_ pc = .ok (.dup2, 1)) (hp : pc + 1 = pc') (hc : w.category = 1) (hc2 : u.category = 1) (k : Go p e below P (T.setTop (mkF m pc' Ls (w :: u :: w :: u :: rest)))) : Go p e below P (T.setTop (mkF m pc Ls (w :: u :: rest))) := by
  subst hp; exact Go.st (fun t k => XT.dup2 X.here hx rfl (hb hby hd) rfl hc hc2 k) k
theorem Go.iconst {i : Int} {v : Int32} (X : Stand p l e R s m args below meth c T locs cells slots) (hx : p.tables.exec = Jvm.exec) (hby : c.code = by_) (hd : decode by_ pc = .ok (.iconst i, 1)) (hp : pc + 1 = pc') (hv : Int32.ofInt i = v) (k : Go p e below P (T.setTop (mkF m pc' Ls (.int v :: rest)))) : Go p e below P (T.setTop (mkF m pc Ls rest)) := by
  subst hp; exact Go.st (fun t k => XS.iconst X.here hx rfl (hb hby hd) (by rw [hv]; exact k)) k
theorem Go.bipush {i : Int} {v : Int32} (X : Stand p l e R s m args below meth c T locs cells slots) (hx : p.tables.exec = Jvm.exec) (hby : c.code = by_) (hd : decode by_ pc = .ok (.bipush i, 2)) (hp : pc + 2 = pc') (hv : (Int8.ofInt i).toInt32 = v) (k : Go p e below P (T.setTop (mkF m pc' Ls (.int v :: rest)))) : Go p e below P (T.setTop (mkF m pc Ls rest)) := by
  subst hp; exact Go.st (fun t k => XS.bipush X.here hx rfl (hb hby hd) (by rw [hv]; exact k)) k
theorem Go.sipush {i : Int} {v : Int32} (X : Stand p l e R s m args below meth c T locs cells slots) (hx : p.tables.exec = Jvm.exec) (hby : c.code = by_) (hd : decode by_ pc = .ok (.sipush i, 3)) (hp : pc + 3 = pc') (hv : (Int16.ofInt i).toInt32 = v) (k : Go p e below P (T.setTop (mkF m pc' Ls (.int v :: rest)))) : Go p e below P (T.setTop (mkF m pc Ls rest)) := by
  subst hp; exact Go.st (fun t k => XS.sipush X.here hx rfl (hb hby hd) (by rw [hv]; exact k)) k
theorem Go.lconst {i : Fin 2} {v : Int64} (X : Stand p l e R s m args below meth c T locs cells slots) (hx : p.tables.exec = Jvm.exec) (hby : c.code = by_) (hd : decode by_ pc = .ok (.lconst i, 1)) (hp : pc + 1 = pc') (hv : Int64.ofNat i = v) (k : Go p e below P (T.setTop (mkF m pc' Ls (.long v :: rest)))) : Go p e below P (T.setTop (mkF m pc Ls rest)) := by
  subst hp; exact Go.st (fun t k => XS.lconst X.here hx rfl (hb hby hd) (by rw [hv]; exact k)) k
theorem Go.aconstNull  (X : Stand p l e R s m args below meth c T locs cells slots) (hx : p.tables.exec = Jvm.exec) (hby : c.code = by_) (hd : decode by_ pc = .ok (.aconst_null, 1)) (hp : pc + 1 = pc') (k : Go p e below P (T.setTop (mkF m pc' Ls (.null :: rest)))) : Go p e below P (T.setTop (mkF m pc Ls rest)) := by
  subst hp; exact Go.st (fun t k => XS.aconstNull X.here hx rfl (hb hby hd) k) k
theorem Go.iloadN {i : Fin 4} {v : Int32} (X : Stand p l e R s m args below meth c T locs cells slots) (hx : p.tables.exec = Jvm.exec) (hby : c.code = by_) (hd : decode by_ pc = .ok (.iload_n i, 1)) (hp : pc + 1 = pc') (hl : Ls[i.val]? = some (.val (.int v))) (k : Go p e below P (T.setTop (mkF m pc' Ls (.int v :: rest)))) : Go p e below P (T.setTop (mkF m pc Ls rest)) := by
  subst hp; exact Go.st (fun t k => XS.iloadN X.here hx rfl (hb hby hd) hl k) k
theorem Go.iload {i : Nat} {v : Int32} (X : Stand p l e R s m args below meth c T locs cells slots) (hx : p.tables.exec = Jvm.exec) (hby : c.code = by_) (hd : decode by_ pc = .ok (.iload i, 2)) (hp : pc + 2 = pc') (hl : Ls[i]? = some (.val (.int v))) (k : Go p e below P (T.setTop (mkF m pc' Ls (.int v :: rest)))) : Go p e below P (T.setTop (mkF m pc Ls rest)) := by
  subst hp; exact Go.st (fun t k => XS.iload X.here hx rfl (hb hby hd) hl k) k
theorem Go.lloadN {i : Fin 4} {v : Int64} (X : Stand p l e R s m args below meth c T locs cells slots) (hx : p.tables.exec = Jvm.exec) (hby : c.code = by_) (hd : decode by_ pc = .ok (.lload_n i, 1)) (hp : pc + 1 = pc') (hl : Ls[i.val]? = some (.val (.long v))) (k : Go p e below P (T.setTop (mkF m pc' Ls (.long v :: rest)))) : Go p e below P (T.setTop (mkF m pc Ls rest)) := by
  subst hp; exact Go.st (fun t k => XS.lloadN X.here hx rfl (hb hby hd) hl k) k
theorem Go.lload {i : Nat} {v : Int64} (X : Stand p l e R s m args below meth c T locs cells slots) (hx : p.tables.exec = Jvm.exec) (hby : c.code = by_) (hd : decode by_ pc = .ok (.lload i, 2)) (hp : pc + 2 = pc') (hl : Ls[i]? = some (.val (.long v))) (k : Go p e below P (T.setTop (mkF m pc' Ls (.long v :: rest)))) : Go p e below P (T.setTop (mkF m pc Ls rest)) := by
  subst hp; exact Go.st (fun t k => XS.lload X.here hx rfl (hb hby hd) hl k) k
theorem Go.aloadN {i : Fin 4} {v : Value} (X : Stand p l e R s m args below meth c T locs cells slots) (hx : p.tables.exec = Jvm.exec) (hby : c.code = by_) (hd : decode by_ pc = .ok (.aload_n i, 1)) (hp : pc + 1 = pc') (hl : Ls[i.val]? = some (.val v)) (hv : v.isRef = true) (k : Go p e below P (T.setTop (mkF m pc' Ls (v :: rest)))) : Go p e below P (T.setTop (mkF m pc Ls rest)) := by
  subst hp; exact Go.st (fun t k => XS.aloadN X.here hx rfl (hb hby hd) hl hv k) k
theorem Go.aload {i : Nat} {v : Value} (X : Stand p l e R s m args below meth c T locs cells slots) (hx : p.tables.exec = Jvm.exec) (hby : c.code = by_) (hd : decode by_ pc = .ok (.aload i, 2)) (hp : pc + 2 = pc') (hl : Ls[i]? = some (.val v)) (hv : v.isRef = true) (k : Go p e below P (T.setTop (mkF m pc' Ls (v :: rest)))) : Go p e below P (T.setTop (mkF m pc Ls rest)) := by
  subst hp; exact Go.st (fun t k => XS.aload X.here hx rfl (hb hby hd) hl hv k) k
theorem Go.ldcI {own : String} {index : Nat} {v : Int32} (X : Stand p l e R s m args below meth c T locs cells slots) (hx : p.tables.exec = Jvm.exec) (hby : c.code = by_) (hd : decode by_ pc = .ok (.ldc index, 2)) (hp : pc + 2 = pc') (hown : s.vm.findClass own = some m.cls) (hk : (Jvm.Cond.constant own index v).before args s = true) (k : Go p e below P (T.setTop (mkF m pc' Ls (.int v :: rest)))) : Go p e below P (T.setTop (mkF m pc Ls rest)) := by
  subst hp; exact Go.st (fun t k => X.ldcI hx hown hk rfl (hb hby hd) k) k
theorem Go.ldcWI {own : String} {index : Nat} {v : Int32} (X : Stand p l e R s m args below meth c T locs cells slots) (hx : p.tables.exec = Jvm.exec) (hby : c.code = by_) (hd : decode by_ pc = .ok (.ldc_w index, 3)) (hp : pc + 3 = pc') (hown : s.vm.findClass own = some m.cls) (hk : (Jvm.Cond.constant own index v).before args s = true) (k : Go p e below P (T.setTop (mkF m pc' Ls (.int v :: rest)))) : Go p e below P (T.setTop (mkF m pc Ls rest)) := by
  subst hp; exact Go.st (fun t k => X.ldcWI hx hown hk rfl (hb hby hd) k) k
theorem Go.ldc2J {own : String} {index : Nat} {v : Int64} (X : Stand p l e R s m args below meth c T locs cells slots) (hx : p.tables.exec = Jvm.exec) (hby : c.code = by_) (hd : decode by_ pc = .ok (.ldc2_w index, 3)) (hp : pc + 3 = pc') (hown : s.vm.findClass own = some m.cls) (hk : (Jvm.Cond.constantLong own index v).before args s = true) (k : Go p e below P (T.setTop (mkF m pc' Ls (.long v :: rest)))) : Go p e below P (T.setTop (mkF m pc Ls rest)) := by
  subst hp; exact Go.st (fun t k => X.ldc2J hx hown hk rfl (hb hby hd) k) k
theorem Go.istoreN {i : Fin 4} {v : Int32} {Ls' : Array Slot} (X : Stand p l e R s m args below meth c T locs cells slots) (hx : p.tables.exec = Jvm.exec) (hby : c.code = by_) (hd : decode by_ pc = .ok (.istore_n i, 1)) (hp : pc + 1 = pc') (hl : storeLocals Ls i.val (.int v) = some Ls') (k : Go p e below P (T.setTop (mkF m pc' Ls' rest))) : Go p e below P (T.setTop (mkF m pc Ls (.int v :: rest))) := by
  subst hp; exact Go.st (fun t k => XS.istoreN X.here hx rfl (hb hby hd) rfl hl k) k
theorem Go.istore {i : Nat} {v : Int32} {Ls' : Array Slot} (X : Stand p l e R s m args below meth c T locs cells slots) (hx : p.tables.exec = Jvm.exec) (hby : c.code = by_) (hd : decode by_ pc = .ok (.istore i, 2)) (hp : pc + 2 = pc') (hl : storeLocals Ls i (.int v) = some Ls') (k : Go p e below P (T.setTop (mkF m pc' Ls' rest))) : Go p e below P (T.setTop (mkF m pc Ls (.int v :: rest))) := by
  subst hp; exact Go.st (fun t k => XS.istore X.here hx rfl (hb hby hd) rfl hl k) k
theorem Go.lstoreN {i : Fin 4} {v : Int64} {Ls' : Array Slot} (X : Stand p l e R s m args below meth c T locs cells slots) (hx : p.tables.exec = Jvm.exec) (hby : c.code = by_) (hd : decode by_ pc = .ok (.lstore_n i, 1)) (hp : pc + 1 = pc') (hl : storeLocals Ls i.val (.long v) = some Ls') (k : Go p e below P (T.setTop (mkF m pc' Ls' rest))) : Go p e below P (T.setTop (mkF m pc Ls (.long v :: rest))) := by
  subst hp; exact Go.st (fun t k => XS.lstoreN X.here hx rfl (hb hby hd) rfl hl k) k
theorem Go.lstore {i : Nat} {v : Int64} {Ls' : Array Slot} (X : Stand p l e R s m args below meth c T locs cells slots) (hx : p.tables.exec = Jvm.exec) (hby : c.code = by_) (hd : decode by_ pc = .ok (.lstore i, 2)) (hp : pc + 2 = pc') (hl : storeLocals Ls i (.long v) = some Ls') (k : Go p e below P (T.setTop (mkF m pc' Ls' rest))) : Go p e below P (T.setTop (mkF m pc Ls (.long v :: rest))) := by
  subst hp; exact Go.st (fun t k => XS.lstore X.here hx rfl (hb hby hd) rfl hl k) k
theorem Go.astoreN {i : Fin 4} {v : Value} {Ls' : Array Slot} (X : Stand p l e R s m args below meth c T locs cells slots) (hx : p.tables.exec = Jvm.exec) (hby : c.code = by_) (hd : decode by_ pc = .ok (.astore_n i, 1)) (hp : pc + 1 = pc') (hv : v.isRef = true) (hl : storeLocals Ls i.val v = some Ls') (k : Go p e below P (T.setTop (mkF m pc' Ls' rest))) : Go p e below P (T.setTop (mkF m pc Ls (v :: rest))) := by
  subst hp; exact Go.st (fun t k => XS.astoreN X.here hx rfl (hb hby hd) rfl hv hl k) k
theorem Go.astore {i : Nat} {v : Value} {Ls' : Array Slot} (X : Stand p l e R s m args below meth c T locs cells slots) (hx : p.tables.exec = Jvm.exec) (hby : c.code = by_) (hd : decode by_ pc = .ok (.astore i, 2)) (hp : pc + 2 = pc') (hv : v.isRef = true) (hl : storeLocals Ls i v = some Ls') (k : Go p e below P (T.setTop (mkF m pc' Ls' rest))) : Go p e below P (T.setTop (mkF m pc Ls (v :: rest))) := by
  subst hp; exact Go.st (fun t k => XS.astore X.here hx rfl (hb hby hd) rfl hv hl k) k
theorem Go.iinc {i : Nat} {cst : Int} {v w : Int32} {Ls' : Array Slot} (X : Stand p l e R s m args below meth c T locs cells slots) (hx : p.tables.exec = Jvm.exec) (hby : c.code = by_) (hd : decode by_ pc = .ok (.iinc i cst, 3)) (hp : pc + 3 = pc') (hl : Ls[i]? = some (.val (.int v))) (hv : v + Int32.ofInt cst = w) (hl' : storeLocals Ls i (.int w) = some Ls') (k : Go p e below P (T.setTop (mkF m pc' Ls' rest))) : Go p e below P (T.setTop (mkF m pc Ls rest)) := by
  subst hp hv; exact Go.st (fun t k => XS.iinc X.here hx rfl (hb hby hd) hl hl' k) k
theorem Go.goto {o : Int} (X : Stand p l e R s m args below meth c T locs cells slots) (hx : p.tables.exec = Jvm.exec) (hby : c.code = by_) (hd : decode by_ pc = .ok (.goto o, 3)) (ho : 0 ≤ (pc : Int) + o) (hp : ((pc : Int) + o).toNat = pc') (k : Go p e below P (T.setTop (mkF m pc' Ls rest))) : Go p e below P (T.setTop (mkF m pc Ls rest)) :=
  Go.st (fun t k => XS.goto X.here hx rfl rfl (hb hby hd) ho hp k) k
theorem Go.icmpY {cd : ClassFile.Cond} {o : Int} {x y : Int32} (X : Stand p l e R s m args below meth c T locs cells slots) (hx : p.tables.exec = Jvm.exec) (hby : c.code = by_) (hd : decode by_ pc = .ok (.if_icmp cd o, 3)) (ho : 0 ≤ (pc : Int) + o) (hp : ((pc : Int) + o).toNat = pc') (q : icP cd x y) (k : Go p e below P (T.setTop (mkF m pc' Ls rest))) : Go p e below P (T.setTop (mkF m pc Ls (.int y :: .int x :: rest))) :=
  Go.st (fun t k => XS.icmpYes X.here hx rfl rfl (hb hby hd) rfl ((icP_iff cd x y).mpr q) ho hp k) k
theorem Go.icmpN {cd : ClassFile.Cond} {o : Int} {x y : Int32} (X : Stand p l e R s m args below meth c T locs cells slots) (hx : p.tables.exec = Jvm.exec) (hby : c.code = by_) (hd : decode by_ pc = .ok (.if_icmp cd o, 3)) (hp : pc + 3 = pc') (q : ¬ icP cd x y) (k : Go p e below P (T.setTop (mkF m pc' Ls rest))) : Go p e below P (T.setTop (mkF m pc Ls (.int y :: .int x :: rest))) := by
  subst hp; exact Go.st (fun t k => XS.icmpNo X.here hx rfl (hb hby hd) rfl (icP_not q) k) k
theorem Go.icmp {cd : ClassFile.Cond} {o : Int} {x y : Int32} {pn : Nat} (X : Stand p l e R s m args below meth c T locs cells slots) (hx : p.tables.exec = Jvm.exec) (hby : c.code = by_) (hd : decode by_ pc = .ok (.if_icmp cd o, 3)) (ho : 0 ≤ (pc : Int) + o) (hp : ((pc : Int) + o).toNat = pc') (hp2 : pc + 3 = pn) (k : icP cd x y → Go p e below P (T.setTop (mkF m pc' Ls rest))) (k2 : ¬ icP cd x y → Go p e below P (T.setTop (mkF m pn Ls rest))) : Go p e below P (T.setTop (mkF m pc Ls (.int y :: .int x :: rest))) := by
  by_cases q : icP cd x y
  · exact Go.icmpY X hx hby hd ho hp q (k q)
  · exact Go.icmpN X hx hby hd hp2 q (k2 q)
theorem Go.ifY {cd : ClassFile.Cond} {o : Int} {x : Int32} (X : Stand p l e R s m args below meth c T locs cells slots) (hx : p.tables.exec = Jvm.exec) (hby : c.code = by_) (hd : decode by_ pc = .ok (.ifCond cd o, 3)) (ho : 0 ≤ (pc : Int) + o) (hp : ((pc : Int) + o).toNat = pc') (q : icP cd x 0) (k : Go p e below P (T.setTop (mkF m pc' Ls rest))) : Go p e below P (T.setTop (mkF m pc Ls (.int x :: rest))) :=
  Go.st (fun t k => XS.ifYes X.here hx rfl rfl (hb hby hd) rfl (by rw [if0]; exact (icP_iff cd x 0).mpr q) ho hp k) k
theorem Go.ifN {cd : ClassFile.Cond} {o : Int} {x : Int32} (X : Stand p l e R s m args below meth c T locs cells slots) (hx : p.tables.exec = Jvm.exec) (hby : c.code = by_) (hd : decode by_ pc = .ok (.ifCond cd o, 3)) (hp : pc + 3 = pc') (q : ¬ icP cd x 0) (k : Go p e below P (T.setTop (mkF m pc' Ls rest))) : Go p e below P (T.setTop (mkF m pc Ls (.int x :: rest))) := by
  subst hp; exact Go.st (fun t k => XS.ifNo X.here hx rfl (hb hby hd) rfl (by rw [if0]; exact icP_not q) k) k
theorem Go.if_ {cd : ClassFile.Cond} {o : Int} {x : Int32} {pn : Nat} (X : Stand p l e R s m args below meth c T locs cells slots) (hx : p.tables.exec = Jvm.exec) (hby : c.code = by_) (hd : decode by_ pc = .ok (.ifCond cd o, 3)) (ho : 0 ≤ (pc : Int) + o) (hp : ((pc : Int) + o).toNat = pc') (hp2 : pc + 3 = pn) (k : icP cd x 0 → Go p e below P (T.setTop (mkF m pc' Ls rest))) (k2 : ¬ icP cd x 0 → Go p e below P (T.setTop (mkF m pn Ls rest))) : Go p e below P (T.setTop (mkF m pc Ls (.int x :: rest))) := by
  by_cases q : icP cd x 0
  · exact Go.ifY X hx hby hd ho hp q (k q)
  · exact Go.ifN X hx hby hd hp2 q (k2 q)
theorem Go.ifnullY {o : Int} (X : Stand p l e R s m args below meth c T locs cells slots) (hx : p.tables.exec = Jvm.exec) (hby : c.code = by_) (hd : decode by_ pc = .ok (.ifnull o, 3)) (ho : 0 ≤ (pc : Int) + o) (hp : ((pc : Int) + o).toNat = pc') (k : Go p e below P (T.setTop (mkF m pc' Ls rest))) : Go p e below P (T.setTop (mkF m pc Ls (.null :: rest))) :=
  Go.st (fun t k => XS.ifnullYes X.here hx rfl rfl (hb hby hd) rfl ho hp k) k
theorem Go.ifnullN {o : Int} {b : Addr} (X : Stand p l e R s m args below meth c T locs cells slots) (hx : p.tables.exec = Jvm.exec) (hby : c.code = by_) (hd : decode by_ pc = .ok (.ifnull o, 3)) (hp : pc + 3 = pc') (k : Go p e below P (T.setTop (mkF m pc' Ls rest))) : Go p e below P (T.setTop (mkF m pc Ls (.ref b :: rest))) := by
  subst hp; exact Go.st (fun t k => XS.ifnullNo X.here hx rfl (hb hby hd) rfl k) k
theorem Go.ifnonnullY {o : Int} {b : Addr} (X : Stand p l e R s m args below meth c T locs cells slots) (hx : p.tables.exec = Jvm.exec) (hby : c.code = by_) (hd : decode by_ pc = .ok (.ifnonnull o, 3)) (ho : 0 ≤ (pc : Int) + o) (hp : ((pc : Int) + o).toNat = pc') (k : Go p e below P (T.setTop (mkF m pc' Ls rest))) : Go p e below P (T.setTop (mkF m pc Ls (.ref b :: rest))) :=
  Go.st (fun t k => XS.ifnonnullYes X.here hx rfl rfl (hb hby hd) rfl ho hp k) k
theorem Go.ifnonnullN {o : Int} (X : Stand p l e R s m args below meth c T locs cells slots) (hx : p.tables.exec = Jvm.exec) (hby : c.code = by_) (hd : decode by_ pc = .ok (.ifnonnull o, 3)) (hp : pc + 3 = pc') (k : Go p e below P (T.setTop (mkF m pc' Ls rest))) : Go p e below P (T.setTop (mkF m pc Ls (.null :: rest))) := by
  subst hp; exact Go.st (fun t k => XS.ifnonnullNo X.here hx rfl (hb hby hd) rfl k) k
theorem Go.acmpEq {o : Int} {b : Addr} (X : Stand p l e R s m args below meth c T locs cells slots) (hx : p.tables.exec = Jvm.exec) (hby : c.code = by_) (hd : decode by_ pc = .ok (.if_acmp .eq o, 3)) (ho : 0 ≤ (pc : Int) + o) (hp : ((pc : Int) + o).toNat = pc') (k : Go p e below P (T.setTop (mkF m pc' Ls rest))) : Go p e below P (T.setTop (mkF m pc Ls (.ref b :: .ref b :: rest))) :=
  Go.st (fun t k => acmp X hx rfl (x := .ref b) (y := .ref b) rfl rfl rfl (hb hby hd) rfl (same := true) (by simp) ho (hp.symm.trans (if_pos rfl).symm) k) k
theorem Go.callS {own : String} {index : Nat} {y : MethodName} {bytes : ByteArray} {maxL : Nat} {ret : Option FieldType} {rm : Room} {W : Nat} {as : Array Value} {Qc : Option Value → Heap → List Loc → Prop} {argsL st : List Value} {ps : List FieldType} {rt : Option FieldType} (X : Stand p l e R s m args below meth c T locs cells slots) (hx : p.tables.exec = Jvm.exec) (hby : c.code = by_) (hZ : Z.Warmed39 s.vm) (hown : s.vm.findClass own = some m.cls)
    (w1 : (Jvm.Cond.methodLink own index y).before a0 Z = true) (w2 : (Jvm.Cond.static y).before a0 Z = true) (w3 : (Jvm.Cond.initialized y.cls).before a0 Z = true) (w4 : (Jvm.Cond.code y bytes maxL ret).before a0 Z = true) (hy : y.cls ≠ "java/lang/invoke/MethodHandle" ∧ y.cls ≠ "java/lang/invoke/VarHandle")
    (hM : Con l Z y bytes maxL ret [] rm as h Qc) (eT : T.heap = h) (hf : rm.frames + 1 ≤ R.frames) (hl : W + (maxL + 11) + rm.locals ≤ R.locals) (hsize : Ls.size = c.maxLocals) (hpd : parseMethodDescriptor y.desc = some ⟨ps, rt⟩) (hlen : argsL.length = ps.length) (hst : st = argsL.reverse ++ rest) (has : argsL.toArray = as) (hW : 0 + (rest.map fun v => v.category).sum ≤ W)
    (hd : decode by_ pc = .ok (.invokestatic index, 3)) (hp : pc + 3 = pc') (hc : cells + rm.cells ≤ R.cells) (hs : slots + rm.slots ≤ R.slots)
    (k : ∀ (v : Option Value) (T' : State) (L : List Loc), Stand p l e R s m args below meth c T' (locs ++ L) (cells + rm.cells) (slots + rm.slots) → Qc v T'.heap L → Go p e below P (T'.setTop (mkF m pc' Ls (v.toList ++ rest)))) : Go p e below P (T.setTop (mkF m pc Ls st)) := by
  subst hp
  obtain ⟨v, _, ⟨T3, L3, k3, n3⟩, -, X3, ⟨Lc3, hQ3, l3, y3, z3⟩, st3⟩ := Jvm.LawKit.callS X hx (y := y) hown (mvT hZ w1) (mvT hZ w2) (mvT hZ w3) (mvT hZ w4) hy (backOf (W := W) hM hZ w4 w3 hf hl) (g := mkF m pc Ls st) rfl hsize (argsL := argsL) (rest := rest) (lenOf hpd hlen) hst hW (hb hby hd) (fun _ _ => ⟨has, eT, hc, hs⟩)
  dsimp only [Pt.U, Pt.locs, Pt.cells, Pt.slots] at X3 l3 y3 z3 st3 hQ3
  subst l3 y3 z3
  exact Go.st st3 (k v T3 Lc3 X3 hQ3)
theorem Go.callI {own : String} {index : Nat} {y : MethodName} {bytes : ByteArray} {maxL : Nat} {rm : Room} {W : Nat} {as : Array Value} {Qc : Option Value → Heap → List Loc → Prop} {argsL st : List Value} {ps : List FieldType} {rt : Option FieldType} {a : Addr} (X : Stand p l e R s m args below meth c T locs cells slots) (hx : p.tables.exec = Jvm.exec) (hby : c.code = by_) (hy1 : y.name = "<init>") (hZ : Z.Warmed39 s.vm) (hown : s.vm.findClass own = some m.cls)
    (w1 : (Jvm.Cond.methodLink own index y).before a0 Z = true) (w2 : (Jvm.Cond.instanceMethod y).before a0 Z = true) (w3 : (Jvm.Cond.initialized y.cls).before a0 Z = true) (w4 : (Jvm.Cond.code y bytes maxL none).before a0 Z = true) (hy : y.cls ≠ "java/lang/invoke/MethodHandle" ∧ y.cls ≠ "java/lang/invoke/VarHandle")
    (hM : Con l Z y bytes maxL none [] rm as h Qc) (eT : T.heap = h) (hf : rm.frames + 1 ≤ R.frames) (hl : W + (maxL + 11) + rm.locals ≤ R.locals) (hsize : Ls.size = c.maxLocals) (hpd : parseMethodDescriptor y.desc = some ⟨ps, rt⟩) (hlen : argsL.length = ps.length) (hst : st = argsL.reverse ++ .ref a :: rest) (has : (.ref a :: argsL).toArray = as) (hW : 0 + (rest.map fun v => v.category).sum ≤ W)
    (hd : decode by_ pc = .ok (.invokespecial index, 3)) (hp : pc + 3 = pc') (hc : cells + rm.cells ≤ R.cells) (hs : slots + rm.slots ≤ R.slots)
    (k : ∀ (v : Option Value) (T' : State) (L : List Loc), Stand p l e R s m args below meth c T' (locs ++ L) (cells + rm.cells) (slots + rm.slots) → Qc v T'.heap L → Go p e below P (T'.setTop (mkF m pc' Ls (v.toList ++ rest)))) : Go p e below P (T.setTop (mkF m pc Ls st)) := by
  subst hp
  obtain ⟨v, _, ⟨T3, L3, k3, n3⟩, -, X3, ⟨Lc3, hQ3, l3, y3, z3⟩, st3⟩ := X.specialBack hx (y := y) hy1 hown (mvT hZ w1) (mvT hZ w2) (mvT hZ w4) hy (backOf (W := W) hM hZ w4 w3 hf hl) (g := mkF m pc Ls st) rfl hsize (Steps.refl _) (a := a) (argsL := argsL) (rest := rest) (lenOf hpd hlen) hst hW (hb hby hd) (fun _ _ => ⟨has, eT, hc, hs⟩)
  dsimp only [Pt.U, Pt.locs, Pt.cells, Pt.slots] at X3 l3 y3 z3 st3 hQ3
  subst l3 y3 z3
  exact Go.via st3 (k v T3 Lc3 X3 hQ3)
theorem Go.callV {own C : String} {index : Nat} {y z : MethodName} {bytes : ByteArray} {maxL : Nat} {ret : Option FieldType} {rm : Room} {W : Nat} {as : Array Value} {Qc : Option Value → Heap → List Loc → Prop} {argsL st : List Value} {ps : List FieldType} {rt : Option FieldType} {a : Addr} (X : Stand p l e R s m args below meth c T locs cells slots) (hx : p.tables.exec = Jvm.exec) (hby : c.code = by_) (hZ : Z.Warmed39 s.vm) (hown : s.vm.findClass own = some m.cls)
    (w1 : (Jvm.Cond.methodLink own index y).before a0 Z = true) (w2 : (Jvm.Cond.declares y).before a0 Z = true) (hnf : NotFace s y) (w5 : (Jvm.Cond.selects C y z).before a0 Z = true) (w6 : (Jvm.Cond.instanceMethod z).before a0 Z = true) (w3 : (Jvm.Cond.initialized z.cls).before a0 Z = true) (w4 : (Jvm.Cond.code z bytes maxL ret).before a0 Z = true) (hy : y.cls ≠ "java/lang/invoke/MethodHandle" ∧ y.cls ≠ "java/lang/invoke/VarHandle")
    (hM : Con l Z z bytes maxL ret [] rm as h Qc) (eT : T.heap = h) (hE : Exa Z h a C) (hf : rm.frames + 1 ≤ R.frames) (hl : W + (maxL + 11) + rm.locals ≤ R.locals) (hsize : Ls.size = c.maxLocals) (hpd : parseMethodDescriptor y.desc = some ⟨ps, rt⟩) (hlen : argsL.length = ps.length) (hst : st = argsL.reverse ++ .ref a :: rest) (has : (.ref a :: argsL).toArray = as) (hW : 0 + (rest.map fun v => v.category).sum ≤ W)
    (hd : decode by_ pc = .ok (.invokevirtual index, 3)) (hp : pc + 3 = pc') (hc : cells + rm.cells ≤ R.cells) (hs : slots + rm.slots ≤ R.slots)
    (k : ∀ (v : Option Value) (T' : State) (L : List Loc), Stand p l e R s m args below meth c T' (locs ++ L) (cells + rm.cells) (slots + rm.slots) → Qc v T'.heap L → Go p e below P (T'.setTop (mkF m pc' Ls (v.toList ++ rest)))) : Go p e below P (T.setTop (mkF m pc Ls st)) := by
  subst hp
  obtain ⟨cq, kq, q4a, q4b, q4c⟩ := isOf (T := T) hZ eT hE
  obtain ⟨v, _, ⟨T3, L3, k3, n3⟩, -, X3, ⟨Lc3, hQ3, l3, y3, z3⟩, st3⟩ := X.virtualBack hx (y := y) (z := z) hown (mvT hZ w1) (mvT hZ w2) hnf (mvT hZ w5) (mvT hZ w6) hy (backOf (W := W) hM hZ w4 w3 hf hl) q4a q4c (g := mkF m pc Ls st) rfl hsize (Steps.refl _) (argsL := argsL) (rest := rest) (lenOf hpd hlen) hst hW (hb hby hd) (fun _ _ => ⟨has, eT, hc, hs⟩)
  dsimp only [Pt.U, Pt.locs, Pt.cells, Pt.slots] at X3 l3 y3 z3 st3 hQ3
  subst l3 y3 z3
  exact Go.via st3 (k v T3 Lc3 X3 hQ3)

theorem Go.nmI {x : Int32} (k : ∀ v : Int32, v = x → Go p e below P (T.setTop (mkF m pc Ls (.int v :: rest)))) : Go p e below P (T.setTop (mkF m pc Ls (.int x :: rest))) := k _ rfl
theorem Go.nmJ {x : Int64} (k : ∀ v : Int64, v = x → Go p e below P (T.setTop (mkF m pc Ls (.long v :: rest)))) : Go p e below P (T.setTop (mkF m pc Ls (.long x :: rest))) := k _ rfl
theorem Go.cut {α : Type} {F : α → State} {x : α} {S : State} (k : Go p e below P (F x)) (k2 : (∀ b, b = x → Go p e below P (F b)) → Go p e below P S) : Go p e below P S := k2 (fun b hb => hb ▸ k)
theorem Go.cutAll {α : Type} {F : α → State} {S : State} (k : ∀ b, Go p e below P (F b)) (k2 : (∀ b, Go p e below P (F b)) → Go p e below P S) : Go p e below P S := k2 k
theorem Go.loop {α : Type} {F : α → State} {I : α → Prop} {μ : α → Nat} (step : ∀ x, I x → (∀ y, I y → μ y < μ x → Go p e below P (F y)) → Go p e below P (F x)) (x : α) (hx : I x) : Go p e below P (F x) := by
  have key : ∀ (n : Nat) (x : α), μ x < n → I x → Go p e below P (F x) := by
    intro n
    induction n with
    | zero => intro x hn; exact absurd hn (Nat.not_lt_zero _)
    | succ n ih => intro x hn hi; exact step x hi (fun y hy hlt => ih y (by omega) hy)
  exact key _ x (Nat.lt_succ_self _) hx
/-- what a law leaves: true, and nothing that stood is written -/
def LQ (n0 : Nat) (v : Option Value) (h : Heap) (L : List Loc) : Prop := v = some (.int 1) ∧ Fr n0 L
end OwnGo
section OwnHeap
variable {p : Program} {l : Launch} {e : Env} {R : Room} {s : State} {m : MethodId} {args : Array Value} {below : List Frame} {meth : Method} {c : Code} {T : State} {locs : List Loc} {cells slots : Nat} {Z : State} {a0 : Array Value} {h h' : Heap} {Q : Option Value → Heap → List Loc → Prop} {P : Option Value → State → Prop} {K N : Nat} {by_ : ByteArray} {pc pc' : Nat} {Ls : Array Slot} {rest : List Value} {a b : Addr} {ty : FieldType} {z i : Int} {f g : Int → Value} {sl : Nat} {v : Value} {ws : List Addr}
/-- an array: its length z, what place i holds -/
def Ar (Z : State) (h : Heap) (a : Addr) (ty : FieldType) (z : Int) (f : Int → Value) : Prop := ∃ cl : Cell, Arr Z h a cl ty ∧ (cl.slots.size : Int) = z ∧ z < 2147483648 ∧ ∀ i : Nat, (i : Int) < z → cl.slots[i]? = some (f i)
theorem Ar.ext (F : Ar Z h a ty z f) (E : Ext h h') : Ar Z h' a ty z f := by obtain ⟨cl, A, r⟩ := F; exact ⟨cl, A.ext E, r⟩
theorem Ar.other (F : Ar Z h a ty z f) (W : Wr h h' b sl v) (q : a ≠ b) : Ar Z h' a ty z f := by obtain ⟨cl, A, r⟩ := F; exact ⟨cl, A.other W q, r⟩
theorem Ar.keep (F : Ar Z h a ty z f) (K : Keep h h' ws) (q : a ∉ ws) : Ar Z h' a ty z f := by obtain ⟨cl, A, r⟩ := F; exact ⟨cl, ⟨K.2.1 a cl A.1 q, A.2⟩, r⟩
theorem Ar.lt (F : Ar Z h a ty z f) : a < h.size := by obtain ⟨cl, A, -⟩ := F; exact A.lt
theorem Ar.congr (F : Ar Z h a ty z f) (q : ∀ i, 0 ≤ i → i < z → f i = g i) : Ar Z h a ty z g := by
  obtain ⟨cl, A, r1, r2, r3⟩ := F
  exact ⟨cl, A, r1, r2, fun i hi => by rw [r3 i hi, q i (by omega) hi]⟩
theorem Ar.bound (F : Ar Z h a ty z f) : 0 ≤ z ∧ z < 2147483648 := by obtain ⟨cl, A, r1, r2, -⟩ := F; omega
theorem Ar.set (F : Ar Z h a ty z f) (W : Wr h h' a i.toNat v) (hi : 0 ≤ i) : Ar Z h' a ty z (fun q => if q = i then v else f q) := by
  obtain ⟨cl, A, r1, r2, r3⟩ := F
  obtain ⟨cl2, w1, w2, w3, w4⟩ := W
  cases w1.symm.trans A.1
  refine ⟨_, A.same ⟨cl, A.1, w2, w3, w4⟩, by rw [sz_set]; exact r1, r2, fun k hk => ?_⟩
  by_cases e : (k : Int) = i
  · have e' : k = i.toNat := by omega
    subst e'
    simp only [Cell.setSlot, if_pos e]
    rw [Array.getElem?_setIfInBounds_self_of_lt w3]
  · show _ = some (if (k : Int) = i then v else f k)
    rw [if_neg e]
    simp only [Cell.setSlot]
    rw [Array.getElem?_setIfInBounds_ne (by omega)]
    exact r3 k hk
theorem Ar.new {cA : ClassId} {n : Int32} (A : Arr Z h a (newA cA ty n) ty) (q : n.toInt = z) (q0 : 0 ≤ z) : Ar Z h a ty z (fun _ => defaultValue ty) := by
  have hs : ((newA cA ty n).slots.size : Int) = z := by rw [sz_new]; simp only [Int32.toNatClampNeg]; omega
  refine ⟨_, A, hs, by have := n.toInt_lt; omega, fun i hi => ?_⟩
  have hlt : i < n.toNatClampNeg := by rw [sz_new] at hs; omega
  simp [newA, Array.getElem?_replicate, hlt]
theorem in_of {cl : Cell} {j : Int32} (r1 : (cl.slots.size : Int) = z) (hj : j.toInt = i) (h0 : 0 ≤ i) (h1 : i < z) : ¬ (j < 0 ∨ cl.slots.size ≤ j.toNatClampNeg) ∧ j.toNatClampNeg = i.toNat := by
  have e : j.toNatClampNeg = i.toNat := by simp only [Int32.toNatClampNeg, hj]
  refine ⟨fun q => ?_, e⟩
  rcases q with q | q
  · rw [Int32.lt_iff_toInt_lt, hj, show (0 : Int32).toInt = 0 from by decide] at q; omega
  · rw [e] at q; omega
theorem Go.alen {zv : Int32} (X : Stand p l e R s m args below meth c T locs cells slots) (hx : p.tables.exec = Jvm.exec) (hby : c.code = by_) (hZ : Z.Warmed39 s.vm) (eT : T.heap = h) (A : Ar Z h a ty z f) (hd : decode by_ pc = .ok (.arraylength, 1)) (hp : pc + 1 = pc') (hz : zv.toInt = z) (k : Go p e below P (T.setTop (mkF m pc' Ls (.int zv :: rest)))) : Go p e below P (T.setTop (mkF m pc Ls (.ref a :: rest))) := by
  subst hp
  obtain ⟨cl, A, r1, r2, -⟩ := A
  have e1 : cl.slots.size.toInt32 = zv := Int32.toInt_inj.mp (by rw [len_toInt (by omega), hz]; exact r1)
  exact Go.st (fun t k => X.arraylength hx (cell := cl) (by rw [eT]; exact A.1) (State.isArrayOf_alike hZ.alike A.2.1) (g := mkF m pc Ls (.ref a :: rest)) rfl rfl (hb hby hd) _ (by rw [e1]; exact k)) k
theorem Go.iaload {j : Int32} (X : Stand p l e R s m args below meth c T locs cells slots) (hx : p.tables.exec = Jvm.exec) (hby : c.code = by_) (hZ : Z.Warmed39 s.vm) (eT : T.heap = h) (A : Ar Z h a .int z f) (hd : decode by_ pc = .ok (.iaload, 1)) (hp : pc + 1 = pc') (hj : j.toInt = i) (h0 : 0 ≤ i) (h1 : i < z) (hv : f i = v) (k : Go p e below P (T.setTop (mkF m pc' Ls (v :: rest)))) : Go p e below P (T.setTop (mkF m pc Ls (.int j :: .ref a :: rest))) := by
  subst hp hv
  obtain ⟨cl, A, r1, r2, r3⟩ := A
  obtain ⟨q1, q2⟩ := in_of r1 hj h0 h1
  exact Go.st (fun t k => X.iaload hx (j := j) (v := f i) (by rw [eT]; exact A.1) (State.isArrayOf_alike hZ.alike A.2.1) A.2.2 q1 (by rw [q2, r3 _ (by omega)]; congr 2; omega) (g := mkF m pc Ls (.int j :: .ref a :: rest)) rfl rfl (hb hby hd) _ k) k
theorem Go.caload {j : Int32} (X : Stand p l e R s m args below meth c T locs cells slots) (hx : p.tables.exec = Jvm.exec) (hby : c.code = by_) (hZ : Z.Warmed39 s.vm) (eT : T.heap = h) (A : Ar Z h a .char z f) (hd : decode by_ pc = .ok (.caload, 1)) (hp : pc + 1 = pc') (hj : j.toInt = i) (h0 : 0 ≤ i) (h1 : i < z) (hv : f i = v) (k : Go p e below P (T.setTop (mkF m pc' Ls (v :: rest)))) : Go p e below P (T.setTop (mkF m pc Ls (.int j :: .ref a :: rest))) := by
  subst hp hv
  obtain ⟨cl, A, r1, r2, r3⟩ := A
  obtain ⟨q1, q2⟩ := in_of r1 hj h0 h1
  exact Go.st (fun t k => X.caload hx (j := j) (v := f i) (by rw [eT]; exact A.1) (State.isArrayOf_alike hZ.alike A.2.1) A.2.2 q1 (by rw [q2, r3 _ (by omega)]; congr 2; omega) (g := mkF m pc Ls (.int j :: .ref a :: rest)) rfl rfl (hb hby hd) _ k) k
theorem Go.baload {j : Int32} (X : Stand p l e R s m args below meth c T locs cells slots) (hx : p.tables.exec = Jvm.exec) (hby : c.code = by_) (hZ : Z.Warmed39 s.vm) (eT : T.heap = h) (A : Ar Z h a .byte z f) (hd : decode by_ pc = .ok (.baload, 1)) (hp : pc + 1 = pc') (hj : j.toInt = i) (h0 : 0 ≤ i) (h1 : i < z) (hv : f i = v) (k : Go p e below P (T.setTop (mkF m pc' Ls (v :: rest)))) : Go p e below P (T.setTop (mkF m pc Ls (.int j :: .ref a :: rest))) := by
  subst hp hv
  obtain ⟨cl, A, r1, r2, r3⟩ := A
  obtain ⟨q1, q2⟩ := in_of r1 hj h0 h1
  exact Go.st (fun t k => X.baloadBytes hx (j := j) (v := f i) (by rw [eT]; exact A.1) (State.isArrayOf_alike hZ.alike A.2.1) A.2.2 q1 (by rw [q2, r3 _ (by omega)]; congr 2; omega) (g := mkF m pc Ls (.int j :: .ref a :: rest)) rfl rfl (hb hby hd) _ k) k
theorem Go.laload {j : Int32} (X : Stand p l e R s m args below meth c T locs cells slots) (hx : p.tables.exec = Jvm.exec) (hby : c.code = by_) (hZ : Z.Warmed39 s.vm) (eT : T.heap = h) (A : Ar Z h a .long z f) (hd : decode by_ pc = .ok (.laload, 1)) (hp : pc + 1 = pc') (hj : j.toInt = i) (h0 : 0 ≤ i) (h1 : i < z) (hv : f i = v) (k : Go p e below P (T.setTop (mkF m pc' Ls (v :: rest)))) : Go p e below P (T.setTop (mkF m pc Ls (.int j :: .ref a :: rest))) := by
  subst hp hv
  obtain ⟨cl, A, r1, r2, r3⟩ := A
  obtain ⟨q1, q2⟩ := in_of r1 hj h0 h1
  exact Go.st (fun t k => X.laload hx (j := j) (v := f i) (by rw [eT]; exact A.1) (State.isArrayOf_alike hZ.alike A.2.1) A.2.2 q1 (by rw [q2, r3 _ (by omega)]; congr 2; omega) (g := mkF m pc Ls (.int j :: .ref a :: rest)) rfl rfl (hb hby hd) _ k) k
theorem Go.saload {j : Int32} (X : Stand p l e R s m args below meth c T locs cells slots) (hx : p.tables.exec = Jvm.exec) (hby : c.code = by_) (hZ : Z.Warmed39 s.vm) (eT : T.heap = h) (A : Ar Z h a .short z f) (hd : decode by_ pc = .ok (.saload, 1)) (hp : pc + 1 = pc') (hj : j.toInt = i) (h0 : 0 ≤ i) (h1 : i < z) (hv : f i = v) (k : Go p e below P (T.setTop (mkF m pc' Ls (v :: rest)))) : Go p e below P (T.setTop (mkF m pc Ls (.int j :: .ref a :: rest))) := by
  subst hp hv
  obtain ⟨cl, A, r1, r2, r3⟩ := A
  obtain ⟨q1, q2⟩ := in_of r1 hj h0 h1
  exact Go.st (fun t k => X.saload hx (j := j) (v := f i) (by rw [eT]; exact A.1) (State.isArrayOf_alike hZ.alike A.2.1) A.2.2 q1 (by rw [q2, r3 _ (by omega)]; congr 2; omega) (g := mkF m pc Ls (.int j :: .ref a :: rest)) rfl rfl (hb hby hd) _ k) k
theorem Go.aaload {j : Int32} (X : Stand p l e R s m args below meth c T locs cells slots) (hx : p.tables.exec = Jvm.exec) (hby : c.code = by_) (hZ : Z.Warmed39 s.vm) (eT : T.heap = h) (A : Ar Z h a ty z f) (hty : ty.isReference = true) (hd : decode by_ pc = .ok (.aaload, 1)) (hp : pc + 1 = pc') (hj : j.toInt = i) (h0 : 0 ≤ i) (h1 : i < z) (hv : f i = v) (k : Go p e below P (T.setTop (mkF m pc' Ls (v :: rest)))) : Go p e below P (T.setTop (mkF m pc Ls (.int j :: .ref a :: rest))) := by
  subst hp hv
  obtain ⟨cl, A, r1, r2, r3⟩ := A
  obtain ⟨q1, q2⟩ := in_of r1 hj h0 h1
  exact Go.st (fun t k => X.aaload hx (j := j) (v := f i) (by rw [eT]; exact A.1) (State.isArrayOf_alike hZ.alike A.2.1) hty A.2.2 q1 (by rw [q2, r3 _ (by omega)]; congr 2; omega) (g := mkF m pc Ls (.int j :: .ref a :: rest)) rfl rfl (hb hby hd) _ k) k
theorem Go.iastore {j : Int32} {x : Int32} (X : Stand p l e R s m args below meth c T locs cells slots) (hx : p.tables.exec = Jvm.exec) (hby : c.code = by_) (hZ : Z.Warmed39 s.vm) (eT : T.heap = h) (A : Ar Z h a .int z f) (hd : decode by_ pc = .ok (.iastore, 1)) (hp : pc + 1 = pc') (hj : j.toInt = i) (h0 : 0 ≤ i) (h1 : i < z)
    (k : ∀ (T' : State) (h' : Heap), Stand p l e R s m args below meth c T' (locs ++ [⟨a, i.toNat⟩]) cells slots → T'.heap = h' → Wr h h' a i.toNat (.int x) → Ar Z h' a .int z (fun q => if q = i then (.int x) else f q) → Go p e below P (T'.setTop (mkF m pc' Ls rest))) : Go p e below P (T.setTop (mkF m pc Ls (.int x :: .int j :: .ref a :: rest))) := by
  subst hp
  have A0 := A
  obtain ⟨cl, A, r1, r2, r3⟩ := A
  obtain ⟨q1, q2⟩ := in_of r1 hj h0 h1
  obtain ⟨T', h', X', e', W', st⟩ := stI X hx hZ eT A (j := j) q1 (g := mkF m pc Ls (.int x :: .int j :: .ref a :: rest)) rfl rfl (hb hby hd)
  rw [q2] at X' W'
  exact Go.st st (k T' h' X' e' W' (A0.set W' h0))
theorem Go.castore {j : Int32} {x : Int32} (X : Stand p l e R s m args below meth c T locs cells slots) (hx : p.tables.exec = Jvm.exec) (hby : c.code = by_) (hZ : Z.Warmed39 s.vm) (eT : T.heap = h) (A : Ar Z h a .char z f) (hd : decode by_ pc = .ok (.castore, 1)) (hp : pc + 1 = pc') (hj : j.toInt = i) (h0 : 0 ≤ i) (h1 : i < z)
    (k : ∀ (T' : State) (h' : Heap), Stand p l e R s m args below meth c T' (locs ++ [⟨a, i.toNat⟩]) cells slots → T'.heap = h' → Wr h h' a i.toNat (.int (nar .char x)) → Ar Z h' a .char z (fun q => if q = i then (.int (nar .char x)) else f q) → Go p e below P (T'.setTop (mkF m pc' Ls rest))) : Go p e below P (T.setTop (mkF m pc Ls (.int x :: .int j :: .ref a :: rest))) := by
  subst hp
  have A0 := A
  obtain ⟨cl, A, r1, r2, r3⟩ := A
  obtain ⟨q1, q2⟩ := in_of r1 hj h0 h1
  obtain ⟨T', h', X', e', W', st⟩ := stC X hx hZ eT A (j := j) q1 (g := mkF m pc Ls (.int x :: .int j :: .ref a :: rest)) rfl rfl (hb hby hd)
  rw [q2] at X' W'
  exact Go.st st (k T' h' X' e' W' (A0.set W' h0))
theorem Go.bastore {j : Int32} {x : Int32} (X : Stand p l e R s m args below meth c T locs cells slots) (hx : p.tables.exec = Jvm.exec) (hby : c.code = by_) (hZ : Z.Warmed39 s.vm) (eT : T.heap = h) (A : Ar Z h a .byte z f) (hd : decode by_ pc = .ok (.bastore, 1)) (hp : pc + 1 = pc') (hj : j.toInt = i) (h0 : 0 ≤ i) (h1 : i < z)
    (k : ∀ (T' : State) (h' : Heap), Stand p l e R s m args below meth c T' (locs ++ [⟨a, i.toNat⟩]) cells slots → T'.heap = h' → Wr h h' a i.toNat (.int (nar .byte x)) → Ar Z h' a .byte z (fun q => if q = i then (.int (nar .byte x)) else f q) → Go p e below P (T'.setTop (mkF m pc' Ls rest))) : Go p e below P (T.setTop (mkF m pc Ls (.int x :: .int j :: .ref a :: rest))) := by
  subst hp
  have A0 := A
  obtain ⟨cl, A, r1, r2, r3⟩ := A
  obtain ⟨q1, q2⟩ := in_of r1 hj h0 h1
  obtain ⟨T', h', X', e', W', st⟩ := stB X hx hZ eT A (j := j) q1 (g := mkF m pc Ls (.int x :: .int j :: .ref a :: rest)) rfl rfl (hb hby hd)
  rw [q2] at X' W'
  exact Go.st st (k T' h' X' e' W' (A0.set W' h0))
theorem Go.lastore {j : Int32} {x : Int64} (X : Stand p l e R s m args below meth c T locs cells slots) (hx : p.tables.exec = Jvm.exec) (hby : c.code = by_) (hZ : Z.Warmed39 s.vm) (eT : T.heap = h) (A : Ar Z h a .long z f) (hd : decode by_ pc = .ok (.lastore, 1)) (hp : pc + 1 = pc') (hj : j.toInt = i) (h0 : 0 ≤ i) (h1 : i < z)
    (k : ∀ (T' : State) (h' : Heap), Stand p l e R s m args below meth c T' (locs ++ [⟨a, i.toNat⟩]) cells slots → T'.heap = h' → Wr h h' a i.toNat (.long x) → Ar Z h' a .long z (fun q => if q = i then (.long x) else f q) → Go p e below P (T'.setTop (mkF m pc' Ls rest))) : Go p e below P (T.setTop (mkF m pc Ls (.long x :: .int j :: .ref a :: rest))) := by
  subst hp
  have A0 := A
  obtain ⟨cl, A, r1, r2, r3⟩ := A
  obtain ⟨q1, q2⟩ := in_of r1 hj h0 h1
  obtain ⟨T', h', X', e', W', st⟩ := stJ X hx hZ eT A (j := j) q1 (g := mkF m pc Ls (.long x :: .int j :: .ref a :: rest)) rfl rfl (hb hby hd)
  rw [q2] at X' W'
  exact Go.st st (k T' h' X' e' W' (A0.set W' h0))
theorem Go.aastore {j : Int32} (X : Stand p l e R s m args below meth c T locs cells slots) (hx : p.tables.exec = Jvm.exec) (hby : c.code = by_) (hZ : Z.Warmed39 s.vm) (eT : T.heap = h) (A : Ar Z h a ty z f) (hty : ty.isReference = true) (F : Sto Z h a v) (hd : decode by_ pc = .ok (.aastore, 1)) (hp : pc + 1 = pc') (hj : j.toInt = i) (h0 : 0 ≤ i) (h1 : i < z)
    (k : ∀ (T' : State) (h' : Heap), Stand p l e R s m args below meth c T' (locs ++ [⟨a, i.toNat⟩]) cells slots → T'.heap = h' → Wr h h' a i.toNat v → Ar Z h' a ty z (fun q => if q = i then v else f q) → Go p e below P (T'.setTop (mkF m pc' Ls rest))) : Go p e below P (T.setTop (mkF m pc Ls (v :: .int j :: .ref a :: rest))) := by
  subst hp
  have A0 := A
  obtain ⟨cl, A, r1, r2, r3⟩ := A
  obtain ⟨q1, q2⟩ := in_of r1 hj h0 h1
  obtain ⟨T', h', X', e', W', st⟩ := stR X hx hZ eT A (j := j) q1 hty F (g := mkF m pc Ls (v :: .int j :: .ref a :: rest)) rfl rfl (hb hby hd)
  rw [q2] at X' W'
  exact Go.st st (k T' h' X' e' W' (A0.set W' h0))
theorem Go.newarr {aty : ArrayType} {n : Int32} {cap : Nat} (X : Stand p l e R s m args below meth c T locs cells slots) (hx : p.tables.exec = Jvm.exec) (hby : c.code = by_) (hZ : Z.Warmed39 s.vm) (w : (Jvm.Cond.arrayClass (newarray.typeOf aty)).before a0 Z = true) (eT : T.heap = h) (hd : decode by_ pc = .ok (.newarray aty, 2)) (hp : pc + 2 = pc') (hz : n.toInt = z) (h0 : 0 ≤ z) (hcap : z ≤ cap) (hb0 : cap * 8 ≤ 536870912) (hc : cells + 1 ≤ R.cells) (hl : slots + cap ≤ R.slots)
    (k : ∀ (b : Addr) (T' : State) (h' : Heap), b = h.size → Stand p l e R s m args below meth c T' locs (cells + 1) (slots + cap) → T'.heap = h' → Ext h h' → Ar Z h' b (newarray.typeOf aty) z (fun _ => defaultValue (newarray.typeOf aty)) → Go p e below P (T'.setTop (mkF m pc' Ls (.ref b :: rest)))) : Go p e below P (T.setTop (mkF m pc Ls (.int n :: rest))) := by
  subst hp
  obtain ⟨T', h', cA, X', e', E', A', st⟩ := newP X hx hZ w eT (g := mkF m pc Ls (.int n :: rest)) rfl (hb hby hd) rfl (by rw [Int32.lt_iff_toInt_lt, hz, show (0 : Int32).toInt = 0 from by decide]; omega) (cap := cap) (by simp only [Int32.toNatClampNeg, hz]; omega) hb0 hc hl
  exact Go.st st (k _ T' h' rfl X' e' E' (Ar.new A' hz h0))
theorem Go.new_ {own C : String} {index n : Nat} (X : Stand p l e R s m args below meth c T locs cells slots) (hx : p.tables.exec = Jvm.exec) (hby : c.code = by_) (hZ : Z.Warmed39 s.vm) (hown : s.vm.findClass own = some m.cls) (w : (Jvm.Cond.classLink own index C).before a0 Z = true) (wi : (Jvm.Cond.instantiable C n).before a0 Z = true) (wz : (Jvm.Cond.initialized C).before a0 Z = true) (eT : T.heap = h) (hd : decode by_ pc = .ok (.new index, 3)) (hp : pc + 3 = pc') (hc : cells + 1 ≤ R.cells) (hl : slots + n ≤ R.slots)
    (k : ∀ (b : Addr) (T' : State) (h' : Heap), b = h.size → Stand p l e R s m args below meth c T' locs (cells + 1) (slots + n) → T'.heap = h' → Ext h h' → Exa Z h' b C → (∀ {O nm d : String} {ty : FieldType}, Laid Z a0 C O nm d → parseFieldDescriptor d = some ty → Fld Z h' b O nm d (defaultValue ty)) → Go p e below P (T'.setTop (mkF m pc' Ls (.ref b :: rest)))) : Go p e below P (T.setTop (mkF m pc Ls rest)) := by
  subst hp
  obtain ⟨T', h', X', e', E', A', D', -, st⟩ := newO X hx hZ hown w wi wz eT (g := mkF m pc Ls rest) rfl (hb hby hd) hc hl
  exact Go.st st (k _ T' h' rfl X' e' E' A' D')
theorem Go.getF {own R0 O n d : String} {index : Nat} (X : Stand p l e R s m args below meth c T locs cells slots) (hx : p.tables.exec = Jvm.exec) (hby : c.code = by_) (hZ : Z.Warmed39 s.vm) (hown : s.vm.findClass own = some m.cls) (w : (Jvm.Cond.fieldLink own index R0 n d).before a0 Z = true) (via : Via Z R0 O n d) (eT : T.heap = h) (F : Fld Z h a O n d v) (hd : decode by_ pc = .ok (.getfield index, 3)) (hp : pc + 3 = pc')
    (k : ∀ T' : State, Stand p l e R s m args below meth c T' locs cells slots → T'.heap = h → Go p e below P (T'.setTop (mkF m pc' Ls (v :: rest)))) : Go p e below P (T.setTop (mkF m pc Ls (.ref a :: rest))) := by
  subst hp
  obtain ⟨T', X', e', st⟩ := Jvm.RoadKit.getF X hx hZ hown (host := "") (Or.inl w) via eT F (g := mkF m pc Ls (.ref a :: rest)) rfl rfl (hb hby hd)
  exact Go.st st (k T' X' e')
theorem Go.getSt {own R0 O n d : String} {index : Nat} (X : Stand p l e R s m args below meth c T locs cells slots) (hx : p.tables.exec = Jvm.exec) (hby : c.code = by_) (hZ : Z.Warmed39 s.vm) (hown : s.vm.findClass own = some m.cls) (w : (Jvm.Cond.fieldLink own index R0 n d).before a0 Z = true) (via : Via Z R0 O n d) (eT : T.heap = h) (F : Sta Z h O n d v) (hd : decode by_ pc = .ok (.getstatic index, 3)) (hp : pc + 3 = pc')
    (k : ∀ T' : State, Stand p l e R s m args below meth c T' locs cells slots → T'.heap = h → Go p e below P (T'.setTop (mkF m pc' Ls (v :: rest)))) : Go p e below P (T.setTop (mkF m pc Ls rest)) := by
  subst hp
  obtain ⟨T', X', e', st⟩ := Jvm.RoadKit.getS X hx hZ (host := "") hown w via eT F (g := mkF m pc Ls rest) rfl (hb hby hd)
  exact Go.st st (k T' X' e')
theorem Go.putF {own R0 O n d C : String} {index kk : Nat} {old : Value} (X : Stand p l e R s m args below meth c T locs cells slots) (hx : p.tables.exec = Jvm.exec) (hby : c.code = by_) (hZ : Z.Warmed39 s.vm) (hown : s.vm.findClass own = some m.cls) (w : (Jvm.Cond.fieldLink own index R0 n d).before a0 Z = true) (via : Via Z R0 O n d) (eT : T.heap = h) (F : Fld Z h a O n d old) (E : Exa Z h a C) (L : (Jvm.Cond.lays C O n d).before a0 Z = true ∨ ((Jvm.Cond.laysFinal C O n d).before a0 Z = true ∧ own = O ∧ meth.name = "<init>")) (wi : (Jvm.Cond.instantiable C kk).before a0 Z = true)
    (hty : parseFieldDescriptor d = some ty) (hn : narrow ty v = v) (hf : fits ty v = true) (hd : decode by_ pc = .ok (.putfield index, 3)) (hp : pc + 3 = pc')
    (k : ∀ (T' : State) (h' : Heap), Stand p l e R s m args below meth c T' (locs ++ [⟨a, slotOf Z O n d⟩]) cells slots → T'.heap = h' → Wr h h' a (slotOf Z O n d) v → Go p e below P (T'.setTop (mkF m pc' Ls rest))) : Go p e below P (T.setTop (mkF m pc Ls (v :: .ref a :: rest))) := by
  subst hp
  obtain ⟨T', h', X', e', W', st⟩ := Jvm.RoadKit.putF X hx hZ hown (host := "") (Or.inl w) via eT F E L wi hty hn hf (g := mkF m pc Ls (v :: .ref a :: rest)) rfl rfl (hb hby hd)
  exact Go.st st (k T' h' X' e' W')
theorem Go.initO {own : String} {idx W : Nat} (X : Stand p l e R s m args below meth c T locs cells slots) (hx : p.tables.exec = Jvm.exec) (hby : c.code = by_) (hZ : Z.Warmed39 s.vm) (hown : s.vm.findClass own = some m.cls) (w1 : (Jvm.Cond.methodLink own idx Lib.objectInit).before a0 Z = true) (w2 : (Jvm.Cond.instanceMethod Lib.objectInit).before a0 Z = true) (w3 : (Jvm.Cond.code Lib.objectInit ⟨#[0xb1]⟩ 1 none).before a0 Z = true) (eT : T.heap = h) (hsize : Ls.size = c.maxLocals) (hd : decode by_ pc = .ok (.invokespecial idx, 3)) (hp : pc + 3 = pc') (hf : 1 ≤ R.frames) (hW : 0 + (rest.map fun v => v.category).sum ≤ W) (hl : W + 12 ≤ R.locals)
    (k : ∀ T' : State, Stand p l e R s m args below meth c T' locs cells slots → T'.heap = h → Go p e below P (T'.setTop (mkF m pc' Ls rest))) : Go p e below P (T.setTop (mkF m pc Ls (.ref a :: rest))) := by
  subst hp
  obtain ⟨T', X', e', st⟩ := Jvm.RoadKit.initO X hx hZ hown w1 w2 w3 eT (g := mkF m pc Ls (.ref a :: rest)) rfl hsize rfl (hb hby hd) hf (W := W) hW hl
  exact Go.st st (k T' X' e')
theorem Fr.one {n : Nat} (q : n ≤ a) : Fr n [⟨a, sl⟩] := fun y hy => by cases List.mem_singleton.mp hy; exact q
end OwnHeap

section OwnWide
variable {p : Program} {l : Launch} {e : Env} {R : Room} {s : State} {vm0 : Vm} {k0 : Nat} {m : MethodId} {args : Array Value} {below : List Frame} {meth : Method} {c : Code} {T : State} {locs : List Loc} {cells slots : Nat} {Z : State} {a0 : Array Value} {h : Heap} {Q : Option Value → Heap → List Loc → Prop} {P : Option Value → State → Prop} {K N : Nat} {by_ : ByteArray} {pc pc' : Nat} {Ls : Array Slot} {rest : List Value}
abbrev ConW (l : Launch) (Z : State) (y : MethodName) (bytes : ByteArray) (maxL : Nat) (ret : Option FieldType) (ws : List Jvm.Cond) (rm : Room) (as : Array Value) (h : Heap) (Q : Option Value → Heap → List Loc → Prop) : Prop :=
  MetFree l y (head1 (Jvm.Cond.code y bytes maxL ret :: ws) rm) (fun a U => a = as ∧ Z.Warmed39 U.vm ∧ U.heap = h) (fun _ _ _ _ _ => True) (fun _ U o U' => ∃ v L, o = .returned v ∧ Q v U'.heap L ∧ ReturnedEndW U o U' L rm.cells rm.slots)
theorem ConW.of {y : MethodName} {bytes : ByteArray} {maxL : Nat} {ret : Option FieldType} {ws : List Jvm.Cond} {rm : Room} {as : Array Value} (hpn : plainFor y = true)
    (body : ∀ (p : Program) (e : Env) (s : State) (m : MethodId) (below : List Frame) (meth : Method) (c : Code) (s₁ : State), p.tables.exec = Jvm.exec → c.code = bytes → c.maxLocals = maxL → (s.setVm s.vm).vm.findClass y.cls = some m.cls → meth.name = y.name → meth.sig.returnType = ret → meth.locks = false → Z.Warmed39 (s.setVm s.vm).vm → s.Since s.vm 0 →
      Stand p l e rm (s.setVm s.vm) m as below meth c s₁ [] 0 0 → s₁.heap = h → Go p e below (Wd s Q rm.cells rm.slots) (s₁.setTop (entryFrame m as maxL))) : ConW l Z y bytes maxL ret ws rm as h Q := by
  refine MetFree.of_bodySF hpn hisR ?_
  intro p e s m args below meth c s₁ Bd hml0 hP hK
  obtain ⟨rfl, hZ, hh⟩ := hP
  have hown := findClass_of_methodNamed Bd.named
  have hnm := (name_of_methodNamed Bd.named Bd.method).1
  have X0 := Stand.of_body Bd
  have e0 : s₁.heap = h := by rw [← hh, Bd.state]; rfl
  obtain ⟨U, v, h1, h2, h3, L, h4, h5⟩ := body p e s m below meth c s₁ Bd.exec Bd.bytes hml0 hown hnm Bd.returns Bd.notSynchronized hZ ((State.WarmedH.refl s).since 0) X0 e0
  exact ⟨U, _, h1, h2, h3, v, L, rfl, h4, h5⟩
theorem Go.endW {w : Option Value} {A : State} (X : Stand p l e R (s.setVm vm0) m args below meth c T locs cells slots) (hS : s.Since vm0 k0) (hk : k0 ≤ T.heap.size) (hlk : meth.locks = false) (hr0 : meth.sig.returnType = none → w = none) (f : ∀ fs, (∀ (f : JFrame) (acts : List Action), f.method = m → f.locked = none → f.entered = [] → (doReturn e (T.setTop f) acts w).1 = T.setFrames fs) → Steps p.tables e below A (T.setFrames fs))
    (hc : cells ≤ K) (hn : slots ≤ N) (q : Q w T.heap locs) : Go p e below (Wd s Q K N) A := by
  obtain ⟨fs, hr, hrun, hended, hE⟩ := X.leaveW hS hk (v := w) hr0 hlk
  exact ⟨_, _, f fs hr, hrun, hended, locs, q, hE.1, hE.2.1, hE.2.2.1, hE.2.2.2.mono hc hn⟩
theorem Go.ret0W (X : Stand p l e R (s.setVm vm0) m args below meth c T locs cells slots) (hx : p.tables.exec = Jvm.exec) (hby : c.code = by_) (hlk : meth.locks = false) (hret : meth.sig.returnType = none) (hd : decode by_ pc = .ok (.return_, 1)) (hc : cells ≤ K) (hn : slots ≤ N) (hS : s.Since vm0 k0) (hk : k0 ≤ T.heap.size) (q : Q none T.heap locs) : Go p e below (Wd s Q K N) (T.setTop (mkF m pc Ls [])) :=
  Go.endW X hS hk hlk (fun _ => rfl) (fun fs hr => X.returnOut hx hret (hb hby hd) hr) hc hn q
theorem Go.retIW {z : Int32} (X : Stand p l e R (s.setVm vm0) m args below meth c T locs cells slots) (hx : p.tables.exec = Jvm.exec) (hby : c.code = by_) (hlk : meth.locks = false) (hret : meth.sig.returnType = some .int) (hd : decode by_ pc = .ok (.ireturn, 1)) (hc : cells ≤ K) (hn : slots ≤ N) (hS : s.Since vm0 k0) (hk : k0 ≤ T.heap.size) (q : Q (some (.int z)) T.heap locs) : Go p e below (Wd s Q K N) (T.setTop (mkF m pc Ls (.int z :: rest))) :=
  Go.endW X hS hk hlk (fun h => by rw [hret] at h; cases h) (fun fs hr => retOut X hx hret rfl (Or.inl ⟨rfl, Or.inl rfl, z, rfl⟩) (hb hby hd) hr) hc hn q
theorem Go.retZW {z : Int32} {t : FieldType} (X : Stand p l e R (s.setVm vm0) m args below meth c T locs cells slots) (hx : p.tables.exec = Jvm.exec) (hby : c.code = by_) (hlk : meth.locks = false) (hret : meth.sig.returnType = some t) (ht : t = .boolean ∨ t = .byte ∨ t = .char ∨ t = .short) (hd : decode by_ pc = .ok (.ireturn, 1)) (hc : cells ≤ K) (hn : slots ≤ N) (hS : s.Since vm0 k0) (hk : k0 ≤ T.heap.size) (q : Q (some (.int (nar t z))) T.heap locs) : Go p e below (Wd s Q K N) (T.setTop (mkF m pc Ls (.int z :: rest))) :=
  Go.endW X hS hk hlk (fun h => by rw [hret] at h; cases h) (fun fs hr => retN X hx hret ht (hb hby hd) hr) hc hn q
theorem Go.retAW {w : Value} {t : FieldType} (X : Stand p l e R (s.setVm vm0) m args below meth c T locs cells slots) (hx : p.tables.exec = Jvm.exec) (hby : c.code = by_) (hlk : meth.locks = false) (hret : meth.sig.returnType = some t) (hnw : narrow t w = w) (ht : t.isReference = true) (hw : w.isRef = true) (hd : decode by_ pc = .ok (.areturn, 1)) (hc : cells ≤ K) (hn : slots ≤ N) (hS : s.Since vm0 k0) (hk : k0 ≤ T.heap.size) (q : Q (some w) T.heap locs) : Go p e below (Wd s Q K N) (T.setTop (mkF m pc Ls (w :: rest))) :=
  Go.endW X hS hk hlk (fun h => by rw [hret] at h; cases h) (fun fs hr => retOut X hx hret hnw (Or.inr (Or.inr (Or.inr (Or.inr ⟨rfl, ht, hw⟩)))) (hb hby hd) hr) hc hn q
theorem Go.ldcS {own text : String} {index n : Nat} (X : Stand p l e R (s.setVm vm0) m args below meth c T locs cells slots) (hx : p.tables.exec = Jvm.exec) (hby : c.code = by_) (hZ : Z.Warmed39 (s.setVm vm0).vm) (hown : (s.setVm vm0).vm.findClass own = some m.cls) (w : (Jvm.Cond.stringLink own index text).before a0 Z = true) (wS : ∀ a ∈ Bundle.stringAtoms, a.before a0 Z = true) (eT : T.heap = h) (hS : s.Since vm0 k0) (hk : k0 ≤ h.size) (hd : decode by_ pc = .ok (.ldc index, 2)) (hp : pc + 2 = pc') (hn : 4 * text.toList.length ≤ n) (hbig : n ≤ 536870912) (hc : cells + 2 ≤ R.cells) (hl : slots + (n + 4) ≤ R.slots)
    (k : ∀ (a : Addr) (T' : State) (h' : Heap) (k1 : Nat), Stand p l e R (s.setVm T'.vm) m args below meth c T' locs (cells + 2) (slots + (n + 4)) → T'.heap = h' → Ext h h' → s.Since T'.vm k1 → k1 ≤ h'.size → Z.Warmed39 (s.setVm T'.vm).vm → (s.setVm T'.vm).vm.findClass own = some m.cls → Go p e below P (T'.setTop (mkF m pc' Ls (.ref a :: rest)))) : Go p e below P (T.setTop (mkF m pc Ls rest)) := by
  subst hp
  obtain ⟨a, T', h', k1, X', e', E', S', k', Z', o', st⟩ := Jvm.RoadKit.ldcS X hx hZ hown w wS eT hS hk (g := mkF m pc Ls rest) rfl (hb hby hd) hn hbig hc hl
  exact Go.st st (k a T' h' k1 X' e' E' S' k' Z' o')
theorem Go.callIW {own : String} {index : Nat} {y : MethodName} {bytes : ByteArray} {maxL : Nat} {rm : Room} {W : Nat} {as : Array Value} {Qc : Option Value → Heap → List Loc → Prop} {argsL st : List Value} {ps : List FieldType} {rt : Option FieldType} {a : Addr} (X : Stand p l e R (s.setVm vm0) m args below meth c T locs cells slots) (hx : p.tables.exec = Jvm.exec) (hby : c.code = by_) (hy1 : y.name = "<init>") (hZ : Z.Warmed39 (s.setVm vm0).vm) (hown : (s.setVm vm0).vm.findClass own = some m.cls)
    (w1 : (Jvm.Cond.methodLink own index y).before a0 Z = true) (w2 : (Jvm.Cond.instanceMethod y).before a0 Z = true) (w3 : (Jvm.Cond.initialized y.cls).before a0 Z = true) (w4 : (Jvm.Cond.code y bytes maxL none).before a0 Z = true) (hy : y.cls ≠ "java/lang/invoke/MethodHandle" ∧ y.cls ≠ "java/lang/invoke/VarHandle")
    (hM : ConW l Z y bytes maxL none [] rm as h Qc) (eT : T.heap = h) (hf : rm.frames + 1 ≤ R.frames) (hl : W + (maxL + 11) + rm.locals ≤ R.locals) (hsize : Ls.size = c.maxLocals) (hpd : parseMethodDescriptor y.desc = some ⟨ps, rt⟩) (hlen : argsL.length = ps.length) (hst : st = argsL.reverse ++ .ref a :: rest) (has : (.ref a :: argsL).toArray = as) (hW : 0 + (rest.map fun v => v.category).sum ≤ W)
    (hd : decode by_ pc = .ok (.invokespecial index, 3)) (hp : pc + 3 = pc') (hc : cells + rm.cells ≤ R.cells) (hs : slots + rm.slots ≤ R.slots) (hS : s.Since vm0 k0) (hk : k0 ≤ h.size)
    (k : ∀ (v : Option Value) (T' : State) (L : List Loc), Stand p l e R (s.setVm T'.vm) m args below meth c T' (locs ++ L) (cells + rm.cells) (slots + rm.slots) → s.Since T'.vm T'.heap.size → Z.Warmed39 (s.setVm T'.vm).vm → (s.setVm T'.vm).vm.findClass own = some m.cls → h.size ≤ T'.heap.size → Qc v T'.heap L → Go p e below P (T'.setTop (mkF m pc' Ls (v.toList ++ rest)))) : Go p e below P (T.setTop (mkF m pc Ls st)) := by
  subst hp
  obtain ⟨v, _, ⟨T3, L3, k3, n3⟩, -, X3, hS3, hg3, ⟨Lc3, hQ3, l3, y3, z3⟩, st3⟩ := X.specialBackS hx (y := y) hy1 hown (mvT hZ w1) (mvT hZ w2) (mvT hZ w4) hy (backOfS (W := W) hM hZ w4 w3 hf hl) (g := mkF m pc Ls st) rfl hsize (Steps.refl _) (a := a) (argsL := argsL) (rest := rest) (lenOf hpd hlen) hst hW (hb hby hd) (fun _ _ => ⟨has, eT, hc, hs⟩)
  dsimp only [Pt.U, Pt.locs, Pt.cells, Pt.slots] at X3 l3 y3 z3 st3 hQ3 hS3 hg3
  subst l3 y3 z3
  subst eT
  obtain ⟨X4, S4, Z4, o4⟩ := rebS hS hk X3 hS3 hg3 hZ hown
  exact Go.via st3 (k v T3 Lc3 X4 S4 Z4 o4 hg3 hQ3)
end OwnWide

section OwnMore
variable {p : Program} {l : Launch} {e : Env} {R : Room} {s : State} {m : MethodId} {args : Array Value} {below : List Frame} {meth : Method} {c : Code} {T : State} {locs : List Loc} {cells slots : Nat} {Z : State} {a0 : Array Value} {h h' : Heap} {P : Option Value → State → Prop} {by_ : ByteArray} {pc pc' : Nat} {Ls : Array Slot} {rest : List Value} {a b y : Addr} {ty : FieldType} {z i : Int} {f : Int → Value} {sl : Nat} {v : Value} {ws : List Addr} {C : String}
/-- the array at a is one of C's -/
def Ov (Z : State) (h : Heap) (a : Addr) (C : String) : Prop := ∃ cl : Cell, h[a]? = some cl ∧ Ovr Z cl.cls C
theorem Ov.ext (F : Ov Z h a C) (E : Ext h h') : Ov Z h' a C := by obtain ⟨cl, q, r⟩ := F; exact ⟨cl, E.2 _ _ q, r⟩
theorem Ov.wr (F : Ov Z h a C) (W : Wr h h' b sl v) : Ov Z h' a C := by
  obtain ⟨cl, q, r⟩ := F
  obtain ⟨c', e1, e2, -⟩ := wr_at W q
  exact ⟨c', e1, by rw [e2]; exact r⟩
theorem Ov.keep (F : Ov Z h a C) (K : Keep h h' ws) : Ov Z h' a C := by
  obtain ⟨cl, q, r⟩ := F
  obtain ⟨c', e1, e2, -⟩ := K.2.2 _ _ q
  exact ⟨c', e1, by rw [e2]; exact r⟩
theorem Sto.ofA (A : Ar Z h a ty z f) (O : Ov Z h a C) (I : Ins Z h y C true) : Sto Z h a (.ref y) := by
  obtain ⟨cl, A, -⟩ := A
  obtain ⟨cl', q, r⟩ := O
  cases q.symm.trans A.1
  exact Sto.of A r I
theorem Go.anewarr {own : String} {index : Nat} {n : Int32} {cap : Nat} (X : Stand p l e R s m args below meth c T locs cells slots) (hx : p.tables.exec = Jvm.exec) (hby : c.code = by_) (hZ : Z.Warmed39 s.vm) (hown : s.vm.findClass own = some m.cls) (w1 : (Jvm.Cond.classLink own index C).before a0 Z = true) (w2 : (Jvm.Cond.arrayOver (.object C)).before a0 Z = true) (eT : T.heap = h) (hd : decode by_ pc = .ok (.anewarray index, 3)) (hp : pc + 3 = pc') (hz : n.toInt = z) (h0 : 0 ≤ z) (hcap : z ≤ cap) (hb0 : cap * 8 ≤ 536870912) (hc : cells + 1 ≤ R.cells) (hl : slots + cap ≤ R.slots)
    (k : ∀ (b : Addr) (T' : State) (h' : Heap), b = h.size → Stand p l e R s m args below meth c T' locs (cells + 1) (slots + cap) → T'.heap = h' → Ext h h' → Ar Z h' b (.object C) z (fun _ => .null) → Ov Z h' b C → Go p e below P (T'.setTop (mkF m pc' Ls (.ref b :: rest)))) : Go p e below P (T.setTop (mkF m pc Ls (.int n :: rest))) := by
  subst hp
  obtain ⟨T', h', cA, X', e', E', A', O', st⟩ := newR X hx hZ hown w1 w2 eT (g := mkF m pc Ls (.int n :: rest)) rfl (hb hby hd) rfl (by rw [Int32.lt_iff_toInt_lt, hz, show (0 : Int32).toInt = 0 from by decide]; omega) (cap := cap) (by simp only [Int32.toNatClampNeg, hz]; omega) hb0 hc hl
  exact Go.st st (k _ T' h' rfl X' e' E' (Ar.new A' hz h0) ⟨_, A'.1, O'⟩)
theorem Go.callP {own : String} {index : Nat} {y : MethodName} {bytes : ByteArray} {maxL : Nat} {ret : Option FieldType} {rm : Room} {W : Nat} {as : Array Value} {Qc : Option Value → Heap → List Loc → Prop} {argsL st : List Value} {ps : List FieldType} {rt : Option FieldType} {a : Addr} (X : Stand p l e R s m args below meth c T locs cells slots) (hx : p.tables.exec = Jvm.exec) (hby : c.code = by_) (hZ : Z.Warmed39 s.vm) (hown : s.vm.findClass own = some m.cls)
    (w1 : (Jvm.Cond.methodLink own index y).before a0 Z = true) (w2 : (Jvm.Cond.instanceMethod y).before a0 Z = true) (w5 : (Jvm.Cond.selects y.cls y y).before a0 Z = true) (w6 : (Jvm.Cond.privateMethod y).before a0 Z = true) (w3 : (Jvm.Cond.initialized y.cls).before a0 Z = true) (w4 : (Jvm.Cond.code y bytes maxL ret).before a0 Z = true) (hy : y.cls ≠ "java/lang/invoke/MethodHandle" ∧ y.cls ≠ "java/lang/invoke/VarHandle")
    (hM : Con l Z y bytes maxL ret [] rm as h Qc) (eT : T.heap = h) (hE : Exa Z h a C) (hf : rm.frames + 1 ≤ R.frames) (hl : W + (maxL + 11) + rm.locals ≤ R.locals) (hsize : Ls.size = c.maxLocals) (hpd : parseMethodDescriptor y.desc = some ⟨ps, rt⟩) (hlen : argsL.length = ps.length) (hst : st = argsL.reverse ++ .ref a :: rest) (has : (.ref a :: argsL).toArray = as) (hW : 0 + (rest.map fun v => v.category).sum ≤ W)
    (hd : decode by_ pc = .ok (.invokevirtual index, 3)) (hp : pc + 3 = pc') (hc : cells + rm.cells ≤ R.cells) (hs : slots + rm.slots ≤ R.slots)
    (k : ∀ (v : Option Value) (T' : State) (L : List Loc), Stand p l e R s m args below meth c T' (locs ++ L) (cells + rm.cells) (slots + rm.slots) → Qc v T'.heap L → Go p e below P (T'.setTop (mkF m pc' Ls (v.toList ++ rest)))) : Go p e below P (T.setTop (mkF m pc Ls st)) := by
  subst hp
  obtain ⟨cq, q1, q2⟩ := hE.cell
  obtain ⟨v, _, ⟨T3, L3, k3, n3⟩, -, X3, ⟨Lc3, hQ3, l3, y3, z3⟩, st3⟩ := X.privateBack hx (y := y) hown (mvT hZ w1) (mvT hZ w2) (mvT hZ w5) (Cond.privateMethod_at (mvP hZ w6 (args := #[]))) (mvT hZ w4) hy (backOf (W := W) hM hZ w4 w3 hf hl) (g := mkF m pc Ls st) rfl hsize (Steps.refl _) (a := a) (by rw [eT]; exact q1) q2 (argsL := argsL) (rest := rest) (lenOf hpd hlen) hst hW (hb hby hd) (fun _ _ => ⟨has, eT, hc, hs⟩)
  dsimp only [Pt.U, Pt.locs, Pt.cells, Pt.slots] at X3 l3 y3 z3 st3 hQ3
  subst l3 y3 z3
  exact Go.via st3 (k v T3 Lc3 X3 hQ3)
theorem Go.callF {own : String} {index count : Nat} {x y : MethodName} {bytes : ByteArray} {maxL : Nat} {ret : Option FieldType} {rm : Room} {W : Nat} {as : Array Value} {Qc : Option Value → Heap → List Loc → Prop} {argsL st : List Value} {ps : List FieldType} {rt : Option FieldType} {a : Addr} (X : Stand p l e R s m args below meth c T locs cells slots) (hx : p.tables.exec = Jvm.exec) (hby : c.code = by_) (hZ : Z.Warmed39 s.vm) (hown : s.vm.findClass own = some m.cls)
    (w1 : (Jvm.Cond.methodLink own index x).before a0 Z = true) (w2 : (Jvm.Cond.declares x).before a0 Z = true) (w7 : (Jvm.Cond.interfaceMethod x.cls x.cls x.name x.desc).before args s = true) (w5 : (Jvm.Cond.selects C x y).before a0 Z = true) (w6 : (Jvm.Cond.instanceMethod y).before a0 Z = true) (w8 : (Jvm.Cond.publicMethod y).before a0 Z = true) (w9 : (Jvm.Cond.unhidden C x.name x.desc).before a0 Z = true) (w10 : (Jvm.Cond.castable C x.cls).before a0 Z = true) (w3 : (Jvm.Cond.initialized y.cls).before a0 Z = true) (w4 : (Jvm.Cond.code y bytes maxL ret).before a0 Z = true) (hy : x.cls ≠ "java/lang/invoke/MethodHandle" ∧ x.cls ≠ "java/lang/invoke/VarHandle")
    (hM : Con l Z y bytes maxL ret [] rm as h Qc) (eT : T.heap = h) (hE : Exa Z h a C) (hf : rm.frames + 1 ≤ R.frames) (hl : W + (maxL + 11) + rm.locals ≤ R.locals) (hsize : Ls.size = c.maxLocals) (hpd : parseMethodDescriptor x.desc = some ⟨ps, rt⟩) (hlen : argsL.length = ps.length) (hst : st = argsL.reverse ++ .ref a :: rest) (has : (.ref a :: argsL).toArray = as) (hW : 0 + (rest.map fun v => v.category).sum ≤ W)
    (hd : decode by_ pc = .ok (.invokeinterface index count, 5)) (hp : pc + 5 = pc') (hc : cells + rm.cells ≤ R.cells) (hs : slots + rm.slots ≤ R.slots)
    (k : ∀ (v : Option Value) (T' : State) (L : List Loc), Stand p l e R s m args below meth c T' (locs ++ L) (cells + rm.cells) (slots + rm.slots) → Qc v T'.heap L → Go p e below P (T'.setTop (mkF m pc' Ls (v.toList ++ rest)))) : Go p e below P (T.setTop (mkF m pc Ls st)) := by
  subst hp
  obtain ⟨cq, kq, q4a, q4b, q4c⟩ := isOf (T := T) hZ eT hE
  obtain ⟨v, _, ⟨T3, L3, k3, n3⟩, -, X3, ⟨Lc3, hQ3, l3, y3, z3⟩, st3⟩ := X.interfaceBack hx (xi := x) (y := y) hown (mvT hZ w1) (mvT hZ w2) w7 (mvT hZ w5) (mvT hZ w6) (mvT hZ w8) (mvT hZ w9) (mvT hZ w10) hy (backOf (W := W) hM hZ w4 w3 hf hl) q4a q4b q4c (g := mkF m pc Ls st) rfl hsize (Steps.refl _) (argsL := argsL) (rest := rest) (lenOf hpd hlen) hst hW (hb hby hd) (fun _ _ => ⟨has, eT, hc, hs⟩)
  dsimp only [Pt.U, Pt.locs, Pt.cells, Pt.slots] at X3 l3 y3 z3 st3 hQ3
  subst l3 y3 z3
  exact Go.via st3 (k v T3 Lc3 X3 hQ3)
end OwnMore

section OwnArr
variable {p : Program} {l : Launch} {e : Env} {R : Room} {s : State} {m : MethodId} {args : Array Value} {below : List Frame} {meth : Method} {c : Code} {T : State} {locs : List Loc} {cells slots : Nat} {Z : State} {a0 : Array Value} {h h' : Heap} {P : Option Value → State → Prop} {by_ : ByteArray} {pc pc' : Nat} {Ls : Array Slot} {rest : List Value} {a b y : Addr} {ty ty' : FieldType} {z z' i : Int} {f f' : Int → Value} {sl : Nat} {v : Value} {ws : List Addr} {C : String}
theorem Ar.neTy (A : Ar Z h a ty z f) (B : Ar Z h b ty' z' f') (q : ty ≠ ty') : a ≠ b := by
  intro e
  subst e
  obtain ⟨c1, A, -⟩ := A
  obtain ⟨c2, B, -⟩ := B
  cases A.1.symm.trans B.1
  obtain ⟨-, k, hk, comp, hkind⟩ := A.2.1
  obtain ⟨-, k', hk', comp', hkind'⟩ := B.2.1
  cases hk.symm.trans hk'
  rw [hkind] at hkind'
  cases hkind'
  exact q rfl
theorem Ar.neExa {k : Nat} (E : Exa Z h a C) (wi : (Jvm.Cond.instantiable C k).before a0 Z = true) (A : Ar Z h b ty z f) : a ≠ b := by
  obtain ⟨cl, A, -⟩ := A
  exact ne_arr E wi A
/-- the array at a is one of arrays of C -/
def OvA (Z : State) (h : Heap) (a : Addr) (ty : FieldType) (C : String) : Prop := ∃ cl : Cell, h[a]? = some cl ∧ OvrA Z cl.cls ty C
theorem OvA.ext (F : OvA Z h a ty C) (E : Ext h h') : OvA Z h' a ty C := by obtain ⟨cl, q, r⟩ := F; exact ⟨cl, E.2 _ _ q, r⟩
theorem OvA.wr (F : OvA Z h a ty C) (W : Wr h h' b sl v) : OvA Z h' a ty C := by
  obtain ⟨cl, q, r⟩ := F
  obtain ⟨c', e1, e2, -⟩ := wr_at W q
  exact ⟨c', e1, by rw [e2]; exact r⟩
theorem Sto.ofAA (A : Ar Z h a ty z f) (O : OvA Z h a ty' C) (I : Ins Z h y C true) : Sto Z h a (.ref y) := by
  obtain ⟨cl, A, -⟩ := A
  obtain ⟨cl', q, r⟩ := O
  cases q.symm.trans A.1
  exact Sto.ofVA A rfl r I
theorem Go.newarrE {aty : ArrayType} {n : Int32} {cap : Nat} {ad : String} (X : Stand p l e R s m args below meth c T locs cells slots) (hx : p.tables.exec = Jvm.exec) (hby : c.code = by_) (hZ : Z.Warmed39 s.vm) (w : (Jvm.Cond.arrayClass (newarray.typeOf aty)).before a0 Z = true) (eT : T.heap = h) (hd : decode by_ pc = .ok (.newarray aty, 2)) (hp : pc + 2 = pc') (hz : n.toInt = z) (h0 : 0 ≤ z) (hcap : z ≤ cap) (hb0 : cap * 8 ≤ 536870912) (hc : cells + 1 ≤ R.cells) (hl : slots + cap ≤ R.slots) (had : "[" ++ (newarray.typeOf aty).toString = ad)
    (k : ∀ (b : Addr) (T' : State) (h' : Heap), b = h.size → Stand p l e R s m args below meth c T' locs (cells + 1) (slots + cap) → T'.heap = h' → Ext h h' → Ar Z h' b (newarray.typeOf aty) z (fun _ => defaultValue (newarray.typeOf aty)) → Exa Z h' b ad → Go p e below P (T'.setTop (mkF m pc' Ls (.ref b :: rest)))) : Go p e below P (T.setTop (mkF m pc Ls (.int n :: rest))) := by
  subst hp
  obtain ⟨T', h', cA, X', e', E', A', F', st⟩ := newPE X hx hZ w eT (g := mkF m pc Ls (.int n :: rest)) rfl (hb hby hd) rfl (by rw [Int32.lt_iff_toInt_lt, hz, show (0 : Int32).toInt = 0 from by decide]; omega) (cap := cap) (by simp only [Int32.toNatClampNeg, hz]; omega) hb0 hc hl had
  exact Go.st st (k _ T' h' rfl X' e' E' (Ar.new A' hz h0) F')
theorem Go.anewarrA {own : String} {index : Nat} {n : Int32} {cap : Nat} (X : Stand p l e R s m args below meth c T locs cells slots) (hx : p.tables.exec = Jvm.exec) (hby : c.code = by_) (hZ : Z.Warmed39 s.vm) (hown : s.vm.findClass own = some m.cls) (hC : (FieldType.array ty).toString = C) (w1 : (Jvm.Cond.classLink own index C).before a0 Z = true) (w2 : (Jvm.Cond.arrayOver (.array ty)).before a0 Z = true) (eT : T.heap = h) (hd : decode by_ pc = .ok (.anewarray index, 3)) (hp : pc + 3 = pc') (hz : n.toInt = z) (h0 : 0 ≤ z) (hcap : z ≤ cap) (hb0 : cap * 8 ≤ 536870912) (hc : cells + 1 ≤ R.cells) (hl : slots + cap ≤ R.slots)
    (k : ∀ (b : Addr) (T' : State) (h' : Heap), b = h.size → Stand p l e R s m args below meth c T' locs (cells + 1) (slots + cap) → T'.heap = h' → Ext h h' → Ar Z h' b (.array ty) z (fun _ => .null) → OvA Z h' b ty C → Go p e below P (T'.setTop (mkF m pc' Ls (.ref b :: rest)))) : Go p e below P (T.setTop (mkF m pc Ls (.int n :: rest))) := by
  subst hp
  obtain ⟨T', h', cA, X', e', E', A', -, O', st⟩ := newRA X hx hZ hown hC w1 w2 eT (g := mkF m pc Ls (.int n :: rest)) rfl (hb hby hd) rfl (by rw [Int32.lt_iff_toInt_lt, hz, show (0 : Int32).toInt = 0 from by decide]; omega) (cap := cap) (by simp only [Int32.toNatClampNeg, hz]; omega) hb0 hc hl (ad := "[" ++ C) rfl
  exact Go.st st (k _ T' h' rfl X' e' E' (Ar.new A' hz h0) ⟨_, A'.1, O'⟩)
end OwnArr

end Jvm.RoadKit
namespace Jvm.RoadKit
open Sem ClassFile Op Lib Jvm.Stand Jvm.Free Jvm.LawKit
section OwnHeld
variable {p : Program} {l : Launch} {e : Env} {R : Room} {s : State} {vm0 : Vm} {k0 : Nat} {m : MethodId} {args : Array Value} {below : List Frame} {meth : Method} {c : Code} {T : State} {locs : List Loc} {cells slots : Nat} {Z : State} {a0 : Array Value} {h : Heap} {Q : Option Value → Heap → List Loc → Prop} {P : Option Value → State → Prop} {K N : Nat} {by_ : ByteArray} {pc pc' : Nat} {Ls : Array Slot} {rest : List Value} {EL : List (String × Nat)}
/-- the wide contract of a body that reads String constants of EL -/
abbrev ConH (l : Launch) (Z : State) (EL : List (String × Nat)) (y : MethodName) (bytes : ByteArray) (maxL : Nat) (ret : Option FieldType) (ws : List Jvm.Cond) (rm : Room) (as : Array Value) (h : Heap) (Q : Option Value → Heap → List Loc → Prop) : Prop :=
  MetFree l y (head1 (Jvm.Cond.code y bytes maxL ret :: ws) rm) (fun a U => a = as ∧ Z.Warmed39 U.vm ∧ U.heap = h ∧ CHv Z EL U.vm h) (fun _ _ _ _ _ => True) (fun _ U o U' => ∃ v L, o = .returned v ∧ Q v U'.heap L ∧ ReturnedEndW U o U' L rm.cells rm.slots)
theorem ConH.of {y : MethodName} {bytes : ByteArray} {maxL : Nat} {ret : Option FieldType} {ws : List Jvm.Cond} {rm : Room} {as : Array Value} (hpn : plainFor y = true)
    (body : ∀ (p : Program) (e : Env) (s : State) (m : MethodId) (below : List Frame) (meth : Method) (c : Code) (s₁ : State), p.tables.exec = Jvm.exec → c.code = bytes → c.maxLocals = maxL → (s.setVm s.vm).vm.findClass y.cls = some m.cls → meth.name = y.name → meth.sig.returnType = ret → meth.locks = false → Z.Warmed39 (s.setVm s.vm).vm → s.Since s.vm 0 → CHv Z EL s.vm h →
      Stand p l e rm (s.setVm s.vm) m as below meth c s₁ [] 0 0 → s₁.heap = h → Go p e below (Wd s Q rm.cells rm.slots) (s₁.setTop (entryFrame m as maxL))) : ConH l Z EL y bytes maxL ret ws rm as h Q := by
  refine MetFree.of_bodySF hpn hisR ?_
  intro p e s m args below meth c s₁ Bd hml0 hP hK
  obtain ⟨rfl, hZ, hh, hC⟩ := hP
  have hown := findClass_of_methodNamed Bd.named
  have hnm := (name_of_methodNamed Bd.named Bd.method).1
  have X0 := Stand.of_body Bd
  have e0 : s₁.heap = h := by rw [← hh, Bd.state]; rfl
  obtain ⟨U, v, h1, h2, h3, L, h4, h5⟩ := body p e s m below meth c s₁ Bd.exec Bd.bytes hml0 hown hnm Bd.returns Bd.notSynchronized hZ ((State.WarmedH.refl s).since 0) hC X0 e0
  exact ⟨U, _, h1, h2, h3, v, L, rfl, h4, h5⟩
theorem own_backH {y : MethodName} {bytes : ByteArray} {maxL : Nat} {ret : Option FieldType} {rm : Room} {len W : Nat} {as' : Array Value} (hM : ConH l Z EL y bytes maxL ret [] rm as' h Q)
    (hZ : Z.Warmed39 vm0) (wc : (Jvm.Cond.code y bytes maxL ret).before a0 Z = true) (wz : (Jvm.Cond.initialized y.cls).before a0 Z = true) (hf : rm.frames + 1 ≤ R.frames) (hl : W + (maxL + 11) + rm.locals ≤ R.locals) (hEL : EW Z a0 EL) (H : CHv Z EL vm0 h) :
    BackS l R p e below (s.setVm vm0) args y len W (fun A a => a = as' ∧ A.U.heap = h ∧ A.cells + rm.cells ≤ R.cells ∧ A.slots + rm.slots ≤ R.slots)
      (fun A _ v B => ∃ L, Q v B.U.heap L ∧ B.locs = A.locs ++ L ∧ B.cells = A.cells + rm.cells ∧ B.slots = A.slots + rm.slots) := by
  refine BackS.of_freeW (bytes := bytes) (maxL := maxL) (ret := ret) (E := fun _ _ o t L k n => (k = rm.cells ∧ n = rm.slots) ∧ ∃ v, o = .returned v ∧ Q v t.heap L) hM hf hl ?_ ?_ ?_ ?_ ?_
  · intro m meth c A a Y hp
    have hU : Z.Warmed39 A.U.vm := wtrans (s := s.setVm vm0) hZ Y.warmed
    refine ⟨?_, mv hU wc, mv hU wz, hp.2.2⟩
    show (Jvm.Cond.and _ .tt).before a A.U = true
    rw [Cond.before_and, mv hU wc]; rfl
  · intro m meth c A a g mk Y hp
    exact ⟨hp.1, wtrans (s := s.setVm vm0) hZ Y.warmed, hp.2.1, (CHv.at Y hZ hEL H).1⟩
  · intros; trivial
  · rintro _ _ _ _ ⟨v, L, h1, h2, h3⟩
    exact ⟨L, _, _, h3, ⟨rfl, rfl⟩, v, h1, h2⟩
  · rintro m meth c A a g mk v t L k n Y hp _ _ ⟨⟨rfl, rfl⟩, v', e3, e4⟩
    cases e3
    exact ⟨L, e4, rfl, rfl, rfl⟩
theorem Go.callIH {own : String} {index : Nat} {y : MethodName} {bytes : ByteArray} {maxL : Nat} {rm : Room} {W : Nat} {as : Array Value} {Qc : Option Value → Heap → List Loc → Prop} {argsL st : List Value} {ps : List FieldType} {rt : Option FieldType} {a : Addr} (X : Stand p l e R (s.setVm vm0) m args below meth c T locs cells slots) (hx : p.tables.exec = Jvm.exec) (hby : c.code = by_) (hy1 : y.name = "<init>") (hZ : Z.Warmed39 (s.setVm vm0).vm) (hown : (s.setVm vm0).vm.findClass own = some m.cls)
    (w1 : (Jvm.Cond.methodLink own index y).before a0 Z = true) (w2 : (Jvm.Cond.instanceMethod y).before a0 Z = true) (w3 : (Jvm.Cond.initialized y.cls).before a0 Z = true) (w4 : (Jvm.Cond.code y bytes maxL none).before a0 Z = true) (hy : y.cls ≠ "java/lang/invoke/MethodHandle" ∧ y.cls ≠ "java/lang/invoke/VarHandle")
    (hM : ConH l Z EL y bytes maxL none [] rm as h Qc) (eT : T.heap = h) (hf : rm.frames + 1 ≤ R.frames) (hl : W + (maxL + 11) + rm.locals ≤ R.locals) (hsize : Ls.size = c.maxLocals) (hpd : parseMethodDescriptor y.desc = some ⟨ps, rt⟩) (hlen : argsL.length = ps.length) (hst : st = argsL.reverse ++ .ref a :: rest) (has : (.ref a :: argsL).toArray = as) (hW : 0 + (rest.map fun v => v.category).sum ≤ W)
    (hd : decode by_ pc = .ok (.invokespecial index, 3)) (hp : pc + 3 = pc') (hc : cells + rm.cells ≤ R.cells) (hs : slots + rm.slots ≤ R.slots) (hS : s.Since vm0 k0) (hk : k0 ≤ h.size) (hEL : EW Z a0 EL) (H : CHv Z EL vm0 h)
    (k : ∀ (v : Option Value) (T' : State) (L : List Loc), Stand p l e R (s.setVm T'.vm) m args below meth c T' (locs ++ L) (cells + rm.cells) (slots + rm.slots) → s.Since T'.vm T'.heap.size → Z.Warmed39 (s.setVm T'.vm).vm → (s.setVm T'.vm).vm.findClass own = some m.cls → h.size ≤ T'.heap.size → Qc v T'.heap L → Go p e below P (T'.setTop (mkF m pc' Ls (v.toList ++ rest)))) : Go p e below P (T.setTop (mkF m pc Ls st)) := by
  subst hp
  obtain ⟨v, _, ⟨T3, L3, k3, n3⟩, -, X3, hS3, hg3, ⟨Lc3, hQ3, l3, y3, z3⟩, st3⟩ := X.specialBackS hx (y := y) hy1 hown (mvT hZ w1) (mvT hZ w2) (mvT hZ w4) hy (own_backH (W := W) hM hZ w4 w3 hf hl hEL H) (g := mkF m pc Ls st) rfl hsize (Steps.refl _) (a := a) (argsL := argsL) (rest := rest) (lenOf hpd hlen) hst hW (hb hby hd) (fun _ _ => ⟨has, eT, hc, hs⟩)
  dsimp only [Pt.U, Pt.locs, Pt.cells, Pt.slots] at X3 l3 y3 z3 st3 hQ3 hS3 hg3
  subst l3 y3 z3
  subst eT
  obtain ⟨X4, S4, Z4, o4⟩ := rebS hS hk X3 hS3 hg3 hZ hown
  exact Go.via st3 (k v T3 Lc3 X4 S4 Z4 o4 hg3 hQ3)
/-- ldc of a String constant of EL, read -/
theorem Go.ldcR {own text : String} {index n : Nat} {vs : List Value} {z : Int32} (X : Stand p l e R (s.setVm vm0) m args below meth c T locs cells slots) (hx : p.tables.exec = Jvm.exec) (hby : c.code = by_) (hZ : Z.Warmed39 (s.setVm vm0).vm) (hown : (s.setVm vm0).vm.findClass own = some m.cls) (w : (Jvm.Cond.stringLink own index text).before a0 Z = true) (wS : ∀ a ∈ Bundle.stringAtoms, a.before a0 Z = true) (eT : T.heap = h) (hS : s.Since vm0 k0) (hk : k0 ≤ h.size) (hEL : EW Z a0 EL) (hmem : (own, index) ∈ EL) (H : CHv Z EL vm0 h)
    (ht : (∀ c ∈ text.toList, c.toNat < 256) ∧ text.toList.map (fun c => Value.int (Jvm.Lit.byteI c.toNat.toUInt16)) = vs) (hz : ¬ z < 0) (hlz : z.toNatClampNeg = vs.length) (hd : decode by_ pc = .ok (.ldc index, 2)) (hp : pc + 2 = pc') (hn : 4 * text.toList.length ≤ n) (hbig : n ≤ 536870912) (hc : cells + 2 ≤ R.cells) (hl : slots + (n + 4) ≤ R.slots)
    (k : ∀ (a : Addr) (T' : State) (h' : Heap) (k1 : Nat) (b : Addr) (kc : ClassId), Stand p l e R (s.setVm T'.vm) m args below meth c T' locs (cells + 2) (slots + (n + 4)) → T'.heap = h' → Ext h h' → s.Since T'.vm k1 → k1 ≤ h'.size → Z.Warmed39 (s.setVm T'.vm).vm → (s.setVm T'.vm).vm.findClass own = some m.cls →
      Exa Z h' a "java/lang/String" → Fld Z h' a "java/lang/String" "coder" "B" (.int 0) → Fld Z h' a "java/lang/String" "value" "[B" (.ref b) → Arv Z h' b kc .byte z vs (.int 0) → CHr Z EL vm0 h T'.vm h' → Lit (s.setVm T'.vm) own index a → Go p e below P (T'.setTop (mkF m pc' Ls (.ref a :: rest)))) : Go p e below P (T.setTop (mkF m pc Ls rest)) := by
  subst hp
  obtain ⟨a, T', h', k1, b, kc, r1, r2, r3, r4, r5, r6, r7, r8, r9, r10, r11, -, -, r12, r13, -, st⟩ := Jvm.RoadKit.ldcCH X hx hZ hown w wS eT hS hk hEL hmem H ht hz hlz (g := mkF m pc Ls rest) rfl (hb hby hd) hn hbig hc hl
  exact Go.st st (k a T' h' k1 b kc r1 r2 r3 r4 r5 r6 r7 r8 r9 r10 r11 r12 r13)
/-- .. again -/
theorem Go.ldcA {own text : String} {index : Nat} {a : Addr} (X : Stand p l e R (s.setVm vm0) m args below meth c T locs cells slots) (hx : p.tables.exec = Jvm.exec) (hby : c.code = by_) (hZ : Z.Warmed39 (s.setVm vm0).vm) (hown : (s.setVm vm0).vm.findClass own = some m.cls) (w : (Jvm.Cond.stringLink own index text).before a0 Z = true) (L : Lit (s.setVm vm0) own index a) (hd : decode by_ pc = .ok (.ldc index, 2)) (hp : pc + 2 = pc') (k : Go p e below P (T.setTop (mkF m pc' Ls (.ref a :: rest)))) : Go p e below P (T.setTop (mkF m pc Ls rest)) := by
  subst hp
  exact Go.st (Jvm.RoadKit.ldcAgain X hx hZ hown w L (g := mkF m pc Ls rest) rfl (hb hby hd)) k
/-- a literal's bytes as an array -/
theorem own_arv {a : Addr} {kc : ClassId} {ty : FieldType} {n : Int32} {vs : List Value} {d : Value} (A : Arv Z h a kc ty n vs d) : Ar Z h a ty n.toInt (fun q => vs.getD q.toNat d) := by
  obtain ⟨cl, A, -, hs, hn, H, -⟩ := A
  have q : n.toInt = n.toNatClampNeg := by
    have r : (0 : Int32).toInt = 0 := by decide
    have t : ¬ n.toInt < 0 := fun h => hn (Int32.lt_iff_toInt_lt.mpr (by rw [r]; exact h))
    have u : n.toNatClampNeg = n.toInt.toNat := rfl
    omega
  refine ⟨cl, A, by omega, (rng32 n).2, fun i hi => ?_⟩
  have := H i (by omega)
  simpa using this
end OwnHeld
end Jvm.RoadKit
namespace Jvm.Pilot.@@N@@
open Jvm Jvm.ClassFile Sem Op Lib Jvm.Free Jvm.Stand Jvm.LawKit Jvm.RoadKit Bundle Jvm.Pilot.@@N@@.Jvm.D
theorem own_z : 0 ≤ (0 : Int32).toInt ∧ (0 : Int32).toInt ≤ 65535 := by decide
theorem own_nul {Z : State} {h : Heap} {a b : Addr} {C n d : String} (F : Fld Z h a C n d .null) (G : Fld Z h a C n d (.ref b)) : False := by
  obtain ⟨cell, cf, k, i, f, h1, h2, h3, h4, h5, h6, h7⟩ := F
  obtain ⟨cell', cf', k', i', f', g1, g2, g3, g4, g5, g6, g7⟩ := G
  cases h1.symm.trans g1
  cases h2.symm.trans g2
  cases h7.symm.trans g7
def own_lat (c : Int32) : Int32 := nar .byte c.toInt8.toInt32
def own_lo (c : Int32) : Int32 := nar .byte (c >>> ((0 : Int32) &&& 31)).toInt8.toInt32
def own_hi (c : Int32) : Int32 := nar .byte (c >>> ((8 : Int32) &&& 31)).toInt8.toInt32
def own_gc (u v : Int32) : Int32 := nar .char (((u &&& (255 : Int32)) <<< ((0 : Int32) &&& 31)) ||| ((v &&& (255 : Int32)) <<< ((8 : Int32) &&& 31))).toUInt32.toUInt16.toUInt32.toInt32
def own_c (c0 c1 c2 : Int32) (q : Int) : Int32 := if q = 0 then c0 else if q = 1 then c1 else c2
def own_u (c0 c1 c2 : Int32) (q : Int) : Int32 := if q = 0 then own_lo c0 else if q = 1 then own_hi c0 else if q = 2 then own_lo c1 else if q = 3 then own_hi c1 else if q = 4 then own_lo c2 else own_hi c2
def own_ix0 (ch : Int32) : Int32 := -1
def own_ix1 (ch c0 : Int32) : Int32 := if c0 = ch then 0 else -1
def own_ix2 (ch c0 c1 : Int32) : Int32 := if c0 = ch then 0 else if c1 = ch then 1 else -1
def own_ix3 (ch c0 c1 c2 : Int32) : Int32 := if c0 = ch then 0 else if c1 = ch then 1 else if c2 = ch then 2 else -1
def own_ends (x : Int32) : Int32 := if x = 9 then 1 else if x = 10 then 1 else 0
theorem own_nn (x : Int32) (h : 0 ≤ x.toInt) : (x.toBitVec.toNat : Int) = x.toInt := by
  have q : x.toInt = x.toBitVec.toInt := rfl
  have r := BitVec.toInt_eq_toNat_cond x.toBitVec
  have b := x.toBitVec.isLt
  split at r <;> omega
theorem own_or (a b : Int32) (A B : Int) (ha : a.toInt = A) (h0 : 0 ≤ A) (h1 : A < 256) (hb : b.toInt = B * 256) (h2 : 0 ≤ B) (h3 : B < 256) : (a ||| b).toInt = A + B * 256 := by
  have ea := own_nn a (by omega)
  have eb := own_nn b (by omega)
  have q : (a ||| b).toBitVec.toNat = a.toBitVec.toNat ||| b.toBitVec.toNat := by
    rw [Int32.toBitVec_or, BitVec.toNat_or]
  obtain ⟨A', rfl⟩ := Int.eq_ofNat_of_zero_le h0
  obtain ⟨B', rfl⟩ := Int.eq_ofNat_of_zero_le h2
  have e1 : a.toBitVec.toNat = A' := by omega
  have e2 : b.toBitVec.toNat = B' <<< 8 := by rw [Nat.shiftLeft_eq]; omega
  rw [e1, e2, Nat.or_comm, ← Nat.shiftLeft_add_eq_or_of_lt (i := 8) (by omega : A' < 2 ^ 8), Nat.shiftLeft_eq] at q
  have r := BitVec.toInt_eq_toNat_cond (a ||| b).toBitVec
  rw [q, if_pos (by omega)] at r
  have t : (a ||| b).toInt = (a ||| b).toBitVec.toInt := rfl
  omega
theorem own_by (x : Int32) : nar .byte x.toInt8.toInt32 = x.toInt8.toInt32 := by
  apply Int32.toInt_inj.mp
  have a := c_i2b x
  have b := c_i2b x.toInt8.toInt32
  show (x.toInt8.toInt32.toInt8.toInt32).toInt = _
  omega
theorem own_gcc (c : Int32) (h : 0 ≤ c.toInt ∧ c.toInt ≤ 65535) : own_gc (own_lo c) (own_hi c) = c := by
  apply Int32.toInt_inj.mp
  unfold own_gc own_lo own_hi
  rw [own_by, own_by]
  have s0 := c_ishr c 0 0 (by decide)
  have s8 := c_ishr c 8 8 (by decide)
  generalize (c >>> ((0 : Int32) &&& 31)) = x at *
  generalize (c >>> ((8 : Int32) &&& 31)) = y at *
  have b1 := c_i2b x
  have b2 := c_i2b y
  generalize x.toInt8.toInt32 = u at *
  generalize y.toInt8.toInt32 = v at *
  have m1 := c_mask u 255 8 (by decide) (by decide)
  have m2 := c_mask v 255 8 (by decide) (by decide)
  generalize (u &&& (255 : Int32)) = u' at *
  generalize (v &&& (255 : Int32)) = v' at *
  have l1 := c_ishl u' 0 0 (by decide)
  have l2 := c_ishl v' 8 8 (by decide)
  generalize (u' <<< ((0 : Int32) &&& 31)) = a at *
  generalize (v' <<< ((8 : Int32) &&& 31)) = b at *
  have ra := rng32 a
  have rb := rng32 b
  have o := own_or a b (c.toInt % 256) (c.toInt / 256) (by omega) (by omega) (by omega) (by omega) (by omega) (by omega)
  have i1 := c_i2c (a ||| b)
  have i2 := c_i2c (a ||| b).toUInt32.toUInt16.toUInt32.toInt32
  show ((a ||| b).toUInt32.toUInt16.toUInt32.toInt32.toUInt32.toUInt16.toUInt32.toInt32).toInt = _
  omega
theorem own_lq {c ch : Int32} (B : 0 ≤ c.toInt ∧ c.toInt ≤ 65535) (q : c ≤ (255 : Int32)) (hc : ch = 9 ∨ ch = 10) : (own_lat c = ch.toInt8.toInt32) = (c = ch) := by
  unfold own_lat
  rw [own_by]
  have k := Int32.le_iff_toInt_le.mp q
  have z : (255 : Int32).toInt = 255 := by decide
  have b := c_i2b c
  apply propext
  rcases hc with rfl | rfl
  · have e : (9 : Int32).toInt8.toInt32 = 9 := by decide
    have e' : (9 : Int32).toInt = 9 := by decide
    rw [e, ← Int32.toInt_inj, ← Int32.toInt_inj, e']; omega
  · have e : (10 : Int32).toInt8.toInt32 = 10 := by decide
    have e' : (10 : Int32).toInt = 10 := by decide
    rw [e, ← Int32.toInt_inj, ← Int32.toInt_inj, e']; omega
theorem own_ch {x c : Int32} (h : c = (x &&& (65535 : Int32)).toUInt32.toUInt16.toUInt32.toInt32) : 0 ≤ c.toInt ∧ c.toInt ≤ 65535 := by
  subst h
  have a := c_i2c (x &&& (65535 : Int32))
  omega
theorem own_nc {c : Int32} (h : 0 ≤ c.toInt ∧ c.toInt ≤ 65535) : nar .char c = c := by
  apply Int32.toInt_inj.mp
  have a := c_i2c c
  show (c.toUInt32.toUInt16.toUInt32.toInt32).toInt = _
  omega
theorem own_n4 {x n : Int32} (h : n = x &&& (3 : Int32)) : n = 0 ∨ n = 1 ∨ n = 2 ∨ n = 3 := by
  have e := c_mask x 3 2 (by decide) (by decide)
  rw [← h] at e
  have z0 : (0 : Int32).toInt = 0 := by decide
  have z1 : (1 : Int32).toInt = 1 := by decide
  have z2 : (2 : Int32).toInt = 2 := by decide
  have z3 : (3 : Int32).toInt = 3 := by decide
  rw [← Int32.toInt_inj, ← Int32.toInt_inj, ← Int32.toInt_inj, ← Int32.toInt_inj]
  omega

def own_S (Z : State) (kk : Int32) (sf : Value) : Prop := kk ≠ 0 ∧ Sta Z Z.heap "java/lang/String" "COMPACT_STRINGS" "Z" (.int kk) ∧ Sta Z Z.heap "java/lang/StringUTF16" "$assertionsDisabled" "Z" (.int 1) ∧ Sta Z Z.heap "java/lang/StringUTF16" "HI_BYTE_SHIFT" "I" (.int 0) ∧ Sta Z Z.heap "java/lang/StringUTF16" "LO_BYTE_SHIFT" "I" (.int 8) ∧ Sta Z Z.heap "jdk/internal/util/Preconditions" "SIOOBE_FORMATTER" "Ljava/util/function/BiFunction;" sf ∧ (sf = .null ∨ ∃ r, sf = .ref r)
def own_EL : List (String × Nat) := [("java/lang/String", 7)]
def own_str0 (Z : State) (h : Heap) (a : Addr) (u0 u1 u2 : Int32) : Prop := ∃ b, Exa Z h a "java/lang/String" ∧ Fld Z h a "java/lang/String" "value" "[B" (.ref b) ∧ ((Fld Z h a "java/lang/String" "coder" "B" (.int 0) ∧ Ar Z h b .byte 0 (fun _ => .int 0)))
def own_str1 (Z : State) (h : Heap) (a : Addr) (u0 u1 u2 : Int32) : Prop := ∃ b, Exa Z h a "java/lang/String" ∧ Fld Z h a "java/lang/String" "value" "[B" (.ref b) ∧ ((Fld Z h a "java/lang/String" "coder" "B" (.int 0) ∧ (u0 ≤ (255 : Int32)) ∧ Ar Z h b .byte 1 (fun q => .int (own_lat (own_c u0 u1 u2 q)))) ∨ (Fld Z h a "java/lang/String" "coder" "B" (.int 1) ∧ Ar Z h b .byte 2 (fun q => .int (own_u u0 u1 u2 q))))
def own_str2 (Z : State) (h : Heap) (a : Addr) (u0 u1 u2 : Int32) : Prop := ∃ b, Exa Z h a "java/lang/String" ∧ Fld Z h a "java/lang/String" "value" "[B" (.ref b) ∧ ((Fld Z h a "java/lang/String" "coder" "B" (.int 0) ∧ (u0 ≤ (255 : Int32) ∧ u1 ≤ (255 : Int32)) ∧ Ar Z h b .byte 2 (fun q => .int (own_lat (own_c u0 u1 u2 q)))) ∨ (Fld Z h a "java/lang/String" "coder" "B" (.int 1) ∧ Ar Z h b .byte 4 (fun q => .int (own_u u0 u1 u2 q))))
def own_str3 (Z : State) (h : Heap) (a : Addr) (u0 u1 u2 : Int32) : Prop := ∃ b, Exa Z h a "java/lang/String" ∧ Fld Z h a "java/lang/String" "value" "[B" (.ref b) ∧ ((Fld Z h a "java/lang/String" "coder" "B" (.int 0) ∧ (u0 ≤ (255 : Int32) ∧ u1 ≤ (255 : Int32) ∧ u2 ≤ (255 : Int32)) ∧ Ar Z h b .byte 3 (fun q => .int (own_lat (own_c u0 u1 u2 q)))) ∨ (Fld Z h a "java/lang/String" "coder" "B" (.int 1) ∧ Ar Z h b .byte 6 (fun q => .int (own_u u0 u1 u2 q))))
theorem pd_0 : parseMethodDescriptor "()B" = some ⟨[], some .byte⟩ := by decide +kernel
theorem pd_1 : parseMethodDescriptor "()I" = some ⟨[], some .int⟩ := by decide +kernel
theorem pd_2 : parseMethodDescriptor "()V" = some ⟨[], none⟩ := by decide +kernel
theorem pd_3 : parseMethodDescriptor "()Z" = some ⟨[], some .boolean⟩ := by decide +kernel
theorem pd_4 : parseMethodDescriptor "(C)Z" = some ⟨[.char], some .boolean⟩ := by decide +kernel
theorem pd_5 : parseMethodDescriptor "(I)I" = some ⟨[.int], some .int⟩ := by decide +kernel
theorem pd_6 : parseMethodDescriptor "(I)Z" = some ⟨[.int], some .boolean⟩ := by decide +kernel
theorem pd_7 : parseMethodDescriptor "(I)[B" = some ⟨[.int], some (.array .byte)⟩ := by decide +kernel
theorem pd_8 : parseMethodDescriptor "(II)I" = some ⟨[.int, .int], some .int⟩ := by decide +kernel
theorem pd_9 : parseMethodDescriptor "(III)V" = some ⟨[.int, .int, .int], none⟩ := by decide +kernel
theorem pd_10 : parseMethodDescriptor "(IIILjava/util/function/BiFunction;)I" = some ⟨[.int, .int, .int, (.object "java/util/function/BiFunction")], some .int⟩ := by decide +kernel
theorem pd_11 : parseMethodDescriptor "(II[B)V" = some ⟨[.int, .int, (.array .byte)], none⟩ := by decide +kernel
theorem pd_12 : parseMethodDescriptor "(Ljava/lang/String;)Z" = some ⟨[(.object "java/lang/String")], some .boolean⟩ := by decide +kernel
theorem pd_13 : parseMethodDescriptor "([B)I" = some ⟨[(.array .byte)], some .int⟩ := by decide +kernel
theorem pd_14 : parseMethodDescriptor "([BI)B" = some ⟨[(.array .byte), .int], some .byte⟩ := by decide +kernel
theorem pd_15 : parseMethodDescriptor "([BI)C" = some ⟨[(.array .byte), .int], some .char⟩ := by decide +kernel
theorem pd_16 : parseMethodDescriptor "([BII)V" = some ⟨[(.array .byte), .int, .int], none⟩ := by decide +kernel
theorem pd_17 : parseMethodDescriptor "([BIII)I" = some ⟨[(.array .byte), .int, .int, .int], some .int⟩ := by decide +kernel
theorem pd_18 : parseMethodDescriptor "([C)V" = some ⟨[(.array .char)], none⟩ := by decide +kernel
theorem pd_19 : parseMethodDescriptor "([CII)[B" = some ⟨[(.array .char), .int, .int], some (.array .byte)⟩ := by decide +kernel
theorem pd_20 : parseMethodDescriptor "([CIILjava/lang/Void;)V" = some ⟨[(.array .char), .int, .int, (.object "java/lang/Void")], none⟩ := by decide +kernel
theorem pd_21 : parseMethodDescriptor "([CI[BII)I" = some ⟨[(.array .char), .int, (.array .byte), .int, .int], some .int⟩ := by decide +kernel
theorem d12_0 : decode jdk_29_method_65_code 0 = .ok (.iload_n 0, 1) := by decide +kernel
theorem d12_1 : decode jdk_29_method_65_code 1 = .ok (.iload_n 1, 1) := by decide +kernel
theorem d12_2 : decode jdk_29_method_65_code 2 = .ok (.if_icmp .lt 7, 3) := by decide +kernel
theorem d12_5 : decode jdk_29_method_65_code 5 = .ok (.iload_n 0, 1) := by decide +kernel
theorem d12_6 : decode jdk_29_method_65_code 6 = .ok (.goto 4, 3) := by decide +kernel
theorem d12_9 : decode jdk_29_method_65_code 9 = .ok (.iload_n 1, 1) := by decide +kernel
theorem d12_10 : decode jdk_29_method_65_code 10 = .ok (.ireturn, 1) := by decide +kernel
theorem ef_12 (m : MethodId) (x0 : Int32) (x1 : Int32) : entryFrame m #[(.int x0), (.int x1)] 2 = mkF m 0 #[.val (.int x0), .val (.int x1)] [] := by first | (simp [entryFrame, mkF, argsToLocals, Value.category]; done) | rfl
set_option maxRecDepth 65536 in
set_option maxHeartbeats 40000000 in
theorem rmMax (l : Launch) (Z : State) (a0 : Array Value) (hw : ∀ d ∈ tables_1, d.before a0 Z = true) (x0 : Int32) (x1 : Int32) (h0 : Heap) (q : x0 = x1) :
    Con l Z (⟨"java/lang/Math", "max", "(II)I"⟩ : MethodName) jdk_29_method_65_code 2 (some .int) [] ({ frames := 0, cells := 0, slots := 0, locals := 0 } : Room) #[(.int x0), (.int x1)] h0 (PQ (some (.int x0)) h0) := by
  refine Con.of (Jvm.Free.JP.mathPlain rfl (by decide +kernel)) ?_
  intro p e s m below meth c s₁ hx hby hml hown hnm hret hlk hZ X0 e0
  refine Go.cast (ef_12 m x0 x1) ?_
  replace hown : s.vm.findClass "java/lang/Math" = some m.cls := hown
  subst q
  show Go p e below _ (s₁.setTop (mkF m 0 #[.val (.int x0), .val (.int x0)] []))
  refine Go.iloadN (pc' := 1) X0 hx hby d12_0 rfl rfl ?_
  refine Go.iloadN (pc' := 2) X0 hx hby d12_1 rfl rfl ?_
  refine Go.icmpN (pc' := 5) X0 hx hby d12_2 rfl (show ¬ (x0 < x0) from Int32.lt_irrefl) ?_
  refine Go.iloadN (pc' := 6) X0 hx hby d12_5 rfl rfl ?_
  refine Go.goto (pc' := 10) X0 hx hby d12_6 (by decide) (by decide) ?_
  exact Go.retI X0 hx hby hlk hret d12_10 (by decide) (by decide) ⟨rfl, rfl, e0⟩
theorem d13_0 : decode jdk_29_method_69_code 0 = .ok (.iload_n 0, 1) := by decide +kernel
theorem d13_1 : decode jdk_29_method_69_code 1 = .ok (.iload_n 1, 1) := by decide +kernel
theorem d13_2 : decode jdk_29_method_69_code 2 = .ok (.if_icmp .gt 7, 3) := by decide +kernel
theorem d13_5 : decode jdk_29_method_69_code 5 = .ok (.iload_n 0, 1) := by decide +kernel
theorem d13_6 : decode jdk_29_method_69_code 6 = .ok (.goto 4, 3) := by decide +kernel
theorem d13_9 : decode jdk_29_method_69_code 9 = .ok (.iload_n 1, 1) := by decide +kernel
theorem d13_10 : decode jdk_29_method_69_code 10 = .ok (.ireturn, 1) := by decide +kernel
theorem ef_13 (m : MethodId) (x0 : Int32) (x1 : Int32) : entryFrame m #[(.int x0), (.int x1)] 2 = mkF m 0 #[.val (.int x0), .val (.int x1)] [] := by first | (simp [entryFrame, mkF, argsToLocals, Value.category]; done) | rfl
set_option maxRecDepth 65536 in
set_option maxHeartbeats 40000000 in
theorem rmMin (l : Launch) (Z : State) (a0 : Array Value) (hw : ∀ d ∈ tables_1, d.before a0 Z = true) (x0 : Int32) (x1 : Int32) (h0 : Heap) (q : x0 = x1) :
    Con l Z (⟨"java/lang/Math", "min", "(II)I"⟩ : MethodName) jdk_29_method_69_code 2 (some .int) [] ({ frames := 0, cells := 0, slots := 0, locals := 0 } : Room) #[(.int x0), (.int x1)] h0 (PQ (some (.int x0)) h0) := by
  refine Con.of (Jvm.Free.JP.mathPlain rfl (by decide +kernel)) ?_
  intro p e s m below meth c s₁ hx hby hml hown hnm hret hlk hZ X0 e0
  refine Go.cast (ef_13 m x0 x1) ?_
  replace hown : s.vm.findClass "java/lang/Math" = some m.cls := hown
  subst q
  show Go p e below _ (s₁.setTop (mkF m 0 #[.val (.int x0), .val (.int x0)] []))
  refine Go.iloadN (pc' := 1) X0 hx hby d13_0 rfl rfl ?_
  refine Go.iloadN (pc' := 2) X0 hx hby d13_1 rfl rfl ?_
  refine Go.icmpN (pc' := 5) X0 hx hby d13_2 rfl (show ¬ (x0 < x0) from Int32.lt_irrefl) ?_
  refine Go.iloadN (pc' := 6) X0 hx hby d13_5 rfl rfl ?_
  refine Go.goto (pc' := 10) X0 hx hby d13_6 (by decide) (by decide) ?_
  exact Go.retI X0 hx hby hlk hret d13_10 (by decide) (by decide) ⟨rfl, rfl, e0⟩
theorem d11_0 : decode jdk_43_method_4_code 0 = .ok (.iload_n 0, 1) := by decide +kernel
theorem d11_1 : decode jdk_43_method_4_code 1 = .ok (.ifCond .lt 14, 3) := by decide +kernel
theorem d11_4 : decode jdk_43_method_4_code 4 = .ok (.iload_n 0, 1) := by decide +kernel
theorem d11_5 : decode jdk_43_method_4_code 5 = .ok (.sipush 255, 3) := by decide +kernel
theorem d11_8 : decode jdk_43_method_4_code 8 = .ok (.if_icmp .gt 7, 3) := by decide +kernel
theorem d11_11 : decode jdk_43_method_4_code 11 = .ok (.iconst 1, 1) := by decide +kernel
theorem d11_12 : decode jdk_43_method_4_code 12 = .ok (.goto 4, 3) := by decide +kernel
theorem d11_15 : decode jdk_43_method_4_code 15 = .ok (.iconst 0, 1) := by decide +kernel
theorem d11_16 : decode jdk_43_method_4_code 16 = .ok (.ireturn, 1) := by decide +kernel
theorem ef_11 (m : MethodId) (x0 : Int32) : entryFrame m #[(.int x0)] 1 = mkF m 0 #[.val (.int x0)] [] := by first | (simp [entryFrame, mkF, argsToLocals, Value.category]; done) | rfl
theorem pn_StringLatin1 : plainName "java/lang/StringLatin1" = true := by first | (simp [plainName, overriddenIn]; done) | decide +kernel
set_option maxRecDepth 65536 in
set_option maxHeartbeats 40000000 in
theorem rmEnc (l : Launch) (Z : State) (a0 : Array Value) (hw : ∀ d ∈ tables_1, d.before a0 Z = true) (ch : Int32) (h0 : Heap) (hch : ch = 9 ∨ ch = 10) :
    Con l Z (⟨"java/lang/StringLatin1", "canEncode", "(I)Z"⟩ : MethodName) jdk_43_method_4_code 1 (some .boolean) [] ({ frames := 0, cells := 0, slots := 0, locals := 0 } : Room) #[(.int ch)] h0 (PQ (some (.int 1)) h0) := by
  refine Con.of (plainFor_of_name pn_StringLatin1) ?_
  intro p e s m below meth c s₁ hx hby hml hown hnm hret hlk hZ X0 e0
  refine Go.cast (ef_11 m ch) ?_
  replace hown : s.vm.findClass "java/lang/StringLatin1" = some m.cls := hown
  refine Go.iloadN (pc' := 1) X0 hx hby d11_0 rfl rfl ?_
  refine Go.ifN (pc' := 4) X0 hx hby d11_1 rfl (show ¬ (ch < 0) from by rcases hch with rfl | rfl <;> decide) ?_
  refine Go.iloadN (pc' := 5) X0 hx hby d11_4 rfl rfl ?_
  refine Go.sipush (pc' := 8) X0 hx hby d11_5 rfl (v := (255 : Int32)) (by decide) ?_
  refine Go.icmpN (pc' := 11) X0 hx hby d11_8 rfl (show ¬ ((255 : Int32) < ch) from by rcases hch with rfl | rfl <;> decide) ?_
  refine Go.iconst (pc' := 12) X0 hx hby d11_11 rfl (v := (1 : Int32)) (by decide) ?_
  refine Go.goto (pc' := 16) X0 hx hby d11_12 (by decide) (by decide) ?_
  exact Go.retZ X0 hx hby hlk hret (by simp) d11_16 (by decide) (by decide) ⟨rfl, rfl, e0⟩
theorem d17_0 : decode method_2_code 0 = .ok (.iload_n 0, 1) := by decide +kernel
theorem d17_1 : decode method_2_code 1 = .ok (.bipush 9, 2) := by decide +kernel
theorem d17_3 : decode method_2_code 3 = .ok (.if_icmp .eq 9, 3) := by decide +kernel
theorem d17_6 : decode method_2_code 6 = .ok (.iload_n 0, 1) := by decide +kernel
theorem d17_7 : decode method_2_code 7 = .ok (.bipush 10, 2) := by decide +kernel
theorem d17_9 : decode method_2_code 9 = .ok (.if_icmp .ne 7, 3) := by decide +kernel
theorem d17_12 : decode method_2_code 12 = .ok (.iconst 1, 1) := by decide +kernel
theorem d17_13 : decode method_2_code 13 = .ok (.goto 4, 3) := by decide +kernel
theorem d17_16 : decode method_2_code 16 = .ok (.iconst 0, 1) := by decide +kernel
theorem d17_17 : decode method_2_code 17 = .ok (.ireturn, 1) := by decide +kernel
theorem ef_17 (m : MethodId) (x0 : Int32) : entryFrame m #[(.int x0)] 1 = mkF m 0 #[.val (.int x0)] [] := by first | (simp [entryFrame, mkF, argsToLocals, Value.category]; done) | rfl
theorem pn_FactsFileCanHoldPinLaw : plainName "com/example/tame_recursion/tamerecursion/io/FactsFileCanHoldPinLaw" = true := by first | (simp [plainName, overriddenIn]; done) | decide +kernel
set_option maxRecDepth 65536 in
set_option maxHeartbeats 40000000 in
theorem rmEnd (l : Launch) (Z : State) (a0 : Array Value) (hw : ∀ d ∈ tables_1, d.before a0 Z = true) (x0 : Int32) (h0 : Heap) :
    Con l Z (⟨"com/example/tame_recursion/tamerecursion/io/FactsFileCanHoldPinLaw", "endsValue", "(C)Z"⟩ : MethodName) method_2_code 1 (some .boolean) [] ({ frames := 0, cells := 0, slots := 0, locals := 0 } : Room) #[(.int x0)] h0 (PQ (some (.int (own_ends x0))) h0) := by
  refine Con.of (plainFor_of_name pn_FactsFileCanHoldPinLaw) ?_
  intro p e s m below meth c s₁ hx hby hml hown hnm hret hlk hZ X0 e0
  refine Go.cast (ef_17 m x0) ?_
  replace hown : s.vm.findClass "com/example/tame_recursion/tamerecursion/io/FactsFileCanHoldPinLaw" = some m.cls := hown
  refine Go.iloadN (pc' := 1) X0 hx hby d17_0 rfl rfl ?_
  refine Go.bipush (pc' := 3) X0 hx hby d17_1 rfl (v := (9 : Int32)) (by decide) ?_
  refine Go.icmp (pc' := 12) (pn := 6) X0 hx hby d17_3 (by decide) (by decide) rfl (fun (c1 : x0 = (9 : Int32)) => ?_) (fun (c1 : ¬ (x0 = (9 : Int32))) => ?_)
  ·
    refine Go.iconst (pc' := 13) X0 hx hby d17_12 rfl (v := (1 : Int32)) (by decide) ?_
    refine Go.goto (pc' := 17) X0 hx hby d17_13 (by decide) (by decide) ?_
    have g : own_ends x0 = (1 : Int32) := by simp_all [own_ends]
    exact Go.retZ X0 hx hby hlk hret (by simp) d17_17 (by decide) (by decide) ⟨by rw [g]; rfl, rfl, e0⟩
  ·
    refine Go.iloadN (pc' := 7) X0 hx hby d17_6 rfl rfl ?_
    refine Go.bipush (pc' := 9) X0 hx hby d17_7 rfl (v := (10 : Int32)) (by decide) ?_
    refine Go.icmp (pc' := 16) (pn := 12) X0 hx hby d17_9 (by decide) (by decide) rfl (fun (c2 : x0 ≠ (10 : Int32)) => ?_) (fun (c2 : ¬ (x0 ≠ (10 : Int32))) => ?_)
    ·
      refine Go.iconst (pc' := 17) X0 hx hby d17_16 rfl (v := (0 : Int32)) (by decide) ?_
      have g : own_ends x0 = (0 : Int32) := by simp_all [own_ends]
      exact Go.retZ X0 hx hby hlk hret (by simp) d17_17 (by decide) (by decide) ⟨by rw [g]; rfl, rfl, e0⟩
    ·
      refine Go.iconst (pc' := 13) X0 hx hby d17_12 rfl (v := (1 : Int32)) (by decide) ?_
      refine Go.goto (pc' := 17) X0 hx hby d17_13 (by decide) (by decide) ?_
      have g : own_ends x0 = (1 : Int32) := by simp_all [own_ends]
      exact Go.retZ X0 hx hby hlk hret (by simp) d17_17 (by decide) (by decide) ⟨by rw [g]; rfl, rfl, e0⟩
theorem d22_0 : decode jdk_52_method_4_code 0 = .ok (.getstatic 44, 3) := by decide +kernel
theorem d22_3 : decode jdk_52_method_4_code 3 = .ok (.ifCond .ne 25, 3) := by decide +kernel
theorem d22_6 : decode jdk_52_method_4_code 6 = .ok (.iload_n 1, 1) := by decide +kernel
theorem d22_7 : decode jdk_52_method_4_code 7 = .ok (.ifCond .lt 11, 3) := by decide +kernel
theorem d22_10 : decode jdk_52_method_4_code 10 = .ok (.iload_n 1, 1) := by decide +kernel
theorem d22_11 : decode jdk_52_method_4_code 11 = .ok (.aload_n 0, 1) := by decide +kernel
theorem d22_12 : decode jdk_52_method_4_code 12 = .ok (.invokestatic 48, 3) := by decide +kernel
theorem d22_15 : decode jdk_52_method_4_code 15 = .ok (.if_icmp .lt 13, 3) := by decide +kernel
theorem d22_18 : decode jdk_52_method_4_code 18 = .ok (.new 52, 3) := by decide +kernel
theorem d22_21 : decode jdk_52_method_4_code 21 = .ok (.dup, 1) := by decide +kernel
theorem d22_22 : decode jdk_52_method_4_code 22 = .ok (.ldc 54, 2) := by decide +kernel
theorem d22_24 : decode jdk_52_method_4_code 24 = .ok (.invokespecial 56, 3) := by decide +kernel
theorem d22_27 : decode jdk_52_method_4_code 27 = .ok (.athrow, 1) := by decide +kernel
theorem d22_28 : decode jdk_52_method_4_code 28 = .ok (.iload_n 1, 1) := by decide +kernel
theorem d22_29 : decode jdk_52_method_4_code 29 = .ok (.iconst 1, 1) := by decide +kernel
theorem d22_30 : decode jdk_52_method_4_code 30 = .ok (.ishl, 1) := by decide +kernel
theorem d22_31 : decode jdk_52_method_4_code 31 = .ok (.istore_n 1, 1) := by decide +kernel
theorem d22_32 : decode jdk_52_method_4_code 32 = .ok (.aload_n 0, 1) := by decide +kernel
theorem d22_33 : decode jdk_52_method_4_code 33 = .ok (.iload_n 1, 1) := by decide +kernel
theorem d22_34 : decode jdk_52_method_4_code 34 = .ok (.iinc 1 1, 3) := by decide +kernel
theorem d22_37 : decode jdk_52_method_4_code 37 = .ok (.iload_n 2, 1) := by decide +kernel
theorem d22_38 : decode jdk_52_method_4_code 38 = .ok (.getstatic 59, 3) := by decide +kernel
theorem d22_41 : decode jdk_52_method_4_code 41 = .ok (.ishr, 1) := by decide +kernel
theorem d22_42 : decode jdk_52_method_4_code 42 = .ok (.i2b, 1) := by decide +kernel
theorem d22_43 : decode jdk_52_method_4_code 43 = .ok (.bastore, 1) := by decide +kernel
theorem d22_44 : decode jdk_52_method_4_code 44 = .ok (.aload_n 0, 1) := by decide +kernel
theorem d22_45 : decode jdk_52_method_4_code 45 = .ok (.iload_n 1, 1) := by decide +kernel
theorem d22_46 : decode jdk_52_method_4_code 46 = .ok (.iload_n 2, 1) := by decide +kernel
theorem d22_47 : decode jdk_52_method_4_code 47 = .ok (.getstatic 63, 3) := by decide +kernel
theorem d22_50 : decode jdk_52_method_4_code 50 = .ok (.ishr, 1) := by decide +kernel
theorem d22_51 : decode jdk_52_method_4_code 51 = .ok (.i2b, 1) := by decide +kernel
theorem d22_52 : decode jdk_52_method_4_code 52 = .ok (.bastore, 1) := by decide +kernel
theorem d22_53 : decode jdk_52_method_4_code 53 = .ok (.return_, 1) := by decide +kernel
theorem d23_0 : decode jdk_52_method_5_code 0 = .ok (.getstatic 44, 3) := by decide +kernel
theorem d23_3 : decode jdk_52_method_5_code 3 = .ok (.ifCond .ne 25, 3) := by decide +kernel
theorem d23_6 : decode jdk_52_method_5_code 6 = .ok (.iload_n 1, 1) := by decide +kernel
theorem d23_7 : decode jdk_52_method_5_code 7 = .ok (.ifCond .lt 11, 3) := by decide +kernel
theorem d23_10 : decode jdk_52_method_5_code 10 = .ok (.iload_n 1, 1) := by decide +kernel
theorem d23_11 : decode jdk_52_method_5_code 11 = .ok (.aload_n 0, 1) := by decide +kernel
theorem d23_12 : decode jdk_52_method_5_code 12 = .ok (.invokestatic 48, 3) := by decide +kernel
theorem d23_15 : decode jdk_52_method_5_code 15 = .ok (.if_icmp .lt 13, 3) := by decide +kernel
theorem d23_18 : decode jdk_52_method_5_code 18 = .ok (.new 52, 3) := by decide +kernel
theorem d23_21 : decode jdk_52_method_5_code 21 = .ok (.dup, 1) := by decide +kernel
theorem d23_22 : decode jdk_52_method_5_code 22 = .ok (.ldc 54, 2) := by decide +kernel
theorem d23_24 : decode jdk_52_method_5_code 24 = .ok (.invokespecial 56, 3) := by decide +kernel
theorem d23_27 : decode jdk_52_method_5_code 27 = .ok (.athrow, 1) := by decide +kernel
theorem d23_28 : decode jdk_52_method_5_code 28 = .ok (.iload_n 1, 1) := by decide +kernel
theorem d23_29 : decode jdk_52_method_5_code 29 = .ok (.iconst 1, 1) := by decide +kernel
theorem d23_30 : decode jdk_52_method_5_code 30 = .ok (.ishl, 1) := by decide +kernel
theorem d23_31 : decode jdk_52_method_5_code 31 = .ok (.istore_n 1, 1) := by decide +kernel
theorem d23_32 : decode jdk_52_method_5_code 32 = .ok (.aload_n 0, 1) := by decide +kernel
theorem d23_33 : decode jdk_52_method_5_code 33 = .ok (.iload_n 1, 1) := by decide +kernel
theorem d23_34 : decode jdk_52_method_5_code 34 = .ok (.iinc 1 1, 3) := by decide +kernel
theorem d23_37 : decode jdk_52_method_5_code 37 = .ok (.baload, 1) := by decide +kernel
theorem d23_38 : decode jdk_52_method_5_code 38 = .ok (.sipush 255, 3) := by decide +kernel
theorem d23_41 : decode jdk_52_method_5_code 41 = .ok (.iand, 1) := by decide +kernel
theorem d23_42 : decode jdk_52_method_5_code 42 = .ok (.getstatic 59, 3) := by decide +kernel
theorem d23_45 : decode jdk_52_method_5_code 45 = .ok (.ishl, 1) := by decide +kernel
theorem d23_46 : decode jdk_52_method_5_code 46 = .ok (.aload_n 0, 1) := by decide +kernel
theorem d23_47 : decode jdk_52_method_5_code 47 = .ok (.iload_n 1, 1) := by decide +kernel
theorem d23_48 : decode jdk_52_method_5_code 48 = .ok (.baload, 1) := by decide +kernel
theorem d23_49 : decode jdk_52_method_5_code 49 = .ok (.sipush 255, 3) := by decide +kernel
theorem d23_52 : decode jdk_52_method_5_code 52 = .ok (.iand, 1) := by decide +kernel
theorem d23_53 : decode jdk_52_method_5_code 53 = .ok (.getstatic 63, 3) := by decide +kernel
theorem d23_56 : decode jdk_52_method_5_code 56 = .ok (.ishl, 1) := by decide +kernel
theorem d23_57 : decode jdk_52_method_5_code 57 = .ok (.ior, 1) := by decide +kernel
theorem d23_58 : decode jdk_52_method_5_code 58 = .ok (.i2c, 1) := by decide +kernel
theorem d23_59 : decode jdk_52_method_5_code 59 = .ok (.ireturn, 1) := by decide +kernel
theorem ef_22 (m : MethodId) (x0 : Addr) (x1 : Int32) (x2 : Int32) : entryFrame m #[(.ref x0), (.int x1), (.int x2)] 3 = mkF m 0 #[.val (.ref x0), .val (.int x1), .val (.int x2)] [] := by first | (simp [entryFrame, mkF, argsToLocals, Value.category]; done) | rfl
theorem pn_StringUTF16 : plainName "java/lang/StringUTF16" = true := by first | (simp [plainName, overriddenIn]; done) | decide +kernel
set_option maxRecDepth 65536 in
set_option maxHeartbeats 40000000 in
theorem rmPC1_0 (l : Launch) (Z : State) (a0 : Array Value) (hw : ∀ d ∈ tables_1, d.before a0 Z = true) (a : Addr) (x1 : Int32) (cc : Int32) (h0 : Heap) (n0 : Nat) (kk : Int32) (sf : Value) (f0 : Int → Value) (O0 : Old Z n0 h0) (SS : own_S Z kk sf) (Z0 : n0 ≤ h0.size) (ga : n0 ≤ a) (h1 : x1 = 0) (A0 : Ar Z h0 a .byte 2 (fun q => f0 q)) :
    Con l Z (⟨"java/lang/StringUTF16", "putChar", "([BII)V"⟩ : MethodName) jdk_52_method_4_code 3 none [] ({ frames := 0, cells := 0, slots := 0, locals := 0 } : Room) #[(.ref a), (.int x1), (.int cc)] h0 (fun v h L => v = none ∧ Fr n0 L ∧ Keep h0 h [a] ∧ Ar Z h a .byte 2 (fun q => if q = 1 then .int (own_hi cc) else if q = 0 then .int (own_lo cc) else f0 q)) := by
  refine Con.of (plainFor_of_name pn_StringUTF16) ?_
  intro p e s m below meth c s₁ hx hby hml hown hnm hret hlk hZ X0 e0
  refine Go.cast (ef_22 m a x1 cc) ?_
  replace hown : s.vm.findClass "java/lang/StringUTF16" = some m.cls := hown
  subst h1
  show Go p e below _ (s₁.setTop (mkF m 0 #[.val (.ref a), .val (.int (0 : Int32)), .val (.int cc)] []))
  have S1_ : Sta Z h0 "java/lang/StringUTF16" "$assertionsDisabled" "Z" (.int 1) := Sta.ext O0.2 SS.2.2.1
  have S2_ : Sta Z h0 "java/lang/StringUTF16" "HI_BYTE_SHIFT" "I" (.int 0) := Sta.ext O0.2 SS.2.2.2.1
  have S3_ : Sta Z h0 "java/lang/StringUTF16" "LO_BYTE_SHIFT" "I" (.int 8) := Sta.ext O0.2 SS.2.2.2.2.1
  refine Go.getSt (pc' := 3) X0 hx hby hZ hown (hw _ (List.mem_of_getElem? (i := 97) rfl)) Via.refl e0 S1_ d22_0 rfl ?_
  intro T1 X2 e3
  refine Go.ifY (pc' := 28) X2 hx hby d22_3 (by decide) (by decide) (show (1 : Int32) ≠ 0 from by decide) ?_
  refine Go.iloadN (pc' := 29) X2 hx hby d22_28 rfl rfl ?_
  refine Go.iconst (pc' := 30) X2 hx hby d22_29 rfl (v := (1 : Int32)) (by decide) ?_
  refine Go.ishl (pc' := 31) X2 hx hby d22_30 rfl ?_
  change Go p e below _ (T1.setTop (mkF m 31 #[.val (.ref a), .val (.int (0 : Int32)), .val (.int cc)] [(.int (0 : Int32))]))
  refine Go.istoreN (Ls' := #[.val (.ref a), .val (.int (0 : Int32)), .val (.int cc)]) (pc' := 32) X2 hx hby d22_31 rfl rfl ?_
  refine Go.aloadN (pc' := 33) X2 hx hby d22_32 rfl rfl rfl ?_
  refine Go.iloadN (pc' := 34) X2 hx hby d22_33 rfl rfl ?_
  refine Go.iinc (w := (0 : Int32) + (1 : Int32)) (Ls' := #[.val (.ref a), .val (.int ((0 : Int32) + (1 : Int32))), .val (.int cc)]) (pc' := 37) X2 hx hby d22_34 rfl rfl rfl rfl ?_
  change Go p e below _ (T1.setTop (mkF m 37 #[.val (.ref a), .val (.int (1 : Int32)), .val (.int cc)] [(.int (0 : Int32)), (.ref a)]))
  refine Go.iloadN (pc' := 38) X2 hx hby d22_37 rfl rfl ?_
  refine Go.getSt (pc' := 41) X2 hx hby hZ hown (hw _ (List.mem_of_getElem? (i := 98) rfl)) Via.refl e3 S2_ d22_38 rfl ?_
  intro T4 X5 e6
  refine Go.ishr (pc' := 42) X5 hx hby d22_41 rfl ?_
  refine Go.i2b (pc' := 43) X5 hx hby d22_42 rfl ?_
  refine Go.bastore (pc' := 44) (i := 0) X5 hx hby hZ e6 A0 d22_43 rfl (by decide) (by decide) (by decide) ?_
  intro T7 h8 X9 e10 W11 A12
  have f13 : Old Z n0 h8 := O0.wr W11 ga
  have f14 : Sta Z h8 "java/lang/StringUTF16" "$assertionsDisabled" "Z" (.int 1) := Sta.wr W11 S1_
  have f15 : Sta Z h8 "java/lang/StringUTF16" "HI_BYTE_SHIFT" "I" (.int 0) := Sta.wr W11 S2_
  have f16 : Sta Z h8 "java/lang/StringUTF16" "LO_BYTE_SHIFT" "I" (.int 8) := Sta.wr W11 S3_
  have z17 : n0 ≤ h8.size := by rw [Wr.size W11]; exact Z0
  have f18 : Ar Z h8 a .byte 2 (fun q => if q = 0 then (.int (nar .byte ((cc >>> ((0 : Int32) &&& 31)).toInt8.toInt32))) else f0 q) := A12
  have N19 : Fr n0 _ := Fr.snoc X9 (Fr.nil _) ga
  show Go p e below _ (T7.setTop (mkF m 44 #[.val (.ref a), .val (.int (1 : Int32)), .val (.int cc)] []))
  refine Go.aloadN (pc' := 45) X9 hx hby d22_44 rfl rfl rfl ?_
  refine Go.iloadN (pc' := 46) X9 hx hby d22_45 rfl rfl ?_
  refine Go.iloadN (pc' := 47) X9 hx hby d22_46 rfl rfl ?_
  refine Go.getSt (pc' := 50) X9 hx hby hZ hown (hw _ (List.mem_of_getElem? (i := 99) rfl)) Via.refl e10 f16 d22_47 rfl ?_
  intro T20 X21 e22
  refine Go.ishr (pc' := 51) X21 hx hby d22_50 rfl ?_
  refine Go.i2b (pc' := 52) X21 hx hby d22_51 rfl ?_
  refine Go.bastore (pc' := 53) (i := 1) X21 hx hby hZ e22 f18 d22_52 rfl (by decide) (by decide) (by decide) ?_
  intro T23 h24 X25 e26 W27 A28
  have f29 : Old Z n0 h24 := f13.wr W27 ga
  have f30 : Sta Z h24 "java/lang/StringUTF16" "$assertionsDisabled" "Z" (.int 1) := Sta.wr W27 f14
  have f31 : Sta Z h24 "java/lang/StringUTF16" "HI_BYTE_SHIFT" "I" (.int 0) := Sta.wr W27 f15
  have f32 : Sta Z h24 "java/lang/StringUTF16" "LO_BYTE_SHIFT" "I" (.int 8) := Sta.wr W27 f16
  have z33 : n0 ≤ h24.size := by rw [Wr.size W27]; exact z17
  have f34 : Ar Z h24 a .byte 2 (fun q => if q = 1 then (.int (nar .byte ((cc >>> ((8 : Int32) &&& 31)).toInt8.toInt32))) else if q = 0 then (.int (nar .byte ((cc >>> ((0 : Int32) &&& 31)).toInt8.toInt32))) else f0 q) := A28
  have N35 : Fr n0 _ := Fr.snoc X25 N19 ga
  show Go p e below _ (T23.setTop (mkF m 53 #[.val (.ref a), .val (.int (1 : Int32)), .val (.int cc)] []))
  exact Go.ret0 X25 hx hby hlk hret d22_53 (by decide) (by decide) ⟨rfl, N35, by rw [e26]; exact ((Keep.refl h0 _).wr W11 (Or.inl (List.mem_singleton.mpr rfl))).wr W27 (Or.inl (List.mem_singleton.mpr rfl)), by rw [e26]; exact f34⟩
theorem ef_23 (m : MethodId) (x0 : Addr) (x1 : Int32) : entryFrame m #[(.ref x0), (.int x1)] 2 = mkF m 0 #[.val (.ref x0), .val (.int x1)] [] := by first | (simp [entryFrame, mkF, argsToLocals, Value.category]; done) | rfl
set_option maxRecDepth 65536 in
set_option maxHeartbeats 40000000 in
theorem rmGC1_0 (l : Launch) (Z : State) (a0 : Array Value) (hw : ∀ d ∈ tables_1, d.before a0 Z = true) (a : Addr) (x1 : Int32) (h0 : Heap) (n0 : Nat) (kk : Int32) (sf : Value) (f0 : Int → Value) (y1 y2 cc : Int32) (O0 : Old Z n0 h0) (SS : own_S Z kk sf) (h1 : x1 = 0) (A0 : Ar Z h0 a .byte 2 (fun q => f0 q)) (q1 : f0 0 = .int y1) (q2 : f0 1 = .int y2) (g0 : own_gc y1 y2 = cc) :
    Con l Z (⟨"java/lang/StringUTF16", "getChar", "([BI)C"⟩ : MethodName) jdk_52_method_5_code 2 (some .char) [] ({ frames := 0, cells := 0, slots := 0, locals := 0 } : Room) #[(.ref a), (.int x1)] h0 (PQ (some (.int cc)) h0) := by
  refine Con.of (plainFor_of_name pn_StringUTF16) ?_
  intro p e s m below meth c s₁ hx hby hml hown hnm hret hlk hZ X0 e0
  refine Go.cast (ef_23 m a x1) ?_
  replace hown : s.vm.findClass "java/lang/StringUTF16" = some m.cls := hown
  subst h1
  show Go p e below _ (s₁.setTop (mkF m 0 #[.val (.ref a), .val (.int (0 : Int32))] []))
  have S1_ : Sta Z h0 "java/lang/StringUTF16" "$assertionsDisabled" "Z" (.int 1) := Sta.ext O0.2 SS.2.2.1
  have S2_ : Sta Z h0 "java/lang/StringUTF16" "HI_BYTE_SHIFT" "I" (.int 0) := Sta.ext O0.2 SS.2.2.2.1
  have S3_ : Sta Z h0 "java/lang/StringUTF16" "LO_BYTE_SHIFT" "I" (.int 8) := Sta.ext O0.2 SS.2.2.2.2.1
  refine Go.getSt (pc' := 3) X0 hx hby hZ hown (hw _ (List.mem_of_getElem? (i := 97) rfl)) Via.refl e0 S1_ d23_0 rfl ?_
  intro T1 X2 e3
  refine Go.ifY (pc' := 28) X2 hx hby d23_3 (by decide) (by decide) (show (1 : Int32) ≠ 0 from by decide) ?_
  refine Go.iloadN (pc' := 29) X2 hx hby d23_28 rfl rfl ?_
  refine Go.iconst (pc' := 30) X2 hx hby d23_29 rfl (v := (1 : Int32)) (by decide) ?_
  refine Go.ishl (pc' := 31) X2 hx hby d23_30 rfl ?_
  change Go p e below _ (T1.setTop (mkF m 31 #[.val (.ref a), .val (.int (0 : Int32))] [(.int (0 : Int32))]))
  refine Go.istoreN (Ls' := #[.val (.ref a), .val (.int (0 : Int32))]) (pc' := 32) X2 hx hby d23_31 rfl rfl ?_
  refine Go.aloadN (pc' := 33) X2 hx hby d23_32 rfl rfl rfl ?_
  refine Go.iloadN (pc' := 34) X2 hx hby d23_33 rfl rfl ?_
  refine Go.iinc (w := (0 : Int32) + (1 : Int32)) (Ls' := #[.val (.ref a), .val (.int ((0 : Int32) + (1 : Int32)))]) (pc' := 37) X2 hx hby d23_34 rfl rfl rfl rfl ?_
  change Go p e below _ (T1.setTop (mkF m 37 #[.val (.ref a), .val (.int (1 : Int32))] [(.int (0 : Int32)), (.ref a)]))
  refine Go.baload (pc' := 38) (i := 0) (v := (.int y1)) X2 hx hby hZ e3 A0 d23_37 rfl (by decide) (by decide) (by decide) q1 ?_
  refine Go.sipush (pc' := 41) X2 hx hby d23_38 rfl (v := (255 : Int32)) (by decide) ?_
  refine Go.iand (pc' := 42) X2 hx hby d23_41 rfl ?_
  refine Go.getSt (pc' := 45) X2 hx hby hZ hown (hw _ (List.mem_of_getElem? (i := 98) rfl)) Via.refl e3 S2_ d23_42 rfl ?_
  intro T4 X5 e6
  refine Go.ishl (pc' := 46) X5 hx hby d23_45 rfl ?_
  refine Go.aloadN (pc' := 47) X5 hx hby d23_46 rfl rfl rfl ?_
  refine Go.iloadN (pc' := 48) X5 hx hby d23_47 rfl rfl ?_
  refine Go.baload (pc' := 49) (i := 1) (v := (.int y2)) X5 hx hby hZ e6 A0 d23_48 rfl (by decide) (by decide) (by decide) q2 ?_
  refine Go.sipush (pc' := 52) X5 hx hby d23_49 rfl (v := (255 : Int32)) (by decide) ?_
  refine Go.iand (pc' := 53) X5 hx hby d23_52 rfl ?_
  refine Go.getSt (pc' := 56) X5 hx hby hZ hown (hw _ (List.mem_of_getElem? (i := 99) rfl)) Via.refl e6 S3_ d23_53 rfl ?_
  intro T7 X8 e9
  refine Go.ishl (pc' := 57) X8 hx hby d23_56 rfl ?_
  refine Go.ior (pc' := 58) X8 hx hby d23_57 rfl ?_
  refine Go.i2c (pc' := 59) X8 hx hby d23_58 rfl ?_
  exact Go.retZ X8 hx hby hlk hret (by simp) d23_59 (by decide) (by decide) ⟨by rw [← g0]; rfl, rfl, e9⟩
set_option maxRecDepth 65536 in
set_option maxHeartbeats 40000000 in
theorem rmPC2_0 (l : Launch) (Z : State) (a0 : Array Value) (hw : ∀ d ∈ tables_1, d.before a0 Z = true) (a : Addr) (x1 : Int32) (cc : Int32) (h0 : Heap) (n0 : Nat) (kk : Int32) (sf : Value) (f0 : Int → Value) (O0 : Old Z n0 h0) (SS : own_S Z kk sf) (Z0 : n0 ≤ h0.size) (ga : n0 ≤ a) (h1 : x1 = 0) (A0 : Ar Z h0 a .byte 4 (fun q => f0 q)) :
    Con l Z (⟨"java/lang/StringUTF16", "putChar", "([BII)V"⟩ : MethodName) jdk_52_method_4_code 3 none [] ({ frames := 0, cells := 0, slots := 0, locals := 0 } : Room) #[(.ref a), (.int x1), (.int cc)] h0 (fun v h L => v = none ∧ Fr n0 L ∧ Keep h0 h [a] ∧ Ar Z h a .byte 4 (fun q => if q = 1 then .int (own_hi cc) else if q = 0 then .int (own_lo cc) else f0 q)) := by
  refine Con.of (plainFor_of_name pn_StringUTF16) ?_
  intro p e s m below meth c s₁ hx hby hml hown hnm hret hlk hZ X0 e0
  refine Go.cast (ef_22 m a x1 cc) ?_
  replace hown : s.vm.findClass "java/lang/StringUTF16" = some m.cls := hown
  subst h1
  show Go p e below _ (s₁.setTop (mkF m 0 #[.val (.ref a), .val (.int (0 : Int32)), .val (.int cc)] []))
  have S1_ : Sta Z h0 "java/lang/StringUTF16" "$assertionsDisabled" "Z" (.int 1) := Sta.ext O0.2 SS.2.2.1
  have S2_ : Sta Z h0 "java/lang/StringUTF16" "HI_BYTE_SHIFT" "I" (.int 0) := Sta.ext O0.2 SS.2.2.2.1
  have S3_ : Sta Z h0 "java/lang/StringUTF16" "LO_BYTE_SHIFT" "I" (.int 8) := Sta.ext O0.2 SS.2.2.2.2.1
  refine Go.getSt (pc' := 3) X0 hx hby hZ hown (hw _ (List.mem_of_getElem? (i := 97) rfl)) Via.refl e0 S1_ d22_0 rfl ?_
  intro T1 X2 e3
  refine Go.ifY (pc' := 28) X2 hx hby d22_3 (by decide) (by decide) (show (1 : Int32) ≠ 0 from by decide) ?_
  refine Go.iloadN (pc' := 29) X2 hx hby d22_28 rfl rfl ?_
  refine Go.iconst (pc' := 30) X2 hx hby d22_29 rfl (v := (1 : Int32)) (by decide) ?_
  refine Go.ishl (pc' := 31) X2 hx hby d22_30 rfl ?_
  change Go p e below _ (T1.setTop (mkF m 31 #[.val (.ref a), .val (.int (0 : Int32)), .val (.int cc)] [(.int (0 : Int32))]))
  refine Go.istoreN (Ls' := #[.val (.ref a), .val (.int (0 : Int32)), .val (.int cc)]) (pc' := 32) X2 hx hby d22_31 rfl rfl ?_
  refine Go.aloadN (pc' := 33) X2 hx hby d22_32 rfl rfl rfl ?_
  refine Go.iloadN (pc' := 34) X2 hx hby d22_33 rfl rfl ?_
  refine Go.iinc (w := (0 : Int32) + (1 : Int32)) (Ls' := #[.val (.ref a), .val (.int ((0 : Int32) + (1 : Int32))), .val (.int cc)]) (pc' := 37) X2 hx hby d22_34 rfl rfl rfl rfl ?_
  change Go p e below _ (T1.setTop (mkF m 37 #[.val (.ref a), .val (.int (1 : Int32)), .val (.int cc)] [(.int (0 : Int32)), (.ref a)]))
  refine Go.iloadN (pc' := 38) X2 hx hby d22_37 rfl rfl ?_
  refine Go.getSt (pc' := 41) X2 hx hby hZ hown (hw _ (List.mem_of_getElem? (i := 98) rfl)) Via.refl e3 S2_ d22_38 rfl ?_
  intro T4 X5 e6
  refine Go.ishr (pc' := 42) X5 hx hby d22_41 rfl ?_
  refine Go.i2b (pc' := 43) X5 hx hby d22_42 rfl ?_
  refine Go.bastore (pc' := 44) (i := 0) X5 hx hby hZ e6 A0 d22_43 rfl (by decide) (by decide) (by decide) ?_
  intro T7 h8 X9 e10 W11 A12
  have f13 : Old Z n0 h8 := O0.wr W11 ga
  have f14 : Sta Z h8 "java/lang/StringUTF16" "$assertionsDisabled" "Z" (.int 1) := Sta.wr W11 S1_
  have f15 : Sta Z h8 "java/lang/StringUTF16" "HI_BYTE_SHIFT" "I" (.int 0) := Sta.wr W11 S2_
  have f16 : Sta Z h8 "java/lang/StringUTF16" "LO_BYTE_SHIFT" "I" (.int 8) := Sta.wr W11 S3_
  have z17 : n0 ≤ h8.size := by rw [Wr.size W11]; exact Z0
  have f18 : Ar Z h8 a .byte 4 (fun q => if q = 0 then (.int (nar .byte ((cc >>> ((0 : Int32) &&& 31)).toInt8.toInt32))) else f0 q) := A12
  have N19 : Fr n0 _ := Fr.snoc X9 (Fr.nil _) ga
  show Go p e below _ (T7.setTop (mkF m 44 #[.val (.ref a), .val (.int (1 : Int32)), .val (.int cc)] []))
  refine Go.aloadN (pc' := 45) X9 hx hby d22_44 rfl rfl rfl ?_
  refine Go.iloadN (pc' := 46) X9 hx hby d22_45 rfl rfl ?_
  refine Go.iloadN (pc' := 47) X9 hx hby d22_46 rfl rfl ?_
  refine Go.getSt (pc' := 50) X9 hx hby hZ hown (hw _ (List.mem_of_getElem? (i := 99) rfl)) Via.refl e10 f16 d22_47 rfl ?_
  intro T20 X21 e22
  refine Go.ishr (pc' := 51) X21 hx hby d22_50 rfl ?_
  refine Go.i2b (pc' := 52) X21 hx hby d22_51 rfl ?_
  refine Go.bastore (pc' := 53) (i := 1) X21 hx hby hZ e22 f18 d22_52 rfl (by decide) (by decide) (by decide) ?_
  intro T23 h24 X25 e26 W27 A28
  have f29 : Old Z n0 h24 := f13.wr W27 ga
  have f30 : Sta Z h24 "java/lang/StringUTF16" "$assertionsDisabled" "Z" (.int 1) := Sta.wr W27 f14
  have f31 : Sta Z h24 "java/lang/StringUTF16" "HI_BYTE_SHIFT" "I" (.int 0) := Sta.wr W27 f15
  have f32 : Sta Z h24 "java/lang/StringUTF16" "LO_BYTE_SHIFT" "I" (.int 8) := Sta.wr W27 f16
  have z33 : n0 ≤ h24.size := by rw [Wr.size W27]; exact z17
  have f34 : Ar Z h24 a .byte 4 (fun q => if q = 1 then (.int (nar .byte ((cc >>> ((8 : Int32) &&& 31)).toInt8.toInt32))) else if q = 0 then (.int (nar .byte ((cc >>> ((0 : Int32) &&& 31)).toInt8.toInt32))) else f0 q) := A28
  have N35 : Fr n0 _ := Fr.snoc X25 N19 ga
  show Go p e below _ (T23.setTop (mkF m 53 #[.val (.ref a), .val (.int (1 : Int32)), .val (.int cc)] []))
  exact Go.ret0 X25 hx hby hlk hret d22_53 (by decide) (by decide) ⟨rfl, N35, by rw [e26]; exact ((Keep.refl h0 _).wr W11 (Or.inl (List.mem_singleton.mpr rfl))).wr W27 (Or.inl (List.mem_singleton.mpr rfl)), by rw [e26]; exact f34⟩
set_option maxRecDepth 65536 in
set_option maxHeartbeats 40000000 in
theorem rmGC2_0 (l : Launch) (Z : State) (a0 : Array Value) (hw : ∀ d ∈ tables_1, d.before a0 Z = true) (a : Addr) (x1 : Int32) (h0 : Heap) (n0 : Nat) (kk : Int32) (sf : Value) (f0 : Int → Value) (y1 y2 cc : Int32) (O0 : Old Z n0 h0) (SS : own_S Z kk sf) (h1 : x1 = 0) (A0 : Ar Z h0 a .byte 4 (fun q => f0 q)) (q1 : f0 0 = .int y1) (q2 : f0 1 = .int y2) (g0 : own_gc y1 y2 = cc) :
    Con l Z (⟨"java/lang/StringUTF16", "getChar", "([BI)C"⟩ : MethodName) jdk_52_method_5_code 2 (some .char) [] ({ frames := 0, cells := 0, slots := 0, locals := 0 } : Room) #[(.ref a), (.int x1)] h0 (PQ (some (.int cc)) h0) := by
  refine Con.of (plainFor_of_name pn_StringUTF16) ?_
  intro p e s m below meth c s₁ hx hby hml hown hnm hret hlk hZ X0 e0
  refine Go.cast (ef_23 m a x1) ?_
  replace hown : s.vm.findClass "java/lang/StringUTF16" = some m.cls := hown
  subst h1
  show Go p e below _ (s₁.setTop (mkF m 0 #[.val (.ref a), .val (.int (0 : Int32))] []))
  have S1_ : Sta Z h0 "java/lang/StringUTF16" "$assertionsDisabled" "Z" (.int 1) := Sta.ext O0.2 SS.2.2.1
  have S2_ : Sta Z h0 "java/lang/StringUTF16" "HI_BYTE_SHIFT" "I" (.int 0) := Sta.ext O0.2 SS.2.2.2.1
  have S3_ : Sta Z h0 "java/lang/StringUTF16" "LO_BYTE_SHIFT" "I" (.int 8) := Sta.ext O0.2 SS.2.2.2.2.1
  refine Go.getSt (pc' := 3) X0 hx hby hZ hown (hw _ (List.mem_of_getElem? (i := 97) rfl)) Via.refl e0 S1_ d23_0 rfl ?_
  intro T1 X2 e3
  refine Go.ifY (pc' := 28) X2 hx hby d23_3 (by decide) (by decide) (show (1 : Int32) ≠ 0 from by decide) ?_
  refine Go.iloadN (pc' := 29) X2 hx hby d23_28 rfl rfl ?_
  refine Go.iconst (pc' := 30) X2 hx hby d23_29 rfl (v := (1 : Int32)) (by decide) ?_
  refine Go.ishl (pc' := 31) X2 hx hby d23_30 rfl ?_
  change Go p e below _ (T1.setTop (mkF m 31 #[.val (.ref a), .val (.int (0 : Int32))] [(.int (0 : Int32))]))
  refine Go.istoreN (Ls' := #[.val (.ref a), .val (.int (0 : Int32))]) (pc' := 32) X2 hx hby d23_31 rfl rfl ?_
  refine Go.aloadN (pc' := 33) X2 hx hby d23_32 rfl rfl rfl ?_
  refine Go.iloadN (pc' := 34) X2 hx hby d23_33 rfl rfl ?_
  refine Go.iinc (w := (0 : Int32) + (1 : Int32)) (Ls' := #[.val (.ref a), .val (.int ((0 : Int32) + (1 : Int32)))]) (pc' := 37) X2 hx hby d23_34 rfl rfl rfl rfl ?_
  change Go p e below _ (T1.setTop (mkF m 37 #[.val (.ref a), .val (.int (1 : Int32))] [(.int (0 : Int32)), (.ref a)]))
  refine Go.baload (pc' := 38) (i := 0) (v := (.int y1)) X2 hx hby hZ e3 A0 d23_37 rfl (by decide) (by decide) (by decide) q1 ?_
  refine Go.sipush (pc' := 41) X2 hx hby d23_38 rfl (v := (255 : Int32)) (by decide) ?_
  refine Go.iand (pc' := 42) X2 hx hby d23_41 rfl ?_
  refine Go.getSt (pc' := 45) X2 hx hby hZ hown (hw _ (List.mem_of_getElem? (i := 98) rfl)) Via.refl e3 S2_ d23_42 rfl ?_
  intro T4 X5 e6
  refine Go.ishl (pc' := 46) X5 hx hby d23_45 rfl ?_
  refine Go.aloadN (pc' := 47) X5 hx hby d23_46 rfl rfl rfl ?_
  refine Go.iloadN (pc' := 48) X5 hx hby d23_47 rfl rfl ?_
  refine Go.baload (pc' := 49) (i := 1) (v := (.int y2)) X5 hx hby hZ e6 A0 d23_48 rfl (by decide) (by decide) (by decide) q2 ?_
  refine Go.sipush (pc' := 52) X5 hx hby d23_49 rfl (v := (255 : Int32)) (by decide) ?_
  refine Go.iand (pc' := 53) X5 hx hby d23_52 rfl ?_
  refine Go.getSt (pc' := 56) X5 hx hby hZ hown (hw _ (List.mem_of_getElem? (i := 99) rfl)) Via.refl e6 S3_ d23_53 rfl ?_
  intro T7 X8 e9
  refine Go.ishl (pc' := 57) X8 hx hby d23_56 rfl ?_
  refine Go.ior (pc' := 58) X8 hx hby d23_57 rfl ?_
  refine Go.i2c (pc' := 59) X8 hx hby d23_58 rfl ?_
  exact Go.retZ X8 hx hby hlk hret (by simp) d23_59 (by decide) (by decide) ⟨by rw [← g0]; rfl, rfl, e9⟩
set_option maxRecDepth 65536 in
set_option maxHeartbeats 40000000 in
theorem rmPC2_1 (l : Launch) (Z : State) (a0 : Array Value) (hw : ∀ d ∈ tables_1, d.before a0 Z = true) (a : Addr) (x1 : Int32) (cc : Int32) (h0 : Heap) (n0 : Nat) (kk : Int32) (sf : Value) (f0 : Int → Value) (O0 : Old Z n0 h0) (SS : own_S Z kk sf) (Z0 : n0 ≤ h0.size) (ga : n0 ≤ a) (h1 : x1 = 1) (A0 : Ar Z h0 a .byte 4 (fun q => f0 q)) :
    Con l Z (⟨"java/lang/StringUTF16", "putChar", "([BII)V"⟩ : MethodName) jdk_52_method_4_code 3 none [] ({ frames := 0, cells := 0, slots := 0, locals := 0 } : Room) #[(.ref a), (.int x1), (.int cc)] h0 (fun v h L => v = none ∧ Fr n0 L ∧ Keep h0 h [a] ∧ Ar Z h a .byte 4 (fun q => if q = 3 then .int (own_hi cc) else if q = 2 then .int (own_lo cc) else f0 q)) := by
  refine Con.of (plainFor_of_name pn_StringUTF16) ?_
  intro p e s m below meth c s₁ hx hby hml hown hnm hret hlk hZ X0 e0
  refine Go.cast (ef_22 m a x1 cc) ?_
  replace hown : s.vm.findClass "java/lang/StringUTF16" = some m.cls := hown
  subst h1
  show Go p e below _ (s₁.setTop (mkF m 0 #[.val (.ref a), .val (.int (1 : Int32)), .val (.int cc)] []))
  have S1_ : Sta Z h0 "java/lang/StringUTF16" "$assertionsDisabled" "Z" (.int 1) := Sta.ext O0.2 SS.2.2.1
  have S2_ : Sta Z h0 "java/lang/StringUTF16" "HI_BYTE_SHIFT" "I" (.int 0) := Sta.ext O0.2 SS.2.2.2.1
  have S3_ : Sta Z h0 "java/lang/StringUTF16" "LO_BYTE_SHIFT" "I" (.int 8) := Sta.ext O0.2 SS.2.2.2.2.1
  refine Go.getSt (pc' := 3) X0 hx hby hZ hown (hw _ (List.mem_of_getElem? (i := 97) rfl)) Via.refl e0 S1_ d22_0 rfl ?_
  intro T1 X2 e3
  refine Go.ifY (pc' := 28) X2 hx hby d22_3 (by decide) (by decide) (show (1 : Int32) ≠ 0 from by decide) ?_
  refine Go.iloadN (pc' := 29) X2 hx hby d22_28 rfl rfl ?_
  refine Go.iconst (pc' := 30) X2 hx hby d22_29 rfl (v := (1 : Int32)) (by decide) ?_
  refine Go.ishl (pc' := 31) X2 hx hby d22_30 rfl ?_
  change Go p e below _ (T1.setTop (mkF m 31 #[.val (.ref a), .val (.int (1 : Int32)), .val (.int cc)] [(.int (2 : Int32))]))
  refine Go.istoreN (Ls' := #[.val (.ref a), .val (.int (2 : Int32)), .val (.int cc)]) (pc' := 32) X2 hx hby d22_31 rfl rfl ?_
  refine Go.aloadN (pc' := 33) X2 hx hby d22_32 rfl rfl rfl ?_
  refine Go.iloadN (pc' := 34) X2 hx hby d22_33 rfl rfl ?_
  refine Go.iinc (w := (2 : Int32) + (1 : Int32)) (Ls' := #[.val (.ref a), .val (.int ((2 : Int32) + (1 : Int32))), .val (.int cc)]) (pc' := 37) X2 hx hby d22_34 rfl rfl rfl rfl ?_
  change Go p e below _ (T1.setTop (mkF m 37 #[.val (.ref a), .val (.int (3 : Int32)), .val (.int cc)] [(.int (2 : Int32)), (.ref a)]))
  refine Go.iloadN (pc' := 38) X2 hx hby d22_37 rfl rfl ?_
  refine Go.getSt (pc' := 41) X2 hx hby hZ hown (hw _ (List.mem_of_getElem? (i := 98) rfl)) Via.refl e3 S2_ d22_38 rfl ?_
  intro T4 X5 e6
  refine Go.ishr (pc' := 42) X5 hx hby d22_41 rfl ?_
  refine Go.i2b (pc' := 43) X5 hx hby d22_42 rfl ?_
  refine Go.bastore (pc' := 44) (i := 2) X5 hx hby hZ e6 A0 d22_43 rfl (by decide) (by decide) (by decide) ?_
  intro T7 h8 X9 e10 W11 A12
  have f13 : Old Z n0 h8 := O0.wr W11 ga
  have f14 : Sta Z h8 "java/lang/StringUTF16" "$assertionsDisabled" "Z" (.int 1) := Sta.wr W11 S1_
  have f15 : Sta Z h8 "java/lang/StringUTF16" "HI_BYTE_SHIFT" "I" (.int 0) := Sta.wr W11 S2_
  have f16 : Sta Z h8 "java/lang/StringUTF16" "LO_BYTE_SHIFT" "I" (.int 8) := Sta.wr W11 S3_
  have z17 : n0 ≤ h8.size := by rw [Wr.size W11]; exact Z0
  have f18 : Ar Z h8 a .byte 4 (fun q => if q = 2 then (.int (nar .byte ((cc >>> ((0 : Int32) &&& 31)).toInt8.toInt32))) else f0 q) := A12
  have N19 : Fr n0 _ := Fr.snoc X9 (Fr.nil _) ga
  show Go p e below _ (T7.setTop (mkF m 44 #[.val (.ref a), .val (.int (3 : Int32)), .val (.int cc)] []))
  refine Go.aloadN (pc' := 45) X9 hx hby d22_44 rfl rfl rfl ?_
  refine Go.iloadN (pc' := 46) X9 hx hby d22_45 rfl rfl ?_
  refine Go.iloadN (pc' := 47) X9 hx hby d22_46 rfl rfl ?_
  refine Go.getSt (pc' := 50) X9 hx hby hZ hown (hw _ (List.mem_of_getElem? (i := 99) rfl)) Via.refl e10 f16 d22_47 rfl ?_
  intro T20 X21 e22
  refine Go.ishr (pc' := 51) X21 hx hby d22_50 rfl ?_
  refine Go.i2b (pc' := 52) X21 hx hby d22_51 rfl ?_
  refine Go.bastore (pc' := 53) (i := 3) X21 hx hby hZ e22 f18 d22_52 rfl (by decide) (by decide) (by decide) ?_
  intro T23 h24 X25 e26 W27 A28
  have f29 : Old Z n0 h24 := f13.wr W27 ga
  have f30 : Sta Z h24 "java/lang/StringUTF16" "$assertionsDisabled" "Z" (.int 1) := Sta.wr W27 f14
  have f31 : Sta Z h24 "java/lang/StringUTF16" "HI_BYTE_SHIFT" "I" (.int 0) := Sta.wr W27 f15
  have f32 : Sta Z h24 "java/lang/StringUTF16" "LO_BYTE_SHIFT" "I" (.int 8) := Sta.wr W27 f16
  have z33 : n0 ≤ h24.size := by rw [Wr.size W27]; exact z17
  have f34 : Ar Z h24 a .byte 4 (fun q => if q = 3 then (.int (nar .byte ((cc >>> ((8 : Int32) &&& 31)).toInt8.toInt32))) else if q = 2 then (.int (nar .byte ((cc >>> ((0 : Int32) &&& 31)).toInt8.toInt32))) else f0 q) := A28
  have N35 : Fr n0 _ := Fr.snoc X25 N19 ga
  show Go p e below _ (T23.setTop (mkF m 53 #[.val (.ref a), .val (.int (3 : Int32)), .val (.int cc)] []))
  exact Go.ret0 X25 hx hby hlk hret d22_53 (by decide) (by decide) ⟨rfl, N35, by rw [e26]; exact ((Keep.refl h0 _).wr W11 (Or.inl (List.mem_singleton.mpr rfl))).wr W27 (Or.inl (List.mem_singleton.mpr rfl)), by rw [e26]; exact f34⟩
set_option maxRecDepth 65536 in
set_option maxHeartbeats 40000000 in
theorem rmGC2_1 (l : Launch) (Z : State) (a0 : Array Value) (hw : ∀ d ∈ tables_1, d.before a0 Z = true) (a : Addr) (x1 : Int32) (h0 : Heap) (n0 : Nat) (kk : Int32) (sf : Value) (f0 : Int → Value) (y1 y2 cc : Int32) (O0 : Old Z n0 h0) (SS : own_S Z kk sf) (h1 : x1 = 1) (A0 : Ar Z h0 a .byte 4 (fun q => f0 q)) (q1 : f0 2 = .int y1) (q2 : f0 3 = .int y2) (g0 : own_gc y1 y2 = cc) :
    Con l Z (⟨"java/lang/StringUTF16", "getChar", "([BI)C"⟩ : MethodName) jdk_52_method_5_code 2 (some .char) [] ({ frames := 0, cells := 0, slots := 0, locals := 0 } : Room) #[(.ref a), (.int x1)] h0 (PQ (some (.int cc)) h0) := by
  refine Con.of (plainFor_of_name pn_StringUTF16) ?_
  intro p e s m below meth c s₁ hx hby hml hown hnm hret hlk hZ X0 e0
  refine Go.cast (ef_23 m a x1) ?_
  replace hown : s.vm.findClass "java/lang/StringUTF16" = some m.cls := hown
  subst h1
  show Go p e below _ (s₁.setTop (mkF m 0 #[.val (.ref a), .val (.int (1 : Int32))] []))
  have S1_ : Sta Z h0 "java/lang/StringUTF16" "$assertionsDisabled" "Z" (.int 1) := Sta.ext O0.2 SS.2.2.1
  have S2_ : Sta Z h0 "java/lang/StringUTF16" "HI_BYTE_SHIFT" "I" (.int 0) := Sta.ext O0.2 SS.2.2.2.1
  have S3_ : Sta Z h0 "java/lang/StringUTF16" "LO_BYTE_SHIFT" "I" (.int 8) := Sta.ext O0.2 SS.2.2.2.2.1
  refine Go.getSt (pc' := 3) X0 hx hby hZ hown (hw _ (List.mem_of_getElem? (i := 97) rfl)) Via.refl e0 S1_ d23_0 rfl ?_
  intro T1 X2 e3
  refine Go.ifY (pc' := 28) X2 hx hby d23_3 (by decide) (by decide) (show (1 : Int32) ≠ 0 from by decide) ?_
  refine Go.iloadN (pc' := 29) X2 hx hby d23_28 rfl rfl ?_
  refine Go.iconst (pc' := 30) X2 hx hby d23_29 rfl (v := (1 : Int32)) (by decide) ?_
  refine Go.ishl (pc' := 31) X2 hx hby d23_30 rfl ?_
  change Go p e below _ (T1.setTop (mkF m 31 #[.val (.ref a), .val (.int (1 : Int32))] [(.int (2 : Int32))]))
  refine Go.istoreN (Ls' := #[.val (.ref a), .val (.int (2 : Int32))]) (pc' := 32) X2 hx hby d23_31 rfl rfl ?_
  refine Go.aloadN (pc' := 33) X2 hx hby d23_32 rfl rfl rfl ?_
  refine Go.iloadN (pc' := 34) X2 hx hby d23_33 rfl rfl ?_
  refine Go.iinc (w := (2 : Int32) + (1 : Int32)) (Ls' := #[.val (.ref a), .val (.int ((2 : Int32) + (1 : Int32)))]) (pc' := 37) X2 hx hby d23_34 rfl rfl rfl rfl ?_
  change Go p e below _ (T1.setTop (mkF m 37 #[.val (.ref a), .val (.int (3 : Int32))] [(.int (2 : Int32)), (.ref a)]))
  refine Go.baload (pc' := 38) (i := 2) (v := (.int y1)) X2 hx hby hZ e3 A0 d23_37 rfl (by decide) (by decide) (by decide) q1 ?_
  refine Go.sipush (pc' := 41) X2 hx hby d23_38 rfl (v := (255 : Int32)) (by decide) ?_
  refine Go.iand (pc' := 42) X2 hx hby d23_41 rfl ?_
  refine Go.getSt (pc' := 45) X2 hx hby hZ hown (hw _ (List.mem_of_getElem? (i := 98) rfl)) Via.refl e3 S2_ d23_42 rfl ?_
  intro T4 X5 e6
  refine Go.ishl (pc' := 46) X5 hx hby d23_45 rfl ?_
  refine Go.aloadN (pc' := 47) X5 hx hby d23_46 rfl rfl rfl ?_
  refine Go.iloadN (pc' := 48) X5 hx hby d23_47 rfl rfl ?_
  refine Go.baload (pc' := 49) (i := 3) (v := (.int y2)) X5 hx hby hZ e6 A0 d23_48 rfl (by decide) (by decide) (by decide) q2 ?_
  refine Go.sipush (pc' := 52) X5 hx hby d23_49 rfl (v := (255 : Int32)) (by decide) ?_
  refine Go.iand (pc' := 53) X5 hx hby d23_52 rfl ?_
  refine Go.getSt (pc' := 56) X5 hx hby hZ hown (hw _ (List.mem_of_getElem? (i := 99) rfl)) Via.refl e6 S3_ d23_53 rfl ?_
  intro T7 X8 e9
  refine Go.ishl (pc' := 57) X8 hx hby d23_56 rfl ?_
  refine Go.ior (pc' := 58) X8 hx hby d23_57 rfl ?_
  refine Go.i2c (pc' := 59) X8 hx hby d23_58 rfl ?_
  exact Go.retZ X8 hx hby hlk hret (by simp) d23_59 (by decide) (by decide) ⟨by rw [← g0]; rfl, rfl, e9⟩
set_option maxRecDepth 65536 in
set_option maxHeartbeats 40000000 in
theorem rmPC3_0 (l : Launch) (Z : State) (a0 : Array Value) (hw : ∀ d ∈ tables_1, d.before a0 Z = true) (a : Addr) (x1 : Int32) (cc : Int32) (h0 : Heap) (n0 : Nat) (kk : Int32) (sf : Value) (f0 : Int → Value) (O0 : Old Z n0 h0) (SS : own_S Z kk sf) (Z0 : n0 ≤ h0.size) (ga : n0 ≤ a) (h1 : x1 = 0) (A0 : Ar Z h0 a .byte 6 (fun q => f0 q)) :
    Con l Z (⟨"java/lang/StringUTF16", "putChar", "([BII)V"⟩ : MethodName) jdk_52_method_4_code 3 none [] ({ frames := 0, cells := 0, slots := 0, locals := 0 } : Room) #[(.ref a), (.int x1), (.int cc)] h0 (fun v h L => v = none ∧ Fr n0 L ∧ Keep h0 h [a] ∧ Ar Z h a .byte 6 (fun q => if q = 1 then .int (own_hi cc) else if q = 0 then .int (own_lo cc) else f0 q)) := by
  refine Con.of (plainFor_of_name pn_StringUTF16) ?_
  intro p e s m below meth c s₁ hx hby hml hown hnm hret hlk hZ X0 e0
  refine Go.cast (ef_22 m a x1 cc) ?_
  replace hown : s.vm.findClass "java/lang/StringUTF16" = some m.cls := hown
  subst h1
  show Go p e below _ (s₁.setTop (mkF m 0 #[.val (.ref a), .val (.int (0 : Int32)), .val (.int cc)] []))
  have S1_ : Sta Z h0 "java/lang/StringUTF16" "$assertionsDisabled" "Z" (.int 1) := Sta.ext O0.2 SS.2.2.1
  have S2_ : Sta Z h0 "java/lang/StringUTF16" "HI_BYTE_SHIFT" "I" (.int 0) := Sta.ext O0.2 SS.2.2.2.1
  have S3_ : Sta Z h0 "java/lang/StringUTF16" "LO_BYTE_SHIFT" "I" (.int 8) := Sta.ext O0.2 SS.2.2.2.2.1
  refine Go.getSt (pc' := 3) X0 hx hby hZ hown (hw _ (List.mem_of_getElem? (i := 97) rfl)) Via.refl e0 S1_ d22_0 rfl ?_
  intro T1 X2 e3
  refine Go.ifY (pc' := 28) X2 hx hby d22_3 (by decide) (by decide) (show (1 : Int32) ≠ 0 from by decide) ?_
  refine Go.iloadN (pc' := 29) X2 hx hby d22_28 rfl rfl ?_
  refine Go.iconst (pc' := 30) X2 hx hby d22_29 rfl (v := (1 : Int32)) (by decide) ?_
  refine Go.ishl (pc' := 31) X2 hx hby d22_30 rfl ?_
  change Go p e below _ (T1.setTop (mkF m 31 #[.val (.ref a), .val (.int (0 : Int32)), .val (.int cc)] [(.int (0 : Int32))]))
  refine Go.istoreN (Ls' := #[.val (.ref a), .val (.int (0 : Int32)), .val (.int cc)]) (pc' := 32) X2 hx hby d22_31 rfl rfl ?_
  refine Go.aloadN (pc' := 33) X2 hx hby d22_32 rfl rfl rfl ?_
  refine Go.iloadN (pc' := 34) X2 hx hby d22_33 rfl rfl ?_
  refine Go.iinc (w := (0 : Int32) + (1 : Int32)) (Ls' := #[.val (.ref a), .val (.int ((0 : Int32) + (1 : Int32))), .val (.int cc)]) (pc' := 37) X2 hx hby d22_34 rfl rfl rfl rfl ?_
  change Go p e below _ (T1.setTop (mkF m 37 #[.val (.ref a), .val (.int (1 : Int32)), .val (.int cc)] [(.int (0 : Int32)), (.ref a)]))
  refine Go.iloadN (pc' := 38) X2 hx hby d22_37 rfl rfl ?_
  refine Go.getSt (pc' := 41) X2 hx hby hZ hown (hw _ (List.mem_of_getElem? (i := 98) rfl)) Via.refl e3 S2_ d22_38 rfl ?_
  intro T4 X5 e6
  refine Go.ishr (pc' := 42) X5 hx hby d22_41 rfl ?_
  refine Go.i2b (pc' := 43) X5 hx hby d22_42 rfl ?_
  refine Go.bastore (pc' := 44) (i := 0) X5 hx hby hZ e6 A0 d22_43 rfl (by decide) (by decide) (by decide) ?_
  intro T7 h8 X9 e10 W11 A12
  have f13 : Old Z n0 h8 := O0.wr W11 ga
  have f14 : Sta Z h8 "java/lang/StringUTF16" "$assertionsDisabled" "Z" (.int 1) := Sta.wr W11 S1_
  have f15 : Sta Z h8 "java/lang/StringUTF16" "HI_BYTE_SHIFT" "I" (.int 0) := Sta.wr W11 S2_
  have f16 : Sta Z h8 "java/lang/StringUTF16" "LO_BYTE_SHIFT" "I" (.int 8) := Sta.wr W11 S3_
  have z17 : n0 ≤ h8.size := by rw [Wr.size W11]; exact Z0
  have f18 : Ar Z h8 a .byte 6 (fun q => if q = 0 then (.int (nar .byte ((cc >>> ((0 : Int32) &&& 31)).toInt8.toInt32))) else f0 q) := A12
  have N19 : Fr n0 _ := Fr.snoc X9 (Fr.nil _) ga
  show Go p e below _ (T7.setTop (mkF m 44 #[.val (.ref a), .val (.int (1 : Int32)), .val (.int cc)] []))
  refine Go.aloadN (pc' := 45) X9 hx hby d22_44 rfl rfl rfl ?_
  refine Go.iloadN (pc' := 46) X9 hx hby d22_45 rfl rfl ?_
  refine Go.iloadN (pc' := 47) X9 hx hby d22_46 rfl rfl ?_
  refine Go.getSt (pc' := 50) X9 hx hby hZ hown (hw _ (List.mem_of_getElem? (i := 99) rfl)) Via.refl e10 f16 d22_47 rfl ?_
  intro T20 X21 e22
  refine Go.ishr (pc' := 51) X21 hx hby d22_50 rfl ?_
  refine Go.i2b (pc' := 52) X21 hx hby d22_51 rfl ?_
  refine Go.bastore (pc' := 53) (i := 1) X21 hx hby hZ e22 f18 d22_52 rfl (by decide) (by decide) (by decide) ?_
  intro T23 h24 X25 e26 W27 A28
  have f29 : Old Z n0 h24 := f13.wr W27 ga
  have f30 : Sta Z h24 "java/lang/StringUTF16" "$assertionsDisabled" "Z" (.int 1) := Sta.wr W27 f14
  have f31 : Sta Z h24 "java/lang/StringUTF16" "HI_BYTE_SHIFT" "I" (.int 0) := Sta.wr W27 f15
  have f32 : Sta Z h24 "java/lang/StringUTF16" "LO_BYTE_SHIFT" "I" (.int 8) := Sta.wr W27 f16
  have z33 : n0 ≤ h24.size := by rw [Wr.size W27]; exact z17
  have f34 : Ar Z h24 a .byte 6 (fun q => if q = 1 then (.int (nar .byte ((cc >>> ((8 : Int32) &&& 31)).toInt8.toInt32))) else if q = 0 then (.int (nar .byte ((cc >>> ((0 : Int32) &&& 31)).toInt8.toInt32))) else f0 q) := A28
  have N35 : Fr n0 _ := Fr.snoc X25 N19 ga
  show Go p e below _ (T23.setTop (mkF m 53 #[.val (.ref a), .val (.int (1 : Int32)), .val (.int cc)] []))
  exact Go.ret0 X25 hx hby hlk hret d22_53 (by decide) (by decide) ⟨rfl, N35, by rw [e26]; exact ((Keep.refl h0 _).wr W11 (Or.inl (List.mem_singleton.mpr rfl))).wr W27 (Or.inl (List.mem_singleton.mpr rfl)), by rw [e26]; exact f34⟩
set_option maxRecDepth 65536 in
set_option maxHeartbeats 40000000 in
theorem rmGC3_0 (l : Launch) (Z : State) (a0 : Array Value) (hw : ∀ d ∈ tables_1, d.before a0 Z = true) (a : Addr) (x1 : Int32) (h0 : Heap) (n0 : Nat) (kk : Int32) (sf : Value) (f0 : Int → Value) (y1 y2 cc : Int32) (O0 : Old Z n0 h0) (SS : own_S Z kk sf) (h1 : x1 = 0) (A0 : Ar Z h0 a .byte 6 (fun q => f0 q)) (q1 : f0 0 = .int y1) (q2 : f0 1 = .int y2) (g0 : own_gc y1 y2 = cc) :
    Con l Z (⟨"java/lang/StringUTF16", "getChar", "([BI)C"⟩ : MethodName) jdk_52_method_5_code 2 (some .char) [] ({ frames := 0, cells := 0, slots := 0, locals := 0 } : Room) #[(.ref a), (.int x1)] h0 (PQ (some (.int cc)) h0) := by
  refine Con.of (plainFor_of_name pn_StringUTF16) ?_
  intro p e s m below meth c s₁ hx hby hml hown hnm hret hlk hZ X0 e0
  refine Go.cast (ef_23 m a x1) ?_
  replace hown : s.vm.findClass "java/lang/StringUTF16" = some m.cls := hown
  subst h1
  show Go p e below _ (s₁.setTop (mkF m 0 #[.val (.ref a), .val (.int (0 : Int32))] []))
  have S1_ : Sta Z h0 "java/lang/StringUTF16" "$assertionsDisabled" "Z" (.int 1) := Sta.ext O0.2 SS.2.2.1
  have S2_ : Sta Z h0 "java/lang/StringUTF16" "HI_BYTE_SHIFT" "I" (.int 0) := Sta.ext O0.2 SS.2.2.2.1
  have S3_ : Sta Z h0 "java/lang/StringUTF16" "LO_BYTE_SHIFT" "I" (.int 8) := Sta.ext O0.2 SS.2.2.2.2.1
  refine Go.getSt (pc' := 3) X0 hx hby hZ hown (hw _ (List.mem_of_getElem? (i := 97) rfl)) Via.refl e0 S1_ d23_0 rfl ?_
  intro T1 X2 e3
  refine Go.ifY (pc' := 28) X2 hx hby d23_3 (by decide) (by decide) (show (1 : Int32) ≠ 0 from by decide) ?_
  refine Go.iloadN (pc' := 29) X2 hx hby d23_28 rfl rfl ?_
  refine Go.iconst (pc' := 30) X2 hx hby d23_29 rfl (v := (1 : Int32)) (by decide) ?_
  refine Go.ishl (pc' := 31) X2 hx hby d23_30 rfl ?_
  change Go p e below _ (T1.setTop (mkF m 31 #[.val (.ref a), .val (.int (0 : Int32))] [(.int (0 : Int32))]))
  refine Go.istoreN (Ls' := #[.val (.ref a), .val (.int (0 : Int32))]) (pc' := 32) X2 hx hby d23_31 rfl rfl ?_
  refine Go.aloadN (pc' := 33) X2 hx hby d23_32 rfl rfl rfl ?_
  refine Go.iloadN (pc' := 34) X2 hx hby d23_33 rfl rfl ?_
  refine Go.iinc (w := (0 : Int32) + (1 : Int32)) (Ls' := #[.val (.ref a), .val (.int ((0 : Int32) + (1 : Int32)))]) (pc' := 37) X2 hx hby d23_34 rfl rfl rfl rfl ?_
  change Go p e below _ (T1.setTop (mkF m 37 #[.val (.ref a), .val (.int (1 : Int32))] [(.int (0 : Int32)), (.ref a)]))
  refine Go.baload (pc' := 38) (i := 0) (v := (.int y1)) X2 hx hby hZ e3 A0 d23_37 rfl (by decide) (by decide) (by decide) q1 ?_
  refine Go.sipush (pc' := 41) X2 hx hby d23_38 rfl (v := (255 : Int32)) (by decide) ?_
  refine Go.iand (pc' := 42) X2 hx hby d23_41 rfl ?_
  refine Go.getSt (pc' := 45) X2 hx hby hZ hown (hw _ (List.mem_of_getElem? (i := 98) rfl)) Via.refl e3 S2_ d23_42 rfl ?_
  intro T4 X5 e6
  refine Go.ishl (pc' := 46) X5 hx hby d23_45 rfl ?_
  refine Go.aloadN (pc' := 47) X5 hx hby d23_46 rfl rfl rfl ?_
  refine Go.iloadN (pc' := 48) X5 hx hby d23_47 rfl rfl ?_
  refine Go.baload (pc' := 49) (i := 1) (v := (.int y2)) X5 hx hby hZ e6 A0 d23_48 rfl (by decide) (by decide) (by decide) q2 ?_
  refine Go.sipush (pc' := 52) X5 hx hby d23_49 rfl (v := (255 : Int32)) (by decide) ?_
  refine Go.iand (pc' := 53) X5 hx hby d23_52 rfl ?_
  refine Go.getSt (pc' := 56) X5 hx hby hZ hown (hw _ (List.mem_of_getElem? (i := 99) rfl)) Via.refl e6 S3_ d23_53 rfl ?_
  intro T7 X8 e9
  refine Go.ishl (pc' := 57) X8 hx hby d23_56 rfl ?_
  refine Go.ior (pc' := 58) X8 hx hby d23_57 rfl ?_
  refine Go.i2c (pc' := 59) X8 hx hby d23_58 rfl ?_
  exact Go.retZ X8 hx hby hlk hret (by simp) d23_59 (by decide) (by decide) ⟨by rw [← g0]; rfl, rfl, e9⟩
set_option maxRecDepth 65536 in
set_option maxHeartbeats 40000000 in
theorem rmPC3_1 (l : Launch) (Z : State) (a0 : Array Value) (hw : ∀ d ∈ tables_1, d.before a0 Z = true) (a : Addr) (x1 : Int32) (cc : Int32) (h0 : Heap) (n0 : Nat) (kk : Int32) (sf : Value) (f0 : Int → Value) (O0 : Old Z n0 h0) (SS : own_S Z kk sf) (Z0 : n0 ≤ h0.size) (ga : n0 ≤ a) (h1 : x1 = 1) (A0 : Ar Z h0 a .byte 6 (fun q => f0 q)) :
    Con l Z (⟨"java/lang/StringUTF16", "putChar", "([BII)V"⟩ : MethodName) jdk_52_method_4_code 3 none [] ({ frames := 0, cells := 0, slots := 0, locals := 0 } : Room) #[(.ref a), (.int x1), (.int cc)] h0 (fun v h L => v = none ∧ Fr n0 L ∧ Keep h0 h [a] ∧ Ar Z h a .byte 6 (fun q => if q = 3 then .int (own_hi cc) else if q = 2 then .int (own_lo cc) else f0 q)) := by
  refine Con.of (plainFor_of_name pn_StringUTF16) ?_
  intro p e s m below meth c s₁ hx hby hml hown hnm hret hlk hZ X0 e0
  refine Go.cast (ef_22 m a x1 cc) ?_
  replace hown : s.vm.findClass "java/lang/StringUTF16" = some m.cls := hown
  subst h1
  show Go p e below _ (s₁.setTop (mkF m 0 #[.val (.ref a), .val (.int (1 : Int32)), .val (.int cc)] []))
  have S1_ : Sta Z h0 "java/lang/StringUTF16" "$assertionsDisabled" "Z" (.int 1) := Sta.ext O0.2 SS.2.2.1
  have S2_ : Sta Z h0 "java/lang/StringUTF16" "HI_BYTE_SHIFT" "I" (.int 0) := Sta.ext O0.2 SS.2.2.2.1
  have S3_ : Sta Z h0 "java/lang/StringUTF16" "LO_BYTE_SHIFT" "I" (.int 8) := Sta.ext O0.2 SS.2.2.2.2.1
  refine Go.getSt (pc' := 3) X0 hx hby hZ hown (hw _ (List.mem_of_getElem? (i := 97) rfl)) Via.refl e0 S1_ d22_0 rfl ?_
  intro T1 X2 e3
  refine Go.ifY (pc' := 28) X2 hx hby d22_3 (by decide) (by decide) (show (1 : Int32) ≠ 0 from by decide) ?_
  refine Go.iloadN (pc' := 29) X2 hx hby d22_28 rfl rfl ?_
  refine Go.iconst (pc' := 30) X2 hx hby d22_29 rfl (v := (1 : Int32)) (by decide) ?_
  refine Go.ishl (pc' := 31) X2 hx hby d22_30 rfl ?_
  change Go p e below _ (T1.setTop (mkF m 31 #[.val (.ref a), .val (.int (1 : Int32)), .val (.int cc)] [(.int (2 : Int32))]))
  refine Go.istoreN (Ls' := #[.val (.ref a), .val (.int (2 : Int32)), .val (.int cc)]) (pc' := 32) X2 hx hby d22_31 rfl rfl ?_
  refine Go.aloadN (pc' := 33) X2 hx hby d22_32 rfl rfl rfl ?_
  refine Go.iloadN (pc' := 34) X2 hx hby d22_33 rfl rfl ?_
  refine Go.iinc (w := (2 : Int32) + (1 : Int32)) (Ls' := #[.val (.ref a), .val (.int ((2 : Int32) + (1 : Int32))), .val (.int cc)]) (pc' := 37) X2 hx hby d22_34 rfl rfl rfl rfl ?_
  change Go p e below _ (T1.setTop (mkF m 37 #[.val (.ref a), .val (.int (3 : Int32)), .val (.int cc)] [(.int (2 : Int32)), (.ref a)]))
  refine Go.iloadN (pc' := 38) X2 hx hby d22_37 rfl rfl ?_
  refine Go.getSt (pc' := 41) X2 hx hby hZ hown (hw _ (List.mem_of_getElem? (i := 98) rfl)) Via.refl e3 S2_ d22_38 rfl ?_
  intro T4 X5 e6
  refine Go.ishr (pc' := 42) X5 hx hby d22_41 rfl ?_
  refine Go.i2b (pc' := 43) X5 hx hby d22_42 rfl ?_
  refine Go.bastore (pc' := 44) (i := 2) X5 hx hby hZ e6 A0 d22_43 rfl (by decide) (by decide) (by decide) ?_
  intro T7 h8 X9 e10 W11 A12
  have f13 : Old Z n0 h8 := O0.wr W11 ga
  have f14 : Sta Z h8 "java/lang/StringUTF16" "$assertionsDisabled" "Z" (.int 1) := Sta.wr W11 S1_
  have f15 : Sta Z h8 "java/lang/StringUTF16" "HI_BYTE_SHIFT" "I" (.int 0) := Sta.wr W11 S2_
  have f16 : Sta Z h8 "java/lang/StringUTF16" "LO_BYTE_SHIFT" "I" (.int 8) := Sta.wr W11 S3_
  have z17 : n0 ≤ h8.size := by rw [Wr.size W11]; exact Z0
  have f18 : Ar Z h8 a .byte 6 (fun q => if q = 2 then (.int (nar .byte ((cc >>> ((0 : Int32) &&& 31)).toInt8.toInt32))) else f0 q) := A12
  have N19 : Fr n0 _ := Fr.snoc X9 (Fr.nil _) ga
  show Go p e below _ (T7.setTop (mkF m 44 #[.val (.ref a), .val (.int (3 : Int32)), .val (.int cc)] []))
  refine Go.aloadN (pc' := 45) X9 hx hby d22_44 rfl rfl rfl ?_
  refine Go.iloadN (pc' := 46) X9 hx hby d22_45 rfl rfl ?_
  refine Go.iloadN (pc' := 47) X9 hx hby d22_46 rfl rfl ?_
  refine Go.getSt (pc' := 50) X9 hx hby hZ hown (hw _ (List.mem_of_getElem? (i := 99) rfl)) Via.refl e10 f16 d22_47 rfl ?_
  intro T20 X21 e22
  refine Go.ishr (pc' := 51) X21 hx hby d22_50 rfl ?_
  refine Go.i2b (pc' := 52) X21 hx hby d22_51 rfl ?_
  refine Go.bastore (pc' := 53) (i := 3) X21 hx hby hZ e22 f18 d22_52 rfl (by decide) (by decide) (by decide) ?_
  intro T23 h24 X25 e26 W27 A28
  have f29 : Old Z n0 h24 := f13.wr W27 ga
  have f30 : Sta Z h24 "java/lang/StringUTF16" "$assertionsDisabled" "Z" (.int 1) := Sta.wr W27 f14
  have f31 : Sta Z h24 "java/lang/StringUTF16" "HI_BYTE_SHIFT" "I" (.int 0) := Sta.wr W27 f15
  have f32 : Sta Z h24 "java/lang/StringUTF16" "LO_BYTE_SHIFT" "I" (.int 8) := Sta.wr W27 f16
  have z33 : n0 ≤ h24.size := by rw [Wr.size W27]; exact z17
  have f34 : Ar Z h24 a .byte 6 (fun q => if q = 3 then (.int (nar .byte ((cc >>> ((8 : Int32) &&& 31)).toInt8.toInt32))) else if q = 2 then (.int (nar .byte ((cc >>> ((0 : Int32) &&& 31)).toInt8.toInt32))) else f0 q) := A28
  have N35 : Fr n0 _ := Fr.snoc X25 N19 ga
  show Go p e below _ (T23.setTop (mkF m 53 #[.val (.ref a), .val (.int (3 : Int32)), .val (.int cc)] []))
  exact Go.ret0 X25 hx hby hlk hret d22_53 (by decide) (by decide) ⟨rfl, N35, by rw [e26]; exact ((Keep.refl h0 _).wr W11 (Or.inl (List.mem_singleton.mpr rfl))).wr W27 (Or.inl (List.mem_singleton.mpr rfl)), by rw [e26]; exact f34⟩
set_option maxRecDepth 65536 in
set_option maxHeartbeats 40000000 in
theorem rmGC3_1 (l : Launch) (Z : State) (a0 : Array Value) (hw : ∀ d ∈ tables_1, d.before a0 Z = true) (a : Addr) (x1 : Int32) (h0 : Heap) (n0 : Nat) (kk : Int32) (sf : Value) (f0 : Int → Value) (y1 y2 cc : Int32) (O0 : Old Z n0 h0) (SS : own_S Z kk sf) (h1 : x1 = 1) (A0 : Ar Z h0 a .byte 6 (fun q => f0 q)) (q1 : f0 2 = .int y1) (q2 : f0 3 = .int y2) (g0 : own_gc y1 y2 = cc) :
    Con l Z (⟨"java/lang/StringUTF16", "getChar", "([BI)C"⟩ : MethodName) jdk_52_method_5_code 2 (some .char) [] ({ frames := 0, cells := 0, slots := 0, locals := 0 } : Room) #[(.ref a), (.int x1)] h0 (PQ (some (.int cc)) h0) := by
  refine Con.of (plainFor_of_name pn_StringUTF16) ?_
  intro p e s m below meth c s₁ hx hby hml hown hnm hret hlk hZ X0 e0
  refine Go.cast (ef_23 m a x1) ?_
  replace hown : s.vm.findClass "java/lang/StringUTF16" = some m.cls := hown
  subst h1
  show Go p e below _ (s₁.setTop (mkF m 0 #[.val (.ref a), .val (.int (1 : Int32))] []))
  have S1_ : Sta Z h0 "java/lang/StringUTF16" "$assertionsDisabled" "Z" (.int 1) := Sta.ext O0.2 SS.2.2.1
  have S2_ : Sta Z h0 "java/lang/StringUTF16" "HI_BYTE_SHIFT" "I" (.int 0) := Sta.ext O0.2 SS.2.2.2.1
  have S3_ : Sta Z h0 "java/lang/StringUTF16" "LO_BYTE_SHIFT" "I" (.int 8) := Sta.ext O0.2 SS.2.2.2.2.1
  refine Go.getSt (pc' := 3) X0 hx hby hZ hown (hw _ (List.mem_of_getElem? (i := 97) rfl)) Via.refl e0 S1_ d23_0 rfl ?_
  intro T1 X2 e3
  refine Go.ifY (pc' := 28) X2 hx hby d23_3 (by decide) (by decide) (show (1 : Int32) ≠ 0 from by decide) ?_
  refine Go.iloadN (pc' := 29) X2 hx hby d23_28 rfl rfl ?_
  refine Go.iconst (pc' := 30) X2 hx hby d23_29 rfl (v := (1 : Int32)) (by decide) ?_
  refine Go.ishl (pc' := 31) X2 hx hby d23_30 rfl ?_
  change Go p e below _ (T1.setTop (mkF m 31 #[.val (.ref a), .val (.int (1 : Int32))] [(.int (2 : Int32))]))
  refine Go.istoreN (Ls' := #[.val (.ref a), .val (.int (2 : Int32))]) (pc' := 32) X2 hx hby d23_31 rfl rfl ?_
  refine Go.aloadN (pc' := 33) X2 hx hby d23_32 rfl rfl rfl ?_
  refine Go.iloadN (pc' := 34) X2 hx hby d23_33 rfl rfl ?_
  refine Go.iinc (w := (2 : Int32) + (1 : Int32)) (Ls' := #[.val (.ref a), .val (.int ((2 : Int32) + (1 : Int32)))]) (pc' := 37) X2 hx hby d23_34 rfl rfl rfl rfl ?_
  change Go p e below _ (T1.setTop (mkF m 37 #[.val (.ref a), .val (.int (3 : Int32))] [(.int (2 : Int32)), (.ref a)]))
  refine Go.baload (pc' := 38) (i := 2) (v := (.int y1)) X2 hx hby hZ e3 A0 d23_37 rfl (by decide) (by decide) (by decide) q1 ?_
  refine Go.sipush (pc' := 41) X2 hx hby d23_38 rfl (v := (255 : Int32)) (by decide) ?_
  refine Go.iand (pc' := 42) X2 hx hby d23_41 rfl ?_
  refine Go.getSt (pc' := 45) X2 hx hby hZ hown (hw _ (List.mem_of_getElem? (i := 98) rfl)) Via.refl e3 S2_ d23_42 rfl ?_
  intro T4 X5 e6
  refine Go.ishl (pc' := 46) X5 hx hby d23_45 rfl ?_
  refine Go.aloadN (pc' := 47) X5 hx hby d23_46 rfl rfl rfl ?_
  refine Go.iloadN (pc' := 48) X5 hx hby d23_47 rfl rfl ?_
  refine Go.baload (pc' := 49) (i := 3) (v := (.int y2)) X5 hx hby hZ e6 A0 d23_48 rfl (by decide) (by decide) (by decide) q2 ?_
  refine Go.sipush (pc' := 52) X5 hx hby d23_49 rfl (v := (255 : Int32)) (by decide) ?_
  refine Go.iand (pc' := 53) X5 hx hby d23_52 rfl ?_
  refine Go.getSt (pc' := 56) X5 hx hby hZ hown (hw _ (List.mem_of_getElem? (i := 99) rfl)) Via.refl e6 S3_ d23_53 rfl ?_
  intro T7 X8 e9
  refine Go.ishl (pc' := 57) X8 hx hby d23_56 rfl ?_
  refine Go.ior (pc' := 58) X8 hx hby d23_57 rfl ?_
  refine Go.i2c (pc' := 59) X8 hx hby d23_58 rfl ?_
  exact Go.retZ X8 hx hby hlk hret (by simp) d23_59 (by decide) (by decide) ⟨by rw [← g0]; rfl, rfl, e9⟩
set_option maxRecDepth 65536 in
set_option maxHeartbeats 40000000 in
theorem rmPC3_2 (l : Launch) (Z : State) (a0 : Array Value) (hw : ∀ d ∈ tables_1, d.before a0 Z = true) (a : Addr) (x1 : Int32) (cc : Int32) (h0 : Heap) (n0 : Nat) (kk : Int32) (sf : Value) (f0 : Int → Value) (O0 : Old Z n0 h0) (SS : own_S Z kk sf) (Z0 : n0 ≤ h0.size) (ga : n0 ≤ a) (h1 : x1 = 2) (A0 : Ar Z h0 a .byte 6 (fun q => f0 q)) :
    Con l Z (⟨"java/lang/StringUTF16", "putChar", "([BII)V"⟩ : MethodName) jdk_52_method_4_code 3 none [] ({ frames := 0, cells := 0, slots := 0, locals := 0 } : Room) #[(.ref a), (.int x1), (.int cc)] h0 (fun v h L => v = none ∧ Fr n0 L ∧ Keep h0 h [a] ∧ Ar Z h a .byte 6 (fun q => if q = 5 then .int (own_hi cc) else if q = 4 then .int (own_lo cc) else f0 q)) := by
  refine Con.of (plainFor_of_name pn_StringUTF16) ?_
  intro p e s m below meth c s₁ hx hby hml hown hnm hret hlk hZ X0 e0
  refine Go.cast (ef_22 m a x1 cc) ?_
  replace hown : s.vm.findClass "java/lang/StringUTF16" = some m.cls := hown
  subst h1
  show Go p e below _ (s₁.setTop (mkF m 0 #[.val (.ref a), .val (.int (2 : Int32)), .val (.int cc)] []))
  have S1_ : Sta Z h0 "java/lang/StringUTF16" "$assertionsDisabled" "Z" (.int 1) := Sta.ext O0.2 SS.2.2.1
  have S2_ : Sta Z h0 "java/lang/StringUTF16" "HI_BYTE_SHIFT" "I" (.int 0) := Sta.ext O0.2 SS.2.2.2.1
  have S3_ : Sta Z h0 "java/lang/StringUTF16" "LO_BYTE_SHIFT" "I" (.int 8) := Sta.ext O0.2 SS.2.2.2.2.1
  refine Go.getSt (pc' := 3) X0 hx hby hZ hown (hw _ (List.mem_of_getElem? (i := 97) rfl)) Via.refl e0 S1_ d22_0 rfl ?_
  intro T1 X2 e3
  refine Go.ifY (pc' := 28) X2 hx hby d22_3 (by decide) (by decide) (show (1 : Int32) ≠ 0 from by decide) ?_
  refine Go.iloadN (pc' := 29) X2 hx hby d22_28 rfl rfl ?_
  refine Go.iconst (pc' := 30) X2 hx hby d22_29 rfl (v := (1 : Int32)) (by decide) ?_
  refine Go.ishl (pc' := 31) X2 hx hby d22_30 rfl ?_
  change Go p e below _ (T1.setTop (mkF m 31 #[.val (.ref a), .val (.int (2 : Int32)), .val (.int cc)] [(.int (4 : Int32))]))
  refine Go.istoreN (Ls' := #[.val (.ref a), .val (.int (4 : Int32)), .val (.int cc)]) (pc' := 32) X2 hx hby d22_31 rfl rfl ?_
  refine Go.aloadN (pc' := 33) X2 hx hby d22_32 rfl rfl rfl ?_
  refine Go.iloadN (pc' := 34) X2 hx hby d22_33 rfl rfl ?_
  refine Go.iinc (w := (4 : Int32) + (1 : Int32)) (Ls' := #[.val (.ref a), .val (.int ((4 : Int32) + (1 : Int32))), .val (.int cc)]) (pc' := 37) X2 hx hby d22_34 rfl rfl rfl rfl ?_
  change Go p e below _ (T1.setTop (mkF m 37 #[.val (.ref a), .val (.int (5 : Int32)), .val (.int cc)] [(.int (4 : Int32)), (.ref a)]))
  refine Go.iloadN (pc' := 38) X2 hx hby d22_37 rfl rfl ?_
  refine Go.getSt (pc' := 41) X2 hx hby hZ hown (hw _ (List.mem_of_getElem? (i := 98) rfl)) Via.refl e3 S2_ d22_38 rfl ?_
  intro T4 X5 e6
  refine Go.ishr (pc' := 42) X5 hx hby d22_41 rfl ?_
  refine Go.i2b (pc' := 43) X5 hx hby d22_42 rfl ?_
  refine Go.bastore (pc' := 44) (i := 4) X5 hx hby hZ e6 A0 d22_43 rfl (by decide) (by decide) (by decide) ?_
  intro T7 h8 X9 e10 W11 A12
  have f13 : Old Z n0 h8 := O0.wr W11 ga
  have f14 : Sta Z h8 "java/lang/StringUTF16" "$assertionsDisabled" "Z" (.int 1) := Sta.wr W11 S1_
  have f15 : Sta Z h8 "java/lang/StringUTF16" "HI_BYTE_SHIFT" "I" (.int 0) := Sta.wr W11 S2_
  have f16 : Sta Z h8 "java/lang/StringUTF16" "LO_BYTE_SHIFT" "I" (.int 8) := Sta.wr W11 S3_
  have z17 : n0 ≤ h8.size := by rw [Wr.size W11]; exact Z0
  have f18 : Ar Z h8 a .byte 6 (fun q => if q = 4 then (.int (nar .byte ((cc >>> ((0 : Int32) &&& 31)).toInt8.toInt32))) else f0 q) := A12
  have N19 : Fr n0 _ := Fr.snoc X9 (Fr.nil _) ga
  show Go p e below _ (T7.setTop (mkF m 44 #[.val (.ref a), .val (.int (5 : Int32)), .val (.int cc)] []))
  refine Go.aloadN (pc' := 45) X9 hx hby d22_44 rfl rfl rfl ?_
  refine Go.iloadN (pc' := 46) X9 hx hby d22_45 rfl rfl ?_
  refine Go.iloadN (pc' := 47) X9 hx hby d22_46 rfl rfl ?_
  refine Go.getSt (pc' := 50) X9 hx hby hZ hown (hw _ (List.mem_of_getElem? (i := 99) rfl)) Via.refl e10 f16 d22_47 rfl ?_
  intro T20 X21 e22
  refine Go.ishr (pc' := 51) X21 hx hby d22_50 rfl ?_
  refine Go.i2b (pc' := 52) X21 hx hby d22_51 rfl ?_
  refine Go.bastore (pc' := 53) (i := 5) X21 hx hby hZ e22 f18 d22_52 rfl (by decide) (by decide) (by decide) ?_
  intro T23 h24 X25 e26 W27 A28
  have f29 : Old Z n0 h24 := f13.wr W27 ga
  have f30 : Sta Z h24 "java/lang/StringUTF16" "$assertionsDisabled" "Z" (.int 1) := Sta.wr W27 f14
  have f31 : Sta Z h24 "java/lang/StringUTF16" "HI_BYTE_SHIFT" "I" (.int 0) := Sta.wr W27 f15
  have f32 : Sta Z h24 "java/lang/StringUTF16" "LO_BYTE_SHIFT" "I" (.int 8) := Sta.wr W27 f16
  have z33 : n0 ≤ h24.size := by rw [Wr.size W27]; exact z17
  have f34 : Ar Z h24 a .byte 6 (fun q => if q = 5 then (.int (nar .byte ((cc >>> ((8 : Int32) &&& 31)).toInt8.toInt32))) else if q = 4 then (.int (nar .byte ((cc >>> ((0 : Int32) &&& 31)).toInt8.toInt32))) else f0 q) := A28
  have N35 : Fr n0 _ := Fr.snoc X25 N19 ga
  show Go p e below _ (T23.setTop (mkF m 53 #[.val (.ref a), .val (.int (5 : Int32)), .val (.int cc)] []))
  exact Go.ret0 X25 hx hby hlk hret d22_53 (by decide) (by decide) ⟨rfl, N35, by rw [e26]; exact ((Keep.refl h0 _).wr W11 (Or.inl (List.mem_singleton.mpr rfl))).wr W27 (Or.inl (List.mem_singleton.mpr rfl)), by rw [e26]; exact f34⟩
set_option maxRecDepth 65536 in
set_option maxHeartbeats 40000000 in
theorem rmGC3_2 (l : Launch) (Z : State) (a0 : Array Value) (hw : ∀ d ∈ tables_1, d.before a0 Z = true) (a : Addr) (x1 : Int32) (h0 : Heap) (n0 : Nat) (kk : Int32) (sf : Value) (f0 : Int → Value) (y1 y2 cc : Int32) (O0 : Old Z n0 h0) (SS : own_S Z kk sf) (h1 : x1 = 2) (A0 : Ar Z h0 a .byte 6 (fun q => f0 q)) (q1 : f0 4 = .int y1) (q2 : f0 5 = .int y2) (g0 : own_gc y1 y2 = cc) :
    Con l Z (⟨"java/lang/StringUTF16", "getChar", "([BI)C"⟩ : MethodName) jdk_52_method_5_code 2 (some .char) [] ({ frames := 0, cells := 0, slots := 0, locals := 0 } : Room) #[(.ref a), (.int x1)] h0 (PQ (some (.int cc)) h0) := by
  refine Con.of (plainFor_of_name pn_StringUTF16) ?_
  intro p e s m below meth c s₁ hx hby hml hown hnm hret hlk hZ X0 e0
  refine Go.cast (ef_23 m a x1) ?_
  replace hown : s.vm.findClass "java/lang/StringUTF16" = some m.cls := hown
  subst h1
  show Go p e below _ (s₁.setTop (mkF m 0 #[.val (.ref a), .val (.int (2 : Int32))] []))
  have S1_ : Sta Z h0 "java/lang/StringUTF16" "$assertionsDisabled" "Z" (.int 1) := Sta.ext O0.2 SS.2.2.1
  have S2_ : Sta Z h0 "java/lang/StringUTF16" "HI_BYTE_SHIFT" "I" (.int 0) := Sta.ext O0.2 SS.2.2.2.1
  have S3_ : Sta Z h0 "java/lang/StringUTF16" "LO_BYTE_SHIFT" "I" (.int 8) := Sta.ext O0.2 SS.2.2.2.2.1
  refine Go.getSt (pc' := 3) X0 hx hby hZ hown (hw _ (List.mem_of_getElem? (i := 97) rfl)) Via.refl e0 S1_ d23_0 rfl ?_
  intro T1 X2 e3
  refine Go.ifY (pc' := 28) X2 hx hby d23_3 (by decide) (by decide) (show (1 : Int32) ≠ 0 from by decide) ?_
  refine Go.iloadN (pc' := 29) X2 hx hby d23_28 rfl rfl ?_
  refine Go.iconst (pc' := 30) X2 hx hby d23_29 rfl (v := (1 : Int32)) (by decide) ?_
  refine Go.ishl (pc' := 31) X2 hx hby d23_30 rfl ?_
  change Go p e below _ (T1.setTop (mkF m 31 #[.val (.ref a), .val (.int (2 : Int32))] [(.int (4 : Int32))]))
  refine Go.istoreN (Ls' := #[.val (.ref a), .val (.int (4 : Int32))]) (pc' := 32) X2 hx hby d23_31 rfl rfl ?_
  refine Go.aloadN (pc' := 33) X2 hx hby d23_32 rfl rfl rfl ?_
  refine Go.iloadN (pc' := 34) X2 hx hby d23_33 rfl rfl ?_
  refine Go.iinc (w := (4 : Int32) + (1 : Int32)) (Ls' := #[.val (.ref a), .val (.int ((4 : Int32) + (1 : Int32)))]) (pc' := 37) X2 hx hby d23_34 rfl rfl rfl rfl ?_
  change Go p e below _ (T1.setTop (mkF m 37 #[.val (.ref a), .val (.int (5 : Int32))] [(.int (4 : Int32)), (.ref a)]))
  refine Go.baload (pc' := 38) (i := 4) (v := (.int y1)) X2 hx hby hZ e3 A0 d23_37 rfl (by decide) (by decide) (by decide) q1 ?_
  refine Go.sipush (pc' := 41) X2 hx hby d23_38 rfl (v := (255 : Int32)) (by decide) ?_
  refine Go.iand (pc' := 42) X2 hx hby d23_41 rfl ?_
  refine Go.getSt (pc' := 45) X2 hx hby hZ hown (hw _ (List.mem_of_getElem? (i := 98) rfl)) Via.refl e3 S2_ d23_42 rfl ?_
  intro T4 X5 e6
  refine Go.ishl (pc' := 46) X5 hx hby d23_45 rfl ?_
  refine Go.aloadN (pc' := 47) X5 hx hby d23_46 rfl rfl rfl ?_
  refine Go.iloadN (pc' := 48) X5 hx hby d23_47 rfl rfl ?_
  refine Go.baload (pc' := 49) (i := 5) (v := (.int y2)) X5 hx hby hZ e6 A0 d23_48 rfl (by decide) (by decide) (by decide) q2 ?_
  refine Go.sipush (pc' := 52) X5 hx hby d23_49 rfl (v := (255 : Int32)) (by decide) ?_
  refine Go.iand (pc' := 53) X5 hx hby d23_52 rfl ?_
  refine Go.getSt (pc' := 56) X5 hx hby hZ hown (hw _ (List.mem_of_getElem? (i := 99) rfl)) Via.refl e6 S3_ d23_53 rfl ?_
  intro T7 X8 e9
  refine Go.ishl (pc' := 57) X8 hx hby d23_56 rfl ?_
  refine Go.ior (pc' := 58) X8 hx hby d23_57 rfl ?_
  refine Go.i2c (pc' := 59) X8 hx hby d23_58 rfl ?_
  exact Go.retZ X8 hx hby hlk hret (by simp) d23_59 (by decide) (by decide) ⟨by rw [← g0]; rfl, rfl, e9⟩
theorem d21_0 : decode jdk_52_method_3_code 0 = .ok (.iload_n 0, 1) := by decide +kernel
theorem d21_1 : decode jdk_52_method_3_code 1 = .ok (.ifCond .ge 11, 3) := by decide +kernel
theorem d21_4 : decode jdk_52_method_3_code 4 = .ok (.new 17, 3) := by decide +kernel
theorem d21_7 : decode jdk_52_method_3_code 7 = .ok (.dup, 1) := by decide +kernel
theorem d21_8 : decode jdk_52_method_3_code 8 = .ok (.invokespecial 19, 3) := by decide +kernel
theorem d21_11 : decode jdk_52_method_3_code 11 = .ok (.athrow, 1) := by decide +kernel
theorem d21_12 : decode jdk_52_method_3_code 12 = .ok (.iload_n 0, 1) := by decide +kernel
theorem d21_13 : decode jdk_52_method_3_code 13 = .ok (.ldc 20, 2) := by decide +kernel
theorem d21_15 : decode jdk_52_method_3_code 15 = .ok (.if_icmp .lt 40, 3) := by decide +kernel
theorem d21_18 : decode jdk_52_method_3_code 18 = .ok (.new 21, 3) := by decide +kernel
theorem d21_21 : decode jdk_52_method_3_code 21 = .ok (.dup, 1) := by decide +kernel
theorem d21_22 : decode jdk_52_method_3_code 22 = .ok (.new 23, 3) := by decide +kernel
theorem d21_25 : decode jdk_52_method_3_code 25 = .ok (.dup, 1) := by decide +kernel
theorem d21_26 : decode jdk_52_method_3_code 26 = .ok (.invokespecial 25, 3) := by decide +kernel
theorem d21_29 : decode jdk_52_method_3_code 29 = .ok (.ldc 26, 2) := by decide +kernel
theorem d21_31 : decode jdk_52_method_3_code 31 = .ok (.invokevirtual 28, 3) := by decide +kernel
theorem d21_34 : decode jdk_52_method_3_code 34 = .ok (.iload_n 0, 1) := by decide +kernel
theorem d21_35 : decode jdk_52_method_3_code 35 = .ok (.invokevirtual 32, 3) := by decide +kernel
theorem d21_38 : decode jdk_52_method_3_code 38 = .ok (.ldc 35, 2) := by decide +kernel
theorem d21_40 : decode jdk_52_method_3_code 40 = .ok (.invokevirtual 28, 3) := by decide +kernel
theorem d21_43 : decode jdk_52_method_3_code 43 = .ok (.ldc 20, 2) := by decide +kernel
theorem d21_45 : decode jdk_52_method_3_code 45 = .ok (.invokevirtual 32, 3) := by decide +kernel
theorem d21_48 : decode jdk_52_method_3_code 48 = .ok (.invokevirtual 37, 3) := by decide +kernel
theorem d21_51 : decode jdk_52_method_3_code 51 = .ok (.invokespecial 41, 3) := by decide +kernel
theorem d21_54 : decode jdk_52_method_3_code 54 = .ok (.athrow, 1) := by decide +kernel
theorem d21_55 : decode jdk_52_method_3_code 55 = .ok (.iload_n 0, 1) := by decide +kernel
theorem d21_56 : decode jdk_52_method_3_code 56 = .ok (.iconst 1, 1) := by decide +kernel
theorem d21_57 : decode jdk_52_method_3_code 57 = .ok (.ishl, 1) := by decide +kernel
theorem d21_58 : decode jdk_52_method_3_code 58 = .ok (.ireturn, 1) := by decide +kernel
theorem d20_0 : decode jdk_52_method_2_code 0 = .ok (.iload_n 0, 1) := by decide +kernel
theorem d20_1 : decode jdk_52_method_2_code 1 = .ok (.invokestatic 11, 3) := by decide +kernel
theorem d20_4 : decode jdk_52_method_2_code 4 = .ok (.newarray .byte, 2) := by decide +kernel
theorem d20_6 : decode jdk_52_method_2_code 6 = .ok (.areturn, 1) := by decide +kernel
theorem d19_0 : decode jdk_52_method_14_code 0 = .ok (.iload_n 2, 1) := by decide +kernel
theorem d19_1 : decode jdk_52_method_14_code 1 = .ok (.invokestatic 107, 3) := by decide +kernel
theorem d19_4 : decode jdk_52_method_14_code 4 = .ok (.astore_n 3, 1) := by decide +kernel
theorem d19_5 : decode jdk_52_method_14_code 5 = .ok (.iconst 0, 1) := by decide +kernel
theorem d19_6 : decode jdk_52_method_14_code 6 = .ok (.istore 4, 2) := by decide +kernel
theorem d19_8 : decode jdk_52_method_14_code 8 = .ok (.iload 4, 2) := by decide +kernel
theorem d19_10 : decode jdk_52_method_14_code 10 = .ok (.iload_n 2, 1) := by decide +kernel
theorem d19_11 : decode jdk_52_method_14_code 11 = .ok (.if_icmp .ge 21, 3) := by decide +kernel
theorem d19_14 : decode jdk_52_method_14_code 14 = .ok (.aload_n 3, 1) := by decide +kernel
theorem d19_15 : decode jdk_52_method_14_code 15 = .ok (.iload 4, 2) := by decide +kernel
theorem d19_17 : decode jdk_52_method_14_code 17 = .ok (.aload_n 0, 1) := by decide +kernel
theorem d19_18 : decode jdk_52_method_14_code 18 = .ok (.iload_n 1, 1) := by decide +kernel
theorem d19_19 : decode jdk_52_method_14_code 19 = .ok (.caload, 1) := by decide +kernel
theorem d19_20 : decode jdk_52_method_14_code 20 = .ok (.invokestatic 111, 3) := by decide +kernel
theorem d19_23 : decode jdk_52_method_14_code 23 = .ok (.iinc 1 1, 3) := by decide +kernel
theorem d19_26 : decode jdk_52_method_14_code 26 = .ok (.iinc 4 1, 3) := by decide +kernel
theorem d19_29 : decode jdk_52_method_14_code 29 = .ok (.goto (-21), 3) := by decide +kernel
theorem d19_32 : decode jdk_52_method_14_code 32 = .ok (.aload_n 3, 1) := by decide +kernel
theorem d19_33 : decode jdk_52_method_14_code 33 = .ok (.areturn, 1) := by decide +kernel
theorem d15_0 : decode jdk_52_method_21_code 0 = .ok (.iconst 0, 1) := by decide +kernel
theorem d15_1 : decode jdk_52_method_21_code 1 = .ok (.istore 5, 2) := by decide +kernel
theorem d15_3 : decode jdk_52_method_21_code 3 = .ok (.iload 5, 2) := by decide +kernel
theorem d15_5 : decode jdk_52_method_21_code 5 = .ok (.iload 4, 2) := by decide +kernel
theorem d15_7 : decode jdk_52_method_21_code 7 = .ok (.if_icmp .ge 37, 3) := by decide +kernel
theorem d15_10 : decode jdk_52_method_21_code 10 = .ok (.aload_n 0, 1) := by decide +kernel
theorem d15_11 : decode jdk_52_method_21_code 11 = .ok (.iload_n 1, 1) := by decide +kernel
theorem d15_12 : decode jdk_52_method_21_code 12 = .ok (.caload, 1) := by decide +kernel
theorem d15_13 : decode jdk_52_method_21_code 13 = .ok (.istore 6, 2) := by decide +kernel
theorem d15_15 : decode jdk_52_method_21_code 15 = .ok (.iload 6, 2) := by decide +kernel
theorem d15_17 : decode jdk_52_method_21_code 17 = .ok (.sipush 255, 3) := by decide +kernel
theorem d15_20 : decode jdk_52_method_21_code 20 = .ok (.if_icmp .le 6, 3) := by decide +kernel
theorem d15_23 : decode jdk_52_method_21_code 23 = .ok (.iload 5, 2) := by decide +kernel
theorem d15_25 : decode jdk_52_method_21_code 25 = .ok (.ireturn, 1) := by decide +kernel
theorem d15_26 : decode jdk_52_method_21_code 26 = .ok (.aload_n 2, 1) := by decide +kernel
theorem d15_27 : decode jdk_52_method_21_code 27 = .ok (.iload_n 3, 1) := by decide +kernel
theorem d15_28 : decode jdk_52_method_21_code 28 = .ok (.iload 6, 2) := by decide +kernel
theorem d15_30 : decode jdk_52_method_21_code 30 = .ok (.i2b, 1) := by decide +kernel
theorem d15_31 : decode jdk_52_method_21_code 31 = .ok (.bastore, 1) := by decide +kernel
theorem d15_32 : decode jdk_52_method_21_code 32 = .ok (.iinc 1 1, 3) := by decide +kernel
theorem d15_35 : decode jdk_52_method_21_code 35 = .ok (.iinc 3 1, 3) := by decide +kernel
theorem d15_38 : decode jdk_52_method_21_code 38 = .ok (.iinc 5 1, 3) := by decide +kernel
theorem d15_41 : decode jdk_52_method_21_code 41 = .ok (.goto (-38), 3) := by decide +kernel
theorem d15_44 : decode jdk_52_method_21_code 44 = .ok (.iload 4, 2) := by decide +kernel
theorem d15_46 : decode jdk_52_method_21_code 46 = .ok (.ireturn, 1) := by decide +kernel
theorem d14_0 : decode jdk_52_method_16_code 0 = .ok (.iload_n 2, 1) := by decide +kernel
theorem d14_1 : decode jdk_52_method_16_code 1 = .ok (.newarray .byte, 2) := by decide +kernel
theorem d14_3 : decode jdk_52_method_16_code 3 = .ok (.astore_n 3, 1) := by decide +kernel
theorem d14_4 : decode jdk_52_method_16_code 4 = .ok (.aload_n 0, 1) := by decide +kernel
theorem d14_5 : decode jdk_52_method_16_code 5 = .ok (.iload_n 1, 1) := by decide +kernel
theorem d14_6 : decode jdk_52_method_16_code 6 = .ok (.aload_n 3, 1) := by decide +kernel
theorem d14_7 : decode jdk_52_method_16_code 7 = .ok (.iconst 0, 1) := by decide +kernel
theorem d14_8 : decode jdk_52_method_16_code 8 = .ok (.iload_n 2, 1) := by decide +kernel
theorem d14_9 : decode jdk_52_method_16_code 9 = .ok (.invokestatic 115, 3) := by decide +kernel
theorem d14_12 : decode jdk_52_method_16_code 12 = .ok (.istore 4, 2) := by decide +kernel
theorem d14_14 : decode jdk_52_method_16_code 14 = .ok (.iload 4, 2) := by decide +kernel
theorem d14_16 : decode jdk_52_method_16_code 16 = .ok (.iload_n 2, 1) := by decide +kernel
theorem d14_17 : decode jdk_52_method_16_code 17 = .ok (.if_icmp .eq 40, 3) := by decide +kernel
theorem d14_20 : decode jdk_52_method_16_code 20 = .ok (.aload_n 0, 1) := by decide +kernel
theorem d14_21 : decode jdk_52_method_16_code 21 = .ok (.iload_n 1, 1) := by decide +kernel
theorem d14_22 : decode jdk_52_method_16_code 22 = .ok (.iload_n 2, 1) := by decide +kernel
theorem d14_23 : decode jdk_52_method_16_code 23 = .ok (.invokestatic 119, 3) := by decide +kernel
theorem d14_26 : decode jdk_52_method_16_code 26 = .ok (.astore 5, 2) := by decide +kernel
theorem d14_28 : decode jdk_52_method_16_code 28 = .ok (.aload 5, 2) := by decide +kernel
theorem d14_30 : decode jdk_52_method_16_code 30 = .ok (.iload 4, 2) := by decide +kernel
theorem d14_32 : decode jdk_52_method_16_code 32 = .ok (.invokestatic 71, 3) := by decide +kernel
theorem d14_35 : decode jdk_52_method_16_code 35 = .ok (.sipush 255, 3) := by decide +kernel
theorem d14_38 : decode jdk_52_method_16_code 38 = .ok (.if_icmp .gt 16, 3) := by decide +kernel
theorem d14_41 : decode jdk_52_method_16_code 41 = .ok (.aload 5, 2) := by decide +kernel
theorem d14_43 : decode jdk_52_method_16_code 43 = .ok (.iconst 0, 1) := by decide +kernel
theorem d14_44 : decode jdk_52_method_16_code 44 = .ok (.aload_n 3, 1) := by decide +kernel
theorem d14_45 : decode jdk_52_method_16_code 45 = .ok (.iconst 0, 1) := by decide +kernel
theorem d14_46 : decode jdk_52_method_16_code 46 = .ok (.iload_n 2, 1) := by decide +kernel
theorem d14_47 : decode jdk_52_method_16_code 47 = .ok (.invokestatic 123, 3) := by decide +kernel
theorem d14_50 : decode jdk_52_method_16_code 50 = .ok (.iload_n 2, 1) := by decide +kernel
theorem d14_51 : decode jdk_52_method_16_code 51 = .ok (.if_icmp .eq 6, 3) := by decide +kernel
theorem d14_54 : decode jdk_52_method_16_code 54 = .ok (.aload 5, 2) := by decide +kernel
theorem d14_56 : decode jdk_52_method_16_code 56 = .ok (.areturn, 1) := by decide +kernel
theorem d14_57 : decode jdk_52_method_16_code 57 = .ok (.aload_n 3, 1) := by decide +kernel
theorem d14_58 : decode jdk_52_method_16_code 58 = .ok (.areturn, 1) := by decide +kernel
theorem d16_0 : decode jdk_52_method_15_code 0 = .ok (.iload_n 1, 1) := by decide +kernel
theorem d16_1 : decode jdk_52_method_15_code 1 = .ok (.aload_n 0, 1) := by decide +kernel
theorem d16_2 : decode jdk_52_method_15_code 2 = .ok (.arraylength, 1) := by decide +kernel
theorem d16_3 : decode jdk_52_method_15_code 3 = .ok (.isub, 1) := by decide +kernel
theorem d16_4 : decode jdk_52_method_15_code 4 = .ok (.bipush 31, 2) := by decide +kernel
theorem d16_6 : decode jdk_52_method_15_code 6 = .ok (.iushr, 1) := by decide +kernel
theorem d16_7 : decode jdk_52_method_15_code 7 = .ok (.i2b, 1) := by decide +kernel
theorem d16_8 : decode jdk_52_method_15_code 8 = .ok (.ireturn, 1) := by decide +kernel
theorem ef_21 (m : MethodId) (x0 : Int32) : entryFrame m #[(.int x0)] 1 = mkF m 0 #[.val (.int x0)] [] := by first | (simp [entryFrame, mkF, argsToLocals, Value.category]; done) | rfl
set_option maxRecDepth 65536 in
set_option maxHeartbeats 40000000 in
theorem rmNL1 (l : Launch) (Z : State) (a0 : Array Value) (hw : ∀ d ∈ tables_1, d.before a0 Z = true) (x0 : Int32) (h0 : Heap) (h1 : x0 = 1) :
    Con l Z (⟨"java/lang/StringUTF16", "newBytesLength", "(I)I"⟩ : MethodName) jdk_52_method_3_code 1 (some .int) [] ({ frames := 0, cells := 0, slots := 0, locals := 0 } : Room) #[(.int x0)] h0 (PQ (some (.int 2)) h0) := by
  refine Con.of (plainFor_of_name pn_StringUTF16) ?_
  intro p e s m below meth c s₁ hx hby hml hown hnm hret hlk hZ X0 e0
  refine Go.cast (ef_21 m x0) ?_
  replace hown : s.vm.findClass "java/lang/StringUTF16" = some m.cls := hown
  subst h1
  show Go p e below _ (s₁.setTop (mkF m 0 #[.val (.int (1 : Int32))] []))
  refine Go.iloadN (pc' := 1) X0 hx hby d21_0 rfl rfl ?_
  refine Go.ifY (pc' := 12) X0 hx hby d21_1 (by decide) (by decide) (show 0 ≤ (1 : Int32) from by decide) ?_
  refine Go.iloadN (pc' := 13) X0 hx hby d21_12 rfl rfl ?_
  refine Go.ldcI (pc' := 15) X0 hx hby d21_13 rfl hown (mvT hZ (hw _ (List.mem_of_getElem? (i := 93) rfl))) ?_
  refine Go.icmpY (pc' := 55) X0 hx hby d21_15 (by decide) (by decide) (show (1 : Int32) < (1073741823 : Int32) from by decide) ?_
  refine Go.iloadN (pc' := 56) X0 hx hby d21_55 rfl rfl ?_
  refine Go.iconst (pc' := 57) X0 hx hby d21_56 rfl (v := (1 : Int32)) (by decide) ?_
  refine Go.ishl (pc' := 58) X0 hx hby d21_57 rfl ?_
  change Go p e below _ (s₁.setTop (mkF m 58 #[.val (.int (1 : Int32))] [(.int (2 : Int32))]))
  exact Go.retI X0 hx hby hlk hret d21_58 (by decide) (by decide) ⟨rfl, rfl, e0⟩
theorem ef_20 (m : MethodId) (x0 : Int32) : entryFrame m #[(.int x0)] 1 = mkF m 0 #[.val (.int x0)] [] := by first | (simp [entryFrame, mkF, argsToLocals, Value.category]; done) | rfl
set_option maxRecDepth 65536 in
set_option maxHeartbeats 40000000 in
theorem rmNF1 (l : Launch) (Z : State) (a0 : Array Value) (hw : ∀ d ∈ tables_1, d.before a0 Z = true) (x0 : Int32) (h0 : Heap) (h1 : x0 = 1) :
    Con l Z (⟨"java/lang/StringUTF16", "newBytesFor", "(I)[B"⟩ : MethodName) jdk_52_method_2_code 1 (some (.array .byte)) [] ({ frames := 1, cells := 1, slots := 2, locals := 12 } : Room) #[(.int x0)] h0 (fun v h L => ∃ b, v = some (.ref b) ∧ h0.size ≤ b ∧ L = [] ∧ Ext h0 h ∧ Ar Z h b .byte 2 (fun q => .int 0)) := by
  refine Con.of (plainFor_of_name pn_StringUTF16) ?_
  intro p e s m below meth c s₁ hx hby hml hown hnm hret hlk hZ X0 e0
  refine Go.cast (ef_20 m x0) ?_
  replace hown : s.vm.findClass "java/lang/StringUTF16" = some m.cls := hown
  subst h1
  show Go p e below _ (s₁.setTop (mkF m 0 #[.val (.int (1 : Int32))] []))
  refine Go.iloadN (pc' := 1) X0 hx hby d20_0 rfl rfl ?_
  refine Go.callS (pc' := 4) (W := 0) (argsL := [(.int (1 : Int32))]) (rest := []) X0 hx hby hZ hown (hw _ (List.mem_of_getElem? (i := 90) rfl)) (hw _ (List.mem_of_getElem? (i := 91) rfl)) (hw _ (List.mem_of_getElem? (i := 69) rfl)) (hw _ (List.mem_of_getElem? (i := 92) rfl)) (by decide) (rmNL1 l Z a0 hw 1 h0 rfl) e0 (by decide) (by decide) (by rw [hml]; rfl) pd_5 rfl rfl rfl (Nat.le_of_eq rfl) d20_1 rfl (by decide) (by decide) ?_
  rintro r2 T3 L4 X5 ⟨rfl, rfl, e1⟩
  rw [List.append_nil] at X5
  show Go p e below _ (T3.setTop (mkF m 4 #[.val (.int (1 : Int32))] [(.int (2 : Int32))]))
  refine Go.newarr (pc' := 6) (cap := 2) (z := 2) X5 hx hby hZ (hw _ (List.mem_of_getElem? (i := 16) rfl)) e1 d20_4 rfl (by decide) (by decide) (by decide) (by decide) (by decide) (by decide) ?_
  intro b6 T7 h8 g9 X10 e11 E12 A13
  have g14 : 0 ≤ b6 := by rw [g9]; exact (Nat.zero_le _)
  have z15 : 0 ≤ h8.size := Nat.le_trans (Nat.zero_le _) E12.1
  have f16 : Ar Z h8 b6 .byte 2 (fun _ => (.int 0)) := A13
  show Go p e below _ (T7.setTop (mkF m 6 #[.val (.int (1 : Int32))] [(.ref b6)]))
  exact Go.retA X10 hx hby hlk hret rfl rfl rfl d20_6 (by decide) (by decide) ⟨b6, rfl, by rw [g9]; exact Nat.le_refl _, rfl, by rw [e11]; exact E12, by rw [e11]; exact f16⟩
theorem ef_19 (m : MethodId) (x0 : Addr) (x1 : Int32) (x2 : Int32) : entryFrame m #[(.ref x0), (.int x1), (.int x2)] 5 = mkF m 0 #[.val (.ref x0), .val (.int x1), .val (.int x2), .unset, .unset] [] := by first | (simp [entryFrame, mkF, argsToLocals, Value.category]; done) | rfl
set_option maxRecDepth 65536 in
set_option maxHeartbeats 40000000 in
theorem rmTB1 (l : Launch) (Z : State) (a0 : Array Value) (hw : ∀ d ∈ tables_1, d.before a0 Z = true) (ca : Addr) (x1 : Int32) (x2 : Int32) (h0 : Heap) (n0 : Nat) (kk : Int32) (sf : Value) (u0 u1 u2 : Int32) (O0 : Old Z n0 h0) (SS : own_S Z kk sf) (Z0 : n0 ≤ h0.size) (h1 : x1 = 0) (h2 : x2 = 1) (A0 : Ar Z h0 ca .char 1 (fun q => .int (own_c u0 u1 u2 q))) :
    Con l Z (⟨"java/lang/StringUTF16", "toBytes", "([CII)[B"⟩ : MethodName) jdk_52_method_14_code 5 (some (.array .byte)) [] ({ frames := 2, cells := 1, slots := 2, locals := 24 } : Room) #[(.ref ca), (.int x1), (.int x2)] h0 (fun v h L => ∃ b, v = some (.ref b) ∧ h0.size ≤ b ∧ Fr n0 L ∧ Keep h0 h [] ∧ Ar Z h b .byte 2 (fun q => .int (own_u u0 u1 u2 q))) := by
  refine Con.of (plainFor_of_name pn_StringUTF16) ?_
  intro p e s m below meth c s₁ hx hby hml hown hnm hret hlk hZ X0 e0
  refine Go.cast (ef_19 m ca x1 x2) ?_
  replace hown : s.vm.findClass "java/lang/StringUTF16" = some m.cls := hown
  subst h1 h2
  show Go p e below _ (s₁.setTop (mkF m 0 #[.val (.ref ca), .val (.int (0 : Int32)), .val (.int (1 : Int32)), .unset, .unset] []))
  refine Go.iloadN (pc' := 1) X0 hx hby d19_0 rfl rfl ?_
  refine Go.callS (pc' := 4) (W := 0) (argsL := [(.int (1 : Int32))]) (rest := []) X0 hx hby hZ hown (hw _ (List.mem_of_getElem? (i := 87) rfl)) (hw _ (List.mem_of_getElem? (i := 88) rfl)) (hw _ (List.mem_of_getElem? (i := 69) rfl)) (hw _ (List.mem_of_getElem? (i := 89) rfl)) (by decide) (rmNF1 l Z a0 hw 1 h0 rfl) e0 (by decide) (by decide) (by rw [hml]; rfl) pd_7 rfl rfl rfl (Nat.le_of_eq rfl) d19_1 rfl (by decide) (by decide) ?_
  rintro r1 T2 L3 X4 ⟨b, rfl, gf, rfl, E1, A1⟩
  rw [List.append_nil] at X4
  have gb : n0 ≤ b := Nat.le_trans Z0 gf
  have nb : ca ≠ b := Nat.ne_of_lt (Nat.lt_of_lt_of_le A0.lt gf)
  have K0 : Keep h0 T2.heap [] := (Keep.refl h0 _).ext E1
  have f5 : Old Z n0 T2.heap := O0.ext E1
  have f6 : Ar Z T2.heap ca .char 1 (fun q => .int (own_c u0 u1 u2 q)) := A0.ext E1
  have z7 : n0 ≤ T2.heap.size := Nat.le_trans Z0 E1.1
  show Go p e below _ (T2.setTop (mkF m 4 #[.val (.ref ca), .val (.int (0 : Int32)), .val (.int (1 : Int32)), .unset, .unset] [(.ref b)]))
  refine Go.astoreN (Ls' := #[.val (.ref ca), .val (.int (0 : Int32)), .val (.int (1 : Int32)), .val (.ref b), .unset]) (pc' := 5) X4 hx hby d19_4 rfl rfl rfl ?_
  refine Go.iconst (pc' := 6) X4 hx hby d19_5 rfl (v := (0 : Int32)) (by decide) ?_
  refine Go.istore (Ls' := #[.val (.ref ca), .val (.int (0 : Int32)), .val (.int (1 : Int32)), .val (.ref b), .val (.int (0 : Int32))]) (pc' := 8) X4 hx hby d19_6 rfl rfl ?_
  refine Go.iload (pc' := 10) X4 hx hby d19_8 rfl rfl ?_
  refine Go.iloadN (pc' := 11) X4 hx hby d19_10 rfl rfl ?_
  refine Go.icmpN (pc' := 14) X4 hx hby d19_11 rfl (show ¬ ((1 : Int32) ≤ (0 : Int32)) from by decide) ?_
  refine Go.aloadN (pc' := 15) X4 hx hby d19_14 rfl rfl rfl ?_
  refine Go.iload (pc' := 17) X4 hx hby d19_15 rfl rfl ?_
  refine Go.aloadN (pc' := 18) X4 hx hby d19_17 rfl rfl rfl ?_
  refine Go.iloadN (pc' := 19) X4 hx hby d19_18 rfl rfl ?_
  refine Go.caload (pc' := 20) (i := 0) (v := (.int u0)) X4 hx hby hZ rfl f6 d19_19 rfl (by decide) (by decide) (by decide) rfl ?_
  refine Go.callS (pc' := 23) (W := 0) (argsL := [(.ref b), (.int (0 : Int32)), (.int u0)]) (rest := []) X4 hx hby hZ hown (hw _ (List.mem_of_getElem? (i := 94) rfl)) (hw _ (List.mem_of_getElem? (i := 95) rfl)) (hw _ (List.mem_of_getElem? (i := 69) rfl)) (hw _ (List.mem_of_getElem? (i := 96) rfl)) (by decide) (rmPC1_0 l Z a0 hw b 0 u0 T2.heap n0 kk sf (fun q => .int 0) f5 SS z7 gb rfl A1) rfl (by decide) (by decide) (by rw [hml]; rfl) pd_16 rfl rfl rfl (Nat.le_of_eq rfl) d19_20 rfl (by decide) (by decide) ?_
  rintro r8 T9 L10 X11 ⟨rfl, N0_, Kc0, A0_⟩
  have K1 := K0.trans Kc0 (allS (Or.inr gf) all0)
  have f12 : Old Z n0 T9.heap := f5.keep Kc0 (allS gb all0)
  have f13 : Ar Z T9.heap ca .char 1 (fun q => .int (own_c u0 u1 u2 q)) := f6.keep Kc0 (ninS nb nin0)
  have z14 : n0 ≤ T9.heap.size := Nat.le_trans z7 Kc0.1
  show Go p e below _ (T9.setTop (mkF m 23 #[.val (.ref ca), .val (.int (0 : Int32)), .val (.int (1 : Int32)), .val (.ref b), .val (.int (0 : Int32))] []))
  refine Go.iinc (w := (0 : Int32) + (1 : Int32)) (Ls' := #[.val (.ref ca), .val (.int ((0 : Int32) + (1 : Int32))), .val (.int (1 : Int32)), .val (.ref b), .val (.int (0 : Int32))]) (pc' := 26) X11 hx hby d19_23 rfl rfl rfl rfl ?_
  refine Go.iinc (w := (0 : Int32) + (1 : Int32)) (Ls' := #[.val (.ref ca), .val (.int ((0 : Int32) + (1 : Int32))), .val (.int (1 : Int32)), .val (.ref b), .val (.int ((0 : Int32) + (1 : Int32)))]) (pc' := 29) X11 hx hby d19_26 rfl rfl rfl rfl ?_
  change Go p e below _ (T9.setTop (mkF m 29 #[.val (.ref ca), .val (.int (1 : Int32)), .val (.int (1 : Int32)), .val (.ref b), .val (.int ((0 : Int32) + (1 : Int32)))] []))
  change Go p e below _ (T9.setTop (mkF m 29 #[.val (.ref ca), .val (.int (1 : Int32)), .val (.int (1 : Int32)), .val (.ref b), .val (.int (1 : Int32))] []))
  refine Go.goto (pc' := 8) X11 hx hby d19_29 (by decide) (by decide) ?_
  refine Go.iload (pc' := 10) X11 hx hby d19_8 rfl rfl ?_
  refine Go.iloadN (pc' := 11) X11 hx hby d19_10 rfl rfl ?_
  refine Go.icmpY (pc' := 32) X11 hx hby d19_11 (by decide) (by decide) (show (1 : Int32) ≤ (1 : Int32) from by decide) ?_
  refine Go.aloadN (pc' := 33) X11 hx hby d19_32 rfl rfl rfl ?_
  have f15 : Ar Z T9.heap b .byte 2 (fun q => .int (own_u u0 u1 u2 q)) := A0_.congr (fun i h1 h2 => by have t : i = 0 ∨ i = 1 := (by omega); rcases t with rfl | rfl <;> rfl)
  exact Go.retA X11 hx hby hlk hret rfl rfl rfl d19_33 (by decide) (by decide) ⟨b, rfl, gf, (Fr.app (Fr.nil _) N0_), K1, f15⟩
theorem ef_15 (m : MethodId) (x0 : Addr) (x1 : Int32) (x2 : Addr) (x3 : Int32) (x4 : Int32) : entryFrame m #[(.ref x0), (.int x1), (.ref x2), (.int x3), (.int x4)] 7 = mkF m 0 #[.val (.ref x0), .val (.int x1), .val (.ref x2), .val (.int x3), .val (.int x4), .unset, .unset] [] := by first | (simp [entryFrame, mkF, argsToLocals, Value.category]; done) | rfl
set_option maxRecDepth 65536 in
set_option maxHeartbeats 40000000 in
theorem rmC5_1 (l : Launch) (Z : State) (a0 : Array Value) (hw : ∀ d ∈ tables_1, d.before a0 Z = true) (ca : Addr) (x1 : Int32) (ba : Addr) (x3 : Int32) (x4 : Int32) (h0 : Heap) (n0 : Nat) (kk : Int32) (sf : Value) (u0 u1 u2 : Int32) (O0 : Old Z n0 h0) (SS : own_S Z kk sf) (Z0 : n0 ≤ h0.size) (gb : n0 ≤ ba) (h1 : x1 = 0) (h3 : x3 = 0) (h4 : x4 = 1) (A0 : Ar Z h0 ca .char 1 (fun q => .int (own_c u0 u1 u2 q))) (A1 : Ar Z h0 ba .byte 1 (fun q => .int 0)) :
    Con l Z (⟨"java/lang/StringUTF16", "compress", "([CI[BII)I"⟩ : MethodName) jdk_52_method_21_code 7 (some .int) [] ({ frames := 0, cells := 0, slots := 0, locals := 0 } : Room) #[(.ref ca), (.int x1), (.ref ba), (.int x3), (.int x4)] h0 (fun v h L => Fr n0 L ∧ Keep h0 h [ba] ∧ ((v = some (.int 1) ∧ (u0 ≤ (255 : Int32)) ∧ Ar Z h ba .byte 1 (fun q => .int (own_lat (own_c u0 u1 u2 q)))) ∨ (v = some (.int 0) ∧ ¬ u0 ≤ (255 : Int32)))) := by
  refine Con.of (plainFor_of_name pn_StringUTF16) ?_
  intro p e s m below meth c s₁ hx hby hml hown hnm hret hlk hZ X0 e0
  refine Go.cast (ef_15 m ca x1 ba x3 x4) ?_
  replace hown : s.vm.findClass "java/lang/StringUTF16" = some m.cls := hown
  subst h1 h3 h4
  show Go p e below _ (s₁.setTop (mkF m 0 #[.val (.ref ca), .val (.int (0 : Int32)), .val (.ref ba), .val (.int (0 : Int32)), .val (.int (1 : Int32)), .unset, .unset] []))
  have nb : ca ≠ ba := Ar.neTy A0 A1 (by decide)
  refine Go.iconst (pc' := 1) X0 hx hby d15_0 rfl (v := (0 : Int32)) (by decide) ?_
  refine Go.istore (Ls' := #[.val (.ref ca), .val (.int (0 : Int32)), .val (.ref ba), .val (.int (0 : Int32)), .val (.int (1 : Int32)), .val (.int (0 : Int32)), .unset]) (pc' := 3) X0 hx hby d15_1 rfl rfl ?_
  refine Go.iload (pc' := 5) X0 hx hby d15_3 rfl rfl ?_
  refine Go.iload (pc' := 7) X0 hx hby d15_5 rfl rfl ?_
  refine Go.icmpN (pc' := 10) X0 hx hby d15_7 rfl (show ¬ ((1 : Int32) ≤ (0 : Int32)) from by decide) ?_
  refine Go.aloadN (pc' := 11) X0 hx hby d15_10 rfl rfl rfl ?_
  refine Go.iloadN (pc' := 12) X0 hx hby d15_11 rfl rfl ?_
  refine Go.caload (pc' := 13) (i := 0) (v := (.int u0)) X0 hx hby hZ e0 A0 d15_12 rfl (by decide) (by decide) (by decide) rfl ?_
  refine Go.istore (Ls' := #[.val (.ref ca), .val (.int (0 : Int32)), .val (.ref ba), .val (.int (0 : Int32)), .val (.int (1 : Int32)), .val (.int (0 : Int32)), .val (.int u0)]) (pc' := 15) X0 hx hby d15_13 rfl rfl ?_
  refine Go.iload (pc' := 17) X0 hx hby d15_15 rfl rfl ?_
  refine Go.sipush (pc' := 20) X0 hx hby d15_17 rfl (v := (255 : Int32)) (by decide) ?_
  refine Go.icmp (pc' := 26) (pn := 23) X0 hx hby d15_20 (by decide) (by decide) rfl (fun (t0 : u0 ≤ (255 : Int32)) => ?_) (fun (t0 : ¬ (u0 ≤ (255 : Int32))) => ?_)
  rotate_left
  ·
    refine Go.iload (pc' := 25) X0 hx hby d15_23 rfl rfl ?_
    exact Go.retI X0 hx hby hlk hret d15_25 (by decide) (by decide) ⟨(Fr.nil _), by rw [e0]; exact (Keep.refl h0 _), Or.inr (⟨rfl, t0⟩)⟩
  refine Go.aloadN (pc' := 27) X0 hx hby d15_26 rfl rfl rfl ?_
  refine Go.iloadN (pc' := 28) X0 hx hby d15_27 rfl rfl ?_
  refine Go.iload (pc' := 30) X0 hx hby d15_28 rfl rfl ?_
  refine Go.i2b (pc' := 31) X0 hx hby d15_30 rfl ?_
  refine Go.bastore (pc' := 32) (i := 0) X0 hx hby hZ e0 A1 d15_31 rfl (by decide) (by decide) (by decide) ?_
  intro T1 h2 X3 e4 W5 A6
  have f7 : Old Z n0 h2 := O0.wr W5 gb
  have f8 : Ar Z h2 ca .char 1 (fun q => .int (own_c u0 u1 u2 q)) := A0.other W5 nb
  have z9 : n0 ≤ h2.size := by rw [Wr.size W5]; exact Z0
  have f10 : Ar Z h2 ba .byte 1 (fun q => if q = 0 then (.int (nar .byte u0.toInt8.toInt32)) else .int 0) := A6
  have N11 : Fr n0 _ := Fr.snoc X3 (Fr.nil _) gb
  show Go p e below _ (T1.setTop (mkF m 32 #[.val (.ref ca), .val (.int (0 : Int32)), .val (.ref ba), .val (.int (0 : Int32)), .val (.int (1 : Int32)), .val (.int (0 : Int32)), .val (.int u0)] []))
  refine Go.iinc (w := (0 : Int32) + (1 : Int32)) (Ls' := #[.val (.ref ca), .val (.int ((0 : Int32) + (1 : Int32))), .val (.ref ba), .val (.int (0 : Int32)), .val (.int (1 : Int32)), .val (.int (0 : Int32)), .val (.int u0)]) (pc' := 35) X3 hx hby d15_32 rfl rfl rfl rfl ?_
  refine Go.iinc (w := (0 : Int32) + (1 : Int32)) (Ls' := #[.val (.ref ca), .val (.int ((0 : Int32) + (1 : Int32))), .val (.ref ba), .val (.int ((0 : Int32) + (1 : Int32))), .val (.int (1 : Int32)), .val (.int (0 : Int32)), .val (.int u0)]) (pc' := 38) X3 hx hby d15_35 rfl rfl rfl rfl ?_
  refine Go.iinc (w := (0 : Int32) + (1 : Int32)) (Ls' := #[.val (.ref ca), .val (.int ((0 : Int32) + (1 : Int32))), .val (.ref ba), .val (.int ((0 : Int32) + (1 : Int32))), .val (.int (1 : Int32)), .val (.int ((0 : Int32) + (1 : Int32))), .val (.int u0)]) (pc' := 41) X3 hx hby d15_38 rfl rfl rfl rfl ?_
  change Go p e below _ (T1.setTop (mkF m 41 #[.val (.ref ca), .val (.int (1 : Int32)), .val (.ref ba), .val (.int ((0 : Int32) + (1 : Int32))), .val (.int (1 : Int32)), .val (.int ((0 : Int32) + (1 : Int32))), .val (.int u0)] []))
  change Go p e below _ (T1.setTop (mkF m 41 #[.val (.ref ca), .val (.int (1 : Int32)), .val (.ref ba), .val (.int (1 : Int32)), .val (.int (1 : Int32)), .val (.int ((0 : Int32) + (1 : Int32))), .val (.int u0)] []))
  change Go p e below _ (T1.setTop (mkF m 41 #[.val (.ref ca), .val (.int (1 : Int32)), .val (.ref ba), .val (.int (1 : Int32)), .val (.int (1 : Int32)), .val (.int (1 : Int32)), .val (.int u0)] []))
  refine Go.goto (pc' := 3) X3 hx hby d15_41 (by decide) (by decide) ?_
  refine Go.iload (pc' := 5) X3 hx hby d15_3 rfl rfl ?_
  refine Go.iload (pc' := 7) X3 hx hby d15_5 rfl rfl ?_
  refine Go.icmpY (pc' := 44) X3 hx hby d15_7 (by decide) (by decide) (show (1 : Int32) ≤ (1 : Int32) from by decide) ?_
  refine Go.iload (pc' := 46) X3 hx hby d15_44 rfl rfl ?_
  have f12 : Ar Z h2 ba .byte 1 (fun q => .int (own_lat (own_c u0 u1 u2 q))) := f10.congr (fun i h1 h2 => by have t : i = 0 := (by omega); rcases t with rfl <;> rfl)
  exact Go.retI X3 hx hby hlk hret d15_46 (by decide) (by decide) ⟨N11, by rw [e4]; exact ((Keep.refl h0 _).wr W5 (Or.inl (List.mem_singleton.mpr rfl))), Or.inl ⟨rfl, t0, by rw [e4]; exact f12⟩⟩
theorem ef_14 (m : MethodId) (x0 : Addr) (x1 : Int32) (x2 : Int32) : entryFrame m #[(.ref x0), (.int x1), (.int x2)] 6 = mkF m 0 #[.val (.ref x0), .val (.int x1), .val (.int x2), .unset, .unset, .unset] [] := by first | (simp [entryFrame, mkF, argsToLocals, Value.category]; done) | rfl
set_option maxRecDepth 65536 in
set_option maxHeartbeats 40000000 in
theorem rmC3_1 (l : Launch) (Z : State) (a0 : Array Value) (hw : ∀ d ∈ tables_1, d.before a0 Z = true) (ca : Addr) (x1 : Int32) (x2 : Int32) (h0 : Heap) (n0 : Nat) (kk : Int32) (sf : Value) (u0 u1 u2 : Int32) (O0 : Old Z n0 h0) (SS : own_S Z kk sf) (B0 : 0 ≤ u0.toInt ∧ u0.toInt ≤ 65535) (B1 : 0 ≤ u1.toInt ∧ u1.toInt ≤ 65535) (B2 : 0 ≤ u2.toInt ∧ u2.toInt ≤ 65535) (Z0 : n0 ≤ h0.size) (h1 : x1 = 0) (h2 : x2 = 1) (A0 : Ar Z h0 ca .char 1 (fun q => .int (own_c u0 u1 u2 q))) :
    Con l Z (⟨"java/lang/StringUTF16", "compress", "([CII)[B"⟩ : MethodName) jdk_52_method_16_code 6 (some (.array .byte)) [] ({ frames := 3, cells := 2, slots := 3, locals := 40 } : Room) #[(.ref ca), (.int x1), (.int x2)] h0 (fun v h L => ∃ b, v = some (.ref b) ∧ h0.size ≤ b ∧ Fr n0 L ∧ Keep h0 h [] ∧ (((u0 ≤ (255 : Int32)) ∧ Ar Z h b .byte 1 (fun q => .int (own_lat (own_c u0 u1 u2 q)))) ∨ Ar Z h b .byte 2 (fun q => .int (own_u u0 u1 u2 q)))) := by
  refine Con.of (plainFor_of_name pn_StringUTF16) ?_
  intro p e s m below meth c s₁ hx hby hml hown hnm hret hlk hZ X0 e0
  refine Go.cast (ef_14 m ca x1 x2) ?_
  replace hown : s.vm.findClass "java/lang/StringUTF16" = some m.cls := hown
  subst h1 h2
  show Go p e below _ (s₁.setTop (mkF m 0 #[.val (.ref ca), .val (.int (0 : Int32)), .val (.int (1 : Int32)), .unset, .unset, .unset] []))
  refine Go.iloadN (pc' := 1) X0 hx hby d14_0 rfl rfl ?_
  refine Go.newarr (pc' := 3) (cap := 1) (z := 1) X0 hx hby hZ (hw _ (List.mem_of_getElem? (i := 16) rfl)) e0 d14_1 rfl (by decide) (by decide) (by decide) (by decide) (by decide) (by decide) ?_
  intro b1 T2 h3 g4 X5 e6 E7 A8
  have n9 : ca ≠ b1 := Nat.ne_of_lt (by rw [g4]; exact A0.lt)
  have g10 : n0 ≤ b1 := by rw [g4]; exact Z0
  have f11 : Old Z n0 h3 := O0.ext E7
  have f12 : Ar Z h3 ca .char 1 (fun q => .int (own_c u0 u1 u2 q)) := A0.ext E7
  have z13 : n0 ≤ h3.size := Nat.le_trans Z0 E7.1
  have f14 : Ar Z h3 b1 .byte 1 (fun _ => (.int 0)) := A8
  show Go p e below _ (T2.setTop (mkF m 3 #[.val (.ref ca), .val (.int (0 : Int32)), .val (.int (1 : Int32)), .unset, .unset, .unset] [(.ref b1)]))
  have K0 : Keep h0 h3 [] := (Keep.refl h0 _).ext E7
  have gf : h0.size ≤ b1 := by rw [g4]; exact Nat.le_refl _
  refine Go.astoreN (Ls' := #[.val (.ref ca), .val (.int (0 : Int32)), .val (.int (1 : Int32)), .val (.ref b1), .unset, .unset]) (pc' := 4) X5 hx hby d14_3 rfl rfl rfl ?_
  refine Go.aloadN (pc' := 5) X5 hx hby d14_4 rfl rfl rfl ?_
  refine Go.iloadN (pc' := 6) X5 hx hby d14_5 rfl rfl ?_
  refine Go.aloadN (pc' := 7) X5 hx hby d14_6 rfl rfl rfl ?_
  refine Go.iconst (pc' := 8) X5 hx hby d14_7 rfl (v := (0 : Int32)) (by decide) ?_
  refine Go.iloadN (pc' := 9) X5 hx hby d14_8 rfl rfl ?_
  refine Go.callS (pc' := 12) (W := 0) (argsL := [(.ref ca), (.int (0 : Int32)), (.ref b1), (.int (0 : Int32)), (.int (1 : Int32))]) (rest := []) X5 hx hby hZ hown (hw _ (List.mem_of_getElem? (i := 71) rfl)) (hw _ (List.mem_of_getElem? (i := 72) rfl)) (hw _ (List.mem_of_getElem? (i := 69) rfl)) (hw _ (List.mem_of_getElem? (i := 73) rfl)) (by decide) (rmC5_1 l Z a0 hw ca 0 b1 0 1 h3 n0 kk sf u0 u1 u2 f11 SS z13 g10 rfl rfl rfl f12 f14) e6 (by decide) (by decide) (by rw [hml]; rfl) pd_21 rfl rfl rfl (Nat.le_of_eq rfl) d14_9 rfl (by decide) (by decide) ?_
  rintro r15 T16 L17 X18 ⟨N1_, K1_, (⟨rfl, t0, A1⟩ | ⟨rfl, t0⟩)⟩
  ·
    have f19 : Old Z n0 T16.heap := f11.keep K1_ (allS g10 all0)
    have f20 : Ar Z T16.heap ca .char 1 (fun q => .int (own_c u0 u1 u2 q)) := f12.keep K1_ (ninS n9 nin0)
    have z21 : n0 ≤ T16.heap.size := Nat.le_trans z13 K1_.1
    have K2 := K0.trans K1_ (allS (Or.inr gf) all0)
    show Go p e below _ (T16.setTop (mkF m 12 #[.val (.ref ca), .val (.int (0 : Int32)), .val (.int (1 : Int32)), .val (.ref b1), .unset, .unset] [(.int (1 : Int32))]))
    refine Go.istore (Ls' := #[.val (.ref ca), .val (.int (0 : Int32)), .val (.int (1 : Int32)), .val (.ref b1), .val (.int (1 : Int32)), .unset]) (pc' := 14) X18 hx hby d14_12 rfl rfl ?_
    refine Go.iload (pc' := 16) X18 hx hby d14_14 rfl rfl ?_
    refine Go.iloadN (pc' := 17) X18 hx hby d14_16 rfl rfl ?_
    refine Go.icmpY (pc' := 57) X18 hx hby d14_17 (by decide) (by decide) (show (1 : Int32) = (1 : Int32) from by decide) ?_
    refine Go.aloadN (pc' := 58) X18 hx hby d14_57 rfl rfl rfl ?_
    exact Go.retA X18 hx hby hlk hret rfl rfl rfl d14_58 (by decide) (by decide) ⟨b1, rfl, gf, (Fr.app (Fr.nil _) N1_), K2, Or.inl ⟨t0, A1⟩⟩
  ·
    have f22 : Old Z n0 T16.heap := f11.keep K1_ (allS g10 all0)
    have f23 : Ar Z T16.heap ca .char 1 (fun q => .int (own_c u0 u1 u2 q)) := f12.keep K1_ (ninS n9 nin0)
    have z24 : n0 ≤ T16.heap.size := Nat.le_trans z13 K1_.1
    have K2 := K0.trans K1_ (allS (Or.inr gf) all0)
    show Go p e below _ (T16.setTop (mkF m 12 #[.val (.ref ca), .val (.int (0 : Int32)), .val (.int (1 : Int32)), .val (.ref b1), .unset, .unset] [(.int (0 : Int32))]))
    refine Go.istore (Ls' := #[.val (.ref ca), .val (.int (0 : Int32)), .val (.int (1 : Int32)), .val (.ref b1), .val (.int (0 : Int32)), .unset]) (pc' := 14) X18 hx hby d14_12 rfl rfl ?_
    refine Go.iload (pc' := 16) X18 hx hby d14_14 rfl rfl ?_
    refine Go.iloadN (pc' := 17) X18 hx hby d14_16 rfl rfl ?_
    refine Go.icmpN (pc' := 20) X18 hx hby d14_17 rfl (show ¬ ((0 : Int32) = (1 : Int32)) from by decide) ?_
    refine Go.aloadN (pc' := 21) X18 hx hby d14_20 rfl rfl rfl ?_
    refine Go.iloadN (pc' := 22) X18 hx hby d14_21 rfl rfl ?_
    refine Go.iloadN (pc' := 23) X18 hx hby d14_22 rfl rfl ?_
    refine Go.callS (pc' := 26) (W := 0) (argsL := [(.ref ca), (.int (0 : Int32)), (.int (1 : Int32))]) (rest := []) X18 hx hby hZ hown (hw _ (List.mem_of_getElem? (i := 84) rfl)) (hw _ (List.mem_of_getElem? (i := 85) rfl)) (hw _ (List.mem_of_getElem? (i := 69) rfl)) (hw _ (List.mem_of_getElem? (i := 86) rfl)) (by decide) (rmTB1 l Z a0 hw ca 0 1 T16.heap n0 kk sf u0 u1 u2 f22 SS z24 rfl rfl f23) rfl (by decide) (by decide) (by rw [hml]; rfl) pd_19 rfl rfl rfl (Nat.le_of_eq rfl) d14_23 rfl (by decide) (by decide) ?_
    rintro r25 T26 L27 X28 ⟨b2, rfl, g2, N2_, K3, A2⟩
    have g3 : h0.size ≤ b2 := Nat.le_trans K2.1 g2
    have K4 := K2.trans K3 all0
    have f29 : Old Z n0 T26.heap := f22.keep K3 all0
    have f30 : Ar Z T26.heap ca .char 1 (fun q => .int (own_c u0 u1 u2 q)) := f23.keep K3 nin0
    have z31 : n0 ≤ T26.heap.size := Nat.le_trans z24 K3.1
    show Go p e below _ (T26.setTop (mkF m 26 #[.val (.ref ca), .val (.int (0 : Int32)), .val (.int (1 : Int32)), .val (.ref b1), .val (.int (0 : Int32)), .unset] [(.ref b2)]))
    refine Go.astore (Ls' := #[.val (.ref ca), .val (.int (0 : Int32)), .val (.int (1 : Int32)), .val (.ref b1), .val (.int (0 : Int32)), .val (.ref b2)]) (pc' := 28) X28 hx hby d14_26 rfl rfl rfl ?_
    refine Go.aload (pc' := 30) X28 hx hby d14_28 rfl rfl rfl ?_
    refine Go.iload (pc' := 32) X28 hx hby d14_30 rfl rfl ?_
    refine Go.callS (pc' := 35) (W := 0) (argsL := [(.ref b2), (.int (0 : Int32))]) (rest := []) X28 hx hby hZ hown (hw _ (List.mem_of_getElem? (i := 100) rfl)) (hw _ (List.mem_of_getElem? (i := 101) rfl)) (hw _ (List.mem_of_getElem? (i := 69) rfl)) (hw _ (List.mem_of_getElem? (i := 102) rfl)) (by decide) (rmGC1_0 l Z a0 hw b2 0 T26.heap n0 kk sf (fun q => .int (own_u u0 u1 u2 q)) (own_lo u0) (own_hi u0) u0 f29 SS rfl A2 rfl rfl (own_gcc u0 B0)) rfl (by decide) (by decide) (by rw [hml]; rfl) pd_15 rfl rfl rfl (Nat.le_of_eq rfl) d14_32 rfl (by decide) (by decide) ?_
    rintro r33 T34 L35 X36 ⟨rfl, rfl, e32⟩
    rw [List.append_nil] at X36
    show Go p e below _ (T34.setTop (mkF m 35 #[.val (.ref ca), .val (.int (0 : Int32)), .val (.int (1 : Int32)), .val (.ref b1), .val (.int (0 : Int32)), .val (.ref b2)] [(.int u0)]))
    refine Go.sipush (pc' := 38) X36 hx hby d14_35 rfl (v := (255 : Int32)) (by decide) ?_
    refine Go.icmpY (pc' := 54) X36 hx hby d14_38 (by decide) (by decide) (show (255 : Int32) < u0 from Int32.not_le.mp t0) ?_
    refine Go.aload (pc' := 56) X36 hx hby d14_54 rfl rfl rfl ?_
    exact Go.retA X36 hx hby hlk hret rfl rfl rfl d14_56 (by decide) (by decide) ⟨b2, rfl, g3, (Fr.app (Fr.app (Fr.nil _) N1_) N2_), by rw [e32]; exact K4, Or.inr (by rw [e32]; exact A2)⟩
theorem ef_16 (m : MethodId) (x0 : Addr) (x1 : Int32) : entryFrame m #[(.ref x0), (.int x1)] 2 = mkF m 0 #[.val (.ref x0), .val (.int x1)] [] := by first | (simp [entryFrame, mkF, argsToLocals, Value.category]; done) | rfl
set_option maxRecDepth 65536 in
set_option maxHeartbeats 40000000 in
theorem rmCF1_0 (l : Launch) (Z : State) (a0 : Array Value) (hw : ∀ d ∈ tables_1, d.before a0 Z = true) (a : Addr) (x1 : Int32) (h0 : Heap) (f0 : Int → Value) (h1 : x1 = 1) (A0 : Ar Z h0 a .byte 1 f0) :
    Con l Z (⟨"java/lang/StringUTF16", "coderFromArrayLen", "([BI)B"⟩ : MethodName) jdk_52_method_15_code 2 (some .byte) [] ({ frames := 0, cells := 0, slots := 0, locals := 0 } : Room) #[(.ref a), (.int x1)] h0 (PQ (some (.int 0)) h0) := by
  refine Con.of (plainFor_of_name pn_StringUTF16) ?_
  intro p e s m below meth c s₁ hx hby hml hown hnm hret hlk hZ X0 e0
  refine Go.cast (ef_16 m a x1) ?_
  replace hown : s.vm.findClass "java/lang/StringUTF16" = some m.cls := hown
  subst h1
  show Go p e below _ (s₁.setTop (mkF m 0 #[.val (.ref a), .val (.int (1 : Int32))] []))
  refine Go.iloadN (pc' := 1) X0 hx hby d16_0 rfl rfl ?_
  refine Go.aloadN (pc' := 2) X0 hx hby d16_1 rfl rfl rfl ?_
  refine Go.alen (pc' := 3) (zv := (1 : Int32)) X0 hx hby hZ e0 A0 d16_2 rfl (by decide) ?_
  refine Go.isub (pc' := 4) X0 hx hby d16_3 rfl ?_
  refine Go.bipush (pc' := 6) X0 hx hby d16_4 rfl (v := (31 : Int32)) (by decide) ?_
  refine Go.iushr (pc' := 7) X0 hx hby d16_6 rfl ?_
  refine Go.i2b (pc' := 8) X0 hx hby d16_7 rfl ?_
  exact Go.retZ X0 hx hby hlk hret (by simp) d16_8 (by decide) (by decide) ⟨by rw [show nar .byte (((((1 : Int32) - (1 : Int32)).toUInt32 >>> ((31 : Int32) &&& 31).toUInt32).toInt32).toInt8.toInt32) = 0 from by decide], rfl, e0⟩
set_option maxRecDepth 65536 in
set_option maxHeartbeats 40000000 in
theorem rmCF1_1 (l : Launch) (Z : State) (a0 : Array Value) (hw : ∀ d ∈ tables_1, d.before a0 Z = true) (a : Addr) (x1 : Int32) (h0 : Heap) (f0 : Int → Value) (h1 : x1 = 1) (A0 : Ar Z h0 a .byte 2 f0) :
    Con l Z (⟨"java/lang/StringUTF16", "coderFromArrayLen", "([BI)B"⟩ : MethodName) jdk_52_method_15_code 2 (some .byte) [] ({ frames := 0, cells := 0, slots := 0, locals := 0 } : Room) #[(.ref a), (.int x1)] h0 (PQ (some (.int 1)) h0) := by
  refine Con.of (plainFor_of_name pn_StringUTF16) ?_
  intro p e s m below meth c s₁ hx hby hml hown hnm hret hlk hZ X0 e0
  refine Go.cast (ef_16 m a x1) ?_
  replace hown : s.vm.findClass "java/lang/StringUTF16" = some m.cls := hown
  subst h1
  show Go p e below _ (s₁.setTop (mkF m 0 #[.val (.ref a), .val (.int (1 : Int32))] []))
  refine Go.iloadN (pc' := 1) X0 hx hby d16_0 rfl rfl ?_
  refine Go.aloadN (pc' := 2) X0 hx hby d16_1 rfl rfl rfl ?_
  refine Go.alen (pc' := 3) (zv := (2 : Int32)) X0 hx hby hZ e0 A0 d16_2 rfl (by decide) ?_
  refine Go.isub (pc' := 4) X0 hx hby d16_3 rfl ?_
  refine Go.bipush (pc' := 6) X0 hx hby d16_4 rfl (v := (31 : Int32)) (by decide) ?_
  refine Go.iushr (pc' := 7) X0 hx hby d16_6 rfl ?_
  refine Go.i2b (pc' := 8) X0 hx hby d16_7 rfl ?_
  exact Go.retZ X0 hx hby hlk hret (by simp) d16_8 (by decide) (by decide) ⟨by rw [show nar .byte (((((1 : Int32) - (2 : Int32)).toUInt32 >>> ((31 : Int32) &&& 31).toUInt32).toInt32).toInt8.toInt32) = 1 from by decide], rfl, e0⟩
set_option maxRecDepth 65536 in
set_option maxHeartbeats 40000000 in
theorem rmNL2 (l : Launch) (Z : State) (a0 : Array Value) (hw : ∀ d ∈ tables_1, d.before a0 Z = true) (x0 : Int32) (h0 : Heap) (h1 : x0 = 2) :
    Con l Z (⟨"java/lang/StringUTF16", "newBytesLength", "(I)I"⟩ : MethodName) jdk_52_method_3_code 1 (some .int) [] ({ frames := 0, cells := 0, slots := 0, locals := 0 } : Room) #[(.int x0)] h0 (PQ (some (.int 4)) h0) := by
  refine Con.of (plainFor_of_name pn_StringUTF16) ?_
  intro p e s m below meth c s₁ hx hby hml hown hnm hret hlk hZ X0 e0
  refine Go.cast (ef_21 m x0) ?_
  replace hown : s.vm.findClass "java/lang/StringUTF16" = some m.cls := hown
  subst h1
  show Go p e below _ (s₁.setTop (mkF m 0 #[.val (.int (2 : Int32))] []))
  refine Go.iloadN (pc' := 1) X0 hx hby d21_0 rfl rfl ?_
  refine Go.ifY (pc' := 12) X0 hx hby d21_1 (by decide) (by decide) (show 0 ≤ (2 : Int32) from by decide) ?_
  refine Go.iloadN (pc' := 13) X0 hx hby d21_12 rfl rfl ?_
  refine Go.ldcI (pc' := 15) X0 hx hby d21_13 rfl hown (mvT hZ (hw _ (List.mem_of_getElem? (i := 93) rfl))) ?_
  refine Go.icmpY (pc' := 55) X0 hx hby d21_15 (by decide) (by decide) (show (2 : Int32) < (1073741823 : Int32) from by decide) ?_
  refine Go.iloadN (pc' := 56) X0 hx hby d21_55 rfl rfl ?_
  refine Go.iconst (pc' := 57) X0 hx hby d21_56 rfl (v := (1 : Int32)) (by decide) ?_
  refine Go.ishl (pc' := 58) X0 hx hby d21_57 rfl ?_
  change Go p e below _ (s₁.setTop (mkF m 58 #[.val (.int (2 : Int32))] [(.int (4 : Int32))]))
  exact Go.retI X0 hx hby hlk hret d21_58 (by decide) (by decide) ⟨rfl, rfl, e0⟩
set_option maxRecDepth 65536 in
set_option maxHeartbeats 40000000 in
theorem rmNF2 (l : Launch) (Z : State) (a0 : Array Value) (hw : ∀ d ∈ tables_1, d.before a0 Z = true) (x0 : Int32) (h0 : Heap) (h1 : x0 = 2) :
    Con l Z (⟨"java/lang/StringUTF16", "newBytesFor", "(I)[B"⟩ : MethodName) jdk_52_method_2_code 1 (some (.array .byte)) [] ({ frames := 1, cells := 1, slots := 4, locals := 12 } : Room) #[(.int x0)] h0 (fun v h L => ∃ b, v = some (.ref b) ∧ h0.size ≤ b ∧ L = [] ∧ Ext h0 h ∧ Ar Z h b .byte 4 (fun q => .int 0)) := by
  refine Con.of (plainFor_of_name pn_StringUTF16) ?_
  intro p e s m below meth c s₁ hx hby hml hown hnm hret hlk hZ X0 e0
  refine Go.cast (ef_20 m x0) ?_
  replace hown : s.vm.findClass "java/lang/StringUTF16" = some m.cls := hown
  subst h1
  show Go p e below _ (s₁.setTop (mkF m 0 #[.val (.int (2 : Int32))] []))
  refine Go.iloadN (pc' := 1) X0 hx hby d20_0 rfl rfl ?_
  refine Go.callS (pc' := 4) (W := 0) (argsL := [(.int (2 : Int32))]) (rest := []) X0 hx hby hZ hown (hw _ (List.mem_of_getElem? (i := 90) rfl)) (hw _ (List.mem_of_getElem? (i := 91) rfl)) (hw _ (List.mem_of_getElem? (i := 69) rfl)) (hw _ (List.mem_of_getElem? (i := 92) rfl)) (by decide) (rmNL2 l Z a0 hw 2 h0 rfl) e0 (by decide) (by decide) (by rw [hml]; rfl) pd_5 rfl rfl rfl (Nat.le_of_eq rfl) d20_1 rfl (by decide) (by decide) ?_
  rintro r2 T3 L4 X5 ⟨rfl, rfl, e1⟩
  rw [List.append_nil] at X5
  show Go p e below _ (T3.setTop (mkF m 4 #[.val (.int (2 : Int32))] [(.int (4 : Int32))]))
  refine Go.newarr (pc' := 6) (cap := 4) (z := 4) X5 hx hby hZ (hw _ (List.mem_of_getElem? (i := 16) rfl)) e1 d20_4 rfl (by decide) (by decide) (by decide) (by decide) (by decide) (by decide) ?_
  intro b6 T7 h8 g9 X10 e11 E12 A13
  have g14 : 0 ≤ b6 := by rw [g9]; exact (Nat.zero_le _)
  have z15 : 0 ≤ h8.size := Nat.le_trans (Nat.zero_le _) E12.1
  have f16 : Ar Z h8 b6 .byte 4 (fun _ => (.int 0)) := A13
  show Go p e below _ (T7.setTop (mkF m 6 #[.val (.int (2 : Int32))] [(.ref b6)]))
  exact Go.retA X10 hx hby hlk hret rfl rfl rfl d20_6 (by decide) (by decide) ⟨b6, rfl, by rw [g9]; exact Nat.le_refl _, rfl, by rw [e11]; exact E12, by rw [e11]; exact f16⟩
set_option maxRecDepth 65536 in
set_option maxHeartbeats 40000000 in
theorem rmTB2 (l : Launch) (Z : State) (a0 : Array Value) (hw : ∀ d ∈ tables_1, d.before a0 Z = true) (ca : Addr) (x1 : Int32) (x2 : Int32) (h0 : Heap) (n0 : Nat) (kk : Int32) (sf : Value) (u0 u1 u2 : Int32) (O0 : Old Z n0 h0) (SS : own_S Z kk sf) (Z0 : n0 ≤ h0.size) (h1 : x1 = 0) (h2 : x2 = 2) (A0 : Ar Z h0 ca .char 2 (fun q => .int (own_c u0 u1 u2 q))) :
    Con l Z (⟨"java/lang/StringUTF16", "toBytes", "([CII)[B"⟩ : MethodName) jdk_52_method_14_code 5 (some (.array .byte)) [] ({ frames := 2, cells := 1, slots := 4, locals := 24 } : Room) #[(.ref ca), (.int x1), (.int x2)] h0 (fun v h L => ∃ b, v = some (.ref b) ∧ h0.size ≤ b ∧ Fr n0 L ∧ Keep h0 h [] ∧ Ar Z h b .byte 4 (fun q => .int (own_u u0 u1 u2 q))) := by
  refine Con.of (plainFor_of_name pn_StringUTF16) ?_
  intro p e s m below meth c s₁ hx hby hml hown hnm hret hlk hZ X0 e0
  refine Go.cast (ef_19 m ca x1 x2) ?_
  replace hown : s.vm.findClass "java/lang/StringUTF16" = some m.cls := hown
  subst h1 h2
  show Go p e below _ (s₁.setTop (mkF m 0 #[.val (.ref ca), .val (.int (0 : Int32)), .val (.int (2 : Int32)), .unset, .unset] []))
  refine Go.iloadN (pc' := 1) X0 hx hby d19_0 rfl rfl ?_
  refine Go.callS (pc' := 4) (W := 0) (argsL := [(.int (2 : Int32))]) (rest := []) X0 hx hby hZ hown (hw _ (List.mem_of_getElem? (i := 87) rfl)) (hw _ (List.mem_of_getElem? (i := 88) rfl)) (hw _ (List.mem_of_getElem? (i := 69) rfl)) (hw _ (List.mem_of_getElem? (i := 89) rfl)) (by decide) (rmNF2 l Z a0 hw 2 h0 rfl) e0 (by decide) (by decide) (by rw [hml]; rfl) pd_7 rfl rfl rfl (Nat.le_of_eq rfl) d19_1 rfl (by decide) (by decide) ?_
  rintro r1 T2 L3 X4 ⟨b, rfl, gf, rfl, E1, A1⟩
  rw [List.append_nil] at X4
  have gb : n0 ≤ b := Nat.le_trans Z0 gf
  have nb : ca ≠ b := Nat.ne_of_lt (Nat.lt_of_lt_of_le A0.lt gf)
  have K0 : Keep h0 T2.heap [] := (Keep.refl h0 _).ext E1
  have f5 : Old Z n0 T2.heap := O0.ext E1
  have f6 : Ar Z T2.heap ca .char 2 (fun q => .int (own_c u0 u1 u2 q)) := A0.ext E1
  have z7 : n0 ≤ T2.heap.size := Nat.le_trans Z0 E1.1
  show Go p e below _ (T2.setTop (mkF m 4 #[.val (.ref ca), .val (.int (0 : Int32)), .val (.int (2 : Int32)), .unset, .unset] [(.ref b)]))
  refine Go.astoreN (Ls' := #[.val (.ref ca), .val (.int (0 : Int32)), .val (.int (2 : Int32)), .val (.ref b), .unset]) (pc' := 5) X4 hx hby d19_4 rfl rfl rfl ?_
  refine Go.iconst (pc' := 6) X4 hx hby d19_5 rfl (v := (0 : Int32)) (by decide) ?_
  refine Go.istore (Ls' := #[.val (.ref ca), .val (.int (0 : Int32)), .val (.int (2 : Int32)), .val (.ref b), .val (.int (0 : Int32))]) (pc' := 8) X4 hx hby d19_6 rfl rfl ?_
  refine Go.iload (pc' := 10) X4 hx hby d19_8 rfl rfl ?_
  refine Go.iloadN (pc' := 11) X4 hx hby d19_10 rfl rfl ?_
  refine Go.icmpN (pc' := 14) X4 hx hby d19_11 rfl (show ¬ ((2 : Int32) ≤ (0 : Int32)) from by decide) ?_
  refine Go.aloadN (pc' := 15) X4 hx hby d19_14 rfl rfl rfl ?_
  refine Go.iload (pc' := 17) X4 hx hby d19_15 rfl rfl ?_
  refine Go.aloadN (pc' := 18) X4 hx hby d19_17 rfl rfl rfl ?_
  refine Go.iloadN (pc' := 19) X4 hx hby d19_18 rfl rfl ?_
  refine Go.caload (pc' := 20) (i := 0) (v := (.int u0)) X4 hx hby hZ rfl f6 d19_19 rfl (by decide) (by decide) (by decide) rfl ?_
  refine Go.callS (pc' := 23) (W := 0) (argsL := [(.ref b), (.int (0 : Int32)), (.int u0)]) (rest := []) X4 hx hby hZ hown (hw _ (List.mem_of_getElem? (i := 94) rfl)) (hw _ (List.mem_of_getElem? (i := 95) rfl)) (hw _ (List.mem_of_getElem? (i := 69) rfl)) (hw _ (List.mem_of_getElem? (i := 96) rfl)) (by decide) (rmPC2_0 l Z a0 hw b 0 u0 T2.heap n0 kk sf (fun q => .int 0) f5 SS z7 gb rfl A1) rfl (by decide) (by decide) (by rw [hml]; rfl) pd_16 rfl rfl rfl (Nat.le_of_eq rfl) d19_20 rfl (by decide) (by decide) ?_
  rintro r8 T9 L10 X11 ⟨rfl, N0_, Kc0, A0_⟩
  have K1 := K0.trans Kc0 (allS (Or.inr gf) all0)
  have f12 : Old Z n0 T9.heap := f5.keep Kc0 (allS gb all0)
  have f13 : Ar Z T9.heap ca .char 2 (fun q => .int (own_c u0 u1 u2 q)) := f6.keep Kc0 (ninS nb nin0)
  have z14 : n0 ≤ T9.heap.size := Nat.le_trans z7 Kc0.1
  show Go p e below _ (T9.setTop (mkF m 23 #[.val (.ref ca), .val (.int (0 : Int32)), .val (.int (2 : Int32)), .val (.ref b), .val (.int (0 : Int32))] []))
  refine Go.iinc (w := (0 : Int32) + (1 : Int32)) (Ls' := #[.val (.ref ca), .val (.int ((0 : Int32) + (1 : Int32))), .val (.int (2 : Int32)), .val (.ref b), .val (.int (0 : Int32))]) (pc' := 26) X11 hx hby d19_23 rfl rfl rfl rfl ?_
  refine Go.iinc (w := (0 : Int32) + (1 : Int32)) (Ls' := #[.val (.ref ca), .val (.int ((0 : Int32) + (1 : Int32))), .val (.int (2 : Int32)), .val (.ref b), .val (.int ((0 : Int32) + (1 : Int32)))]) (pc' := 29) X11 hx hby d19_26 rfl rfl rfl rfl ?_
  change Go p e below _ (T9.setTop (mkF m 29 #[.val (.ref ca), .val (.int (1 : Int32)), .val (.int (2 : Int32)), .val (.ref b), .val (.int ((0 : Int32) + (1 : Int32)))] []))
  change Go p e below _ (T9.setTop (mkF m 29 #[.val (.ref ca), .val (.int (1 : Int32)), .val (.int (2 : Int32)), .val (.ref b), .val (.int (1 : Int32))] []))
  refine Go.goto (pc' := 8) X11 hx hby d19_29 (by decide) (by decide) ?_
  refine Go.iload (pc' := 10) X11 hx hby d19_8 rfl rfl ?_
  refine Go.iloadN (pc' := 11) X11 hx hby d19_10 rfl rfl ?_
  refine Go.icmpN (pc' := 14) X11 hx hby d19_11 rfl (show ¬ ((2 : Int32) ≤ (1 : Int32)) from by decide) ?_
  refine Go.aloadN (pc' := 15) X11 hx hby d19_14 rfl rfl rfl ?_
  refine Go.iload (pc' := 17) X11 hx hby d19_15 rfl rfl ?_
  refine Go.aloadN (pc' := 18) X11 hx hby d19_17 rfl rfl rfl ?_
  refine Go.iloadN (pc' := 19) X11 hx hby d19_18 rfl rfl ?_
  refine Go.caload (pc' := 20) (i := 1) (v := (.int u1)) X11 hx hby hZ rfl f13 d19_19 rfl (by decide) (by decide) (by decide) rfl ?_
  refine Go.callS (pc' := 23) (W := 0) (argsL := [(.ref b), (.int (1 : Int32)), (.int u1)]) (rest := []) X11 hx hby hZ hown (hw _ (List.mem_of_getElem? (i := 94) rfl)) (hw _ (List.mem_of_getElem? (i := 95) rfl)) (hw _ (List.mem_of_getElem? (i := 69) rfl)) (hw _ (List.mem_of_getElem? (i := 96) rfl)) (by decide) (rmPC2_1 l Z a0 hw b 1 u1 T9.heap n0 kk sf (fun q => if q = 1 then .int (own_hi u0) else if q = 0 then .int (own_lo u0) else .int 0) f12 SS z14 gb rfl A0_) rfl (by decide) (by decide) (by rw [hml]; rfl) pd_16 rfl rfl rfl (Nat.le_of_eq rfl) d19_20 rfl (by decide) (by decide) ?_
  rintro r15 T16 L17 X18 ⟨rfl, N1_, Kc1, A1_⟩
  have K2 := K1.trans Kc1 (allS (Or.inr gf) all0)
  have f19 : Old Z n0 T16.heap := f12.keep Kc1 (allS gb all0)
  have f20 : Ar Z T16.heap ca .char 2 (fun q => .int (own_c u0 u1 u2 q)) := f13.keep Kc1 (ninS nb nin0)
  have z21 : n0 ≤ T16.heap.size := Nat.le_trans z14 Kc1.1
  show Go p e below _ (T16.setTop (mkF m 23 #[.val (.ref ca), .val (.int (1 : Int32)), .val (.int (2 : Int32)), .val (.ref b), .val (.int (1 : Int32))] []))
  refine Go.iinc (w := (1 : Int32) + (1 : Int32)) (Ls' := #[.val (.ref ca), .val (.int ((1 : Int32) + (1 : Int32))), .val (.int (2 : Int32)), .val (.ref b), .val (.int (1 : Int32))]) (pc' := 26) X18 hx hby d19_23 rfl rfl rfl rfl ?_
  refine Go.iinc (w := (1 : Int32) + (1 : Int32)) (Ls' := #[.val (.ref ca), .val (.int ((1 : Int32) + (1 : Int32))), .val (.int (2 : Int32)), .val (.ref b), .val (.int ((1 : Int32) + (1 : Int32)))]) (pc' := 29) X18 hx hby d19_26 rfl rfl rfl rfl ?_
  change Go p e below _ (T16.setTop (mkF m 29 #[.val (.ref ca), .val (.int (2 : Int32)), .val (.int (2 : Int32)), .val (.ref b), .val (.int ((1 : Int32) + (1 : Int32)))] []))
  change Go p e below _ (T16.setTop (mkF m 29 #[.val (.ref ca), .val (.int (2 : Int32)), .val (.int (2 : Int32)), .val (.ref b), .val (.int (2 : Int32))] []))
  refine Go.goto (pc' := 8) X18 hx hby d19_29 (by decide) (by decide) ?_
  refine Go.iload (pc' := 10) X18 hx hby d19_8 rfl rfl ?_
  refine Go.iloadN (pc' := 11) X18 hx hby d19_10 rfl rfl ?_
  refine Go.icmpY (pc' := 32) X18 hx hby d19_11 (by decide) (by decide) (show (2 : Int32) ≤ (2 : Int32) from by decide) ?_
  refine Go.aloadN (pc' := 33) X18 hx hby d19_32 rfl rfl rfl ?_
  have f22 : Ar Z T16.heap b .byte 4 (fun q => .int (own_u u0 u1 u2 q)) := A1_.congr (fun i h1 h2 => by have t : i = 0 ∨ i = 1 ∨ i = 2 ∨ i = 3 := (by omega); rcases t with rfl | rfl | rfl | rfl <;> rfl)
  exact Go.retA X18 hx hby hlk hret rfl rfl rfl d19_33 (by decide) (by decide) ⟨b, rfl, gf, (Fr.app (Fr.app (Fr.nil _) N0_) N1_), K2, f22⟩
set_option maxRecDepth 65536 in
set_option maxHeartbeats 40000000 in
theorem rmC5_2 (l : Launch) (Z : State) (a0 : Array Value) (hw : ∀ d ∈ tables_1, d.before a0 Z = true) (ca : Addr) (x1 : Int32) (ba : Addr) (x3 : Int32) (x4 : Int32) (h0 : Heap) (n0 : Nat) (kk : Int32) (sf : Value) (u0 u1 u2 : Int32) (O0 : Old Z n0 h0) (SS : own_S Z kk sf) (Z0 : n0 ≤ h0.size) (gb : n0 ≤ ba) (h1 : x1 = 0) (h3 : x3 = 0) (h4 : x4 = 2) (A0 : Ar Z h0 ca .char 2 (fun q => .int (own_c u0 u1 u2 q))) (A1 : Ar Z h0 ba .byte 2 (fun q => .int 0)) :
    Con l Z (⟨"java/lang/StringUTF16", "compress", "([CI[BII)I"⟩ : MethodName) jdk_52_method_21_code 7 (some .int) [] ({ frames := 0, cells := 0, slots := 0, locals := 0 } : Room) #[(.ref ca), (.int x1), (.ref ba), (.int x3), (.int x4)] h0 (fun v h L => Fr n0 L ∧ Keep h0 h [ba] ∧ ((v = some (.int 2) ∧ (u0 ≤ (255 : Int32) ∧ u1 ≤ (255 : Int32)) ∧ Ar Z h ba .byte 2 (fun q => .int (own_lat (own_c u0 u1 u2 q)))) ∨ (v = some (.int 0) ∧ ¬ u0 ≤ (255 : Int32)) ∨ (v = some (.int 1) ∧ ¬ u1 ≤ (255 : Int32)))) := by
  refine Con.of (plainFor_of_name pn_StringUTF16) ?_
  intro p e s m below meth c s₁ hx hby hml hown hnm hret hlk hZ X0 e0
  refine Go.cast (ef_15 m ca x1 ba x3 x4) ?_
  replace hown : s.vm.findClass "java/lang/StringUTF16" = some m.cls := hown
  subst h1 h3 h4
  show Go p e below _ (s₁.setTop (mkF m 0 #[.val (.ref ca), .val (.int (0 : Int32)), .val (.ref ba), .val (.int (0 : Int32)), .val (.int (2 : Int32)), .unset, .unset] []))
  have nb : ca ≠ ba := Ar.neTy A0 A1 (by decide)
  refine Go.iconst (pc' := 1) X0 hx hby d15_0 rfl (v := (0 : Int32)) (by decide) ?_
  refine Go.istore (Ls' := #[.val (.ref ca), .val (.int (0 : Int32)), .val (.ref ba), .val (.int (0 : Int32)), .val (.int (2 : Int32)), .val (.int (0 : Int32)), .unset]) (pc' := 3) X0 hx hby d15_1 rfl rfl ?_
  refine Go.iload (pc' := 5) X0 hx hby d15_3 rfl rfl ?_
  refine Go.iload (pc' := 7) X0 hx hby d15_5 rfl rfl ?_
  refine Go.icmpN (pc' := 10) X0 hx hby d15_7 rfl (show ¬ ((2 : Int32) ≤ (0 : Int32)) from by decide) ?_
  refine Go.aloadN (pc' := 11) X0 hx hby d15_10 rfl rfl rfl ?_
  refine Go.iloadN (pc' := 12) X0 hx hby d15_11 rfl rfl ?_
  refine Go.caload (pc' := 13) (i := 0) (v := (.int u0)) X0 hx hby hZ e0 A0 d15_12 rfl (by decide) (by decide) (by decide) rfl ?_
  refine Go.istore (Ls' := #[.val (.ref ca), .val (.int (0 : Int32)), .val (.ref ba), .val (.int (0 : Int32)), .val (.int (2 : Int32)), .val (.int (0 : Int32)), .val (.int u0)]) (pc' := 15) X0 hx hby d15_13 rfl rfl ?_
  refine Go.iload (pc' := 17) X0 hx hby d15_15 rfl rfl ?_
  refine Go.sipush (pc' := 20) X0 hx hby d15_17 rfl (v := (255 : Int32)) (by decide) ?_
  refine Go.icmp (pc' := 26) (pn := 23) X0 hx hby d15_20 (by decide) (by decide) rfl (fun (t0 : u0 ≤ (255 : Int32)) => ?_) (fun (t0 : ¬ (u0 ≤ (255 : Int32))) => ?_)
  rotate_left
  ·
    refine Go.iload (pc' := 25) X0 hx hby d15_23 rfl rfl ?_
    exact Go.retI X0 hx hby hlk hret d15_25 (by decide) (by decide) ⟨(Fr.nil _), by rw [e0]; exact (Keep.refl h0 _), Or.inr (Or.inl ⟨rfl, t0⟩)⟩
  refine Go.aloadN (pc' := 27) X0 hx hby d15_26 rfl rfl rfl ?_
  refine Go.iloadN (pc' := 28) X0 hx hby d15_27 rfl rfl ?_
  refine Go.iload (pc' := 30) X0 hx hby d15_28 rfl rfl ?_
  refine Go.i2b (pc' := 31) X0 hx hby d15_30 rfl ?_
  refine Go.bastore (pc' := 32) (i := 0) X0 hx hby hZ e0 A1 d15_31 rfl (by decide) (by decide) (by decide) ?_
  intro T1 h2 X3 e4 W5 A6
  have f7 : Old Z n0 h2 := O0.wr W5 gb
  have f8 : Ar Z h2 ca .char 2 (fun q => .int (own_c u0 u1 u2 q)) := A0.other W5 nb
  have z9 : n0 ≤ h2.size := by rw [Wr.size W5]; exact Z0
  have f10 : Ar Z h2 ba .byte 2 (fun q => if q = 0 then (.int (nar .byte u0.toInt8.toInt32)) else .int 0) := A6
  have N11 : Fr n0 _ := Fr.snoc X3 (Fr.nil _) gb
  show Go p e below _ (T1.setTop (mkF m 32 #[.val (.ref ca), .val (.int (0 : Int32)), .val (.ref ba), .val (.int (0 : Int32)), .val (.int (2 : Int32)), .val (.int (0 : Int32)), .val (.int u0)] []))
  refine Go.iinc (w := (0 : Int32) + (1 : Int32)) (Ls' := #[.val (.ref ca), .val (.int ((0 : Int32) + (1 : Int32))), .val (.ref ba), .val (.int (0 : Int32)), .val (.int (2 : Int32)), .val (.int (0 : Int32)), .val (.int u0)]) (pc' := 35) X3 hx hby d15_32 rfl rfl rfl rfl ?_
  refine Go.iinc (w := (0 : Int32) + (1 : Int32)) (Ls' := #[.val (.ref ca), .val (.int ((0 : Int32) + (1 : Int32))), .val (.ref ba), .val (.int ((0 : Int32) + (1 : Int32))), .val (.int (2 : Int32)), .val (.int (0 : Int32)), .val (.int u0)]) (pc' := 38) X3 hx hby d15_35 rfl rfl rfl rfl ?_
  refine Go.iinc (w := (0 : Int32) + (1 : Int32)) (Ls' := #[.val (.ref ca), .val (.int ((0 : Int32) + (1 : Int32))), .val (.ref ba), .val (.int ((0 : Int32) + (1 : Int32))), .val (.int (2 : Int32)), .val (.int ((0 : Int32) + (1 : Int32))), .val (.int u0)]) (pc' := 41) X3 hx hby d15_38 rfl rfl rfl rfl ?_
  change Go p e below _ (T1.setTop (mkF m 41 #[.val (.ref ca), .val (.int (1 : Int32)), .val (.ref ba), .val (.int ((0 : Int32) + (1 : Int32))), .val (.int (2 : Int32)), .val (.int ((0 : Int32) + (1 : Int32))), .val (.int u0)] []))
  change Go p e below _ (T1.setTop (mkF m 41 #[.val (.ref ca), .val (.int (1 : Int32)), .val (.ref ba), .val (.int (1 : Int32)), .val (.int (2 : Int32)), .val (.int ((0 : Int32) + (1 : Int32))), .val (.int u0)] []))
  change Go p e below _ (T1.setTop (mkF m 41 #[.val (.ref ca), .val (.int (1 : Int32)), .val (.ref ba), .val (.int (1 : Int32)), .val (.int (2 : Int32)), .val (.int (1 : Int32)), .val (.int u0)] []))
  refine Go.goto (pc' := 3) X3 hx hby d15_41 (by decide) (by decide) ?_
  refine Go.iload (pc' := 5) X3 hx hby d15_3 rfl rfl ?_
  refine Go.iload (pc' := 7) X3 hx hby d15_5 rfl rfl ?_
  refine Go.icmpN (pc' := 10) X3 hx hby d15_7 rfl (show ¬ ((2 : Int32) ≤ (1 : Int32)) from by decide) ?_
  refine Go.aloadN (pc' := 11) X3 hx hby d15_10 rfl rfl rfl ?_
  refine Go.iloadN (pc' := 12) X3 hx hby d15_11 rfl rfl ?_
  refine Go.caload (pc' := 13) (i := 1) (v := (.int u1)) X3 hx hby hZ e4 f8 d15_12 rfl (by decide) (by decide) (by decide) rfl ?_
  refine Go.istore (Ls' := #[.val (.ref ca), .val (.int (1 : Int32)), .val (.ref ba), .val (.int (1 : Int32)), .val (.int (2 : Int32)), .val (.int (1 : Int32)), .val (.int u1)]) (pc' := 15) X3 hx hby d15_13 rfl rfl ?_
  refine Go.iload (pc' := 17) X3 hx hby d15_15 rfl rfl ?_
  refine Go.sipush (pc' := 20) X3 hx hby d15_17 rfl (v := (255 : Int32)) (by decide) ?_
  refine Go.icmp (pc' := 26) (pn := 23) X3 hx hby d15_20 (by decide) (by decide) rfl (fun (t1 : u1 ≤ (255 : Int32)) => ?_) (fun (t1 : ¬ (u1 ≤ (255 : Int32))) => ?_)
  rotate_left
  ·
    refine Go.iload (pc' := 25) X3 hx hby d15_23 rfl rfl ?_
    exact Go.retI X3 hx hby hlk hret d15_25 (by decide) (by decide) ⟨N11, by rw [e4]; exact ((Keep.refl h0 _).wr W5 (Or.inl (List.mem_singleton.mpr rfl))), Or.inr (Or.inr (⟨rfl, t1⟩))⟩
  refine Go.aloadN (pc' := 27) X3 hx hby d15_26 rfl rfl rfl ?_
  refine Go.iloadN (pc' := 28) X3 hx hby d15_27 rfl rfl ?_
  refine Go.iload (pc' := 30) X3 hx hby d15_28 rfl rfl ?_
  refine Go.i2b (pc' := 31) X3 hx hby d15_30 rfl ?_
  refine Go.bastore (pc' := 32) (i := 1) X3 hx hby hZ e4 f10 d15_31 rfl (by decide) (by decide) (by decide) ?_
  intro T12 h13 X14 e15 W16 A17
  have f18 : Old Z n0 h13 := f7.wr W16 gb
  have f19 : Ar Z h13 ca .char 2 (fun q => .int (own_c u0 u1 u2 q)) := f8.other W16 nb
  have z20 : n0 ≤ h13.size := by rw [Wr.size W16]; exact z9
  have f21 : Ar Z h13 ba .byte 2 (fun q => if q = 1 then (.int (nar .byte u1.toInt8.toInt32)) else if q = 0 then (.int (nar .byte u0.toInt8.toInt32)) else .int 0) := A17
  have N22 : Fr n0 _ := Fr.snoc X14 N11 gb
  show Go p e below _ (T12.setTop (mkF m 32 #[.val (.ref ca), .val (.int (1 : Int32)), .val (.ref ba), .val (.int (1 : Int32)), .val (.int (2 : Int32)), .val (.int (1 : Int32)), .val (.int u1)] []))
  refine Go.iinc (w := (1 : Int32) + (1 : Int32)) (Ls' := #[.val (.ref ca), .val (.int ((1 : Int32) + (1 : Int32))), .val (.ref ba), .val (.int (1 : Int32)), .val (.int (2 : Int32)), .val (.int (1 : Int32)), .val (.int u1)]) (pc' := 35) X14 hx hby d15_32 rfl rfl rfl rfl ?_
  refine Go.iinc (w := (1 : Int32) + (1 : Int32)) (Ls' := #[.val (.ref ca), .val (.int ((1 : Int32) + (1 : Int32))), .val (.ref ba), .val (.int ((1 : Int32) + (1 : Int32))), .val (.int (2 : Int32)), .val (.int (1 : Int32)), .val (.int u1)]) (pc' := 38) X14 hx hby d15_35 rfl rfl rfl rfl ?_
  refine Go.iinc (w := (1 : Int32) + (1 : Int32)) (Ls' := #[.val (.ref ca), .val (.int ((1 : Int32) + (1 : Int32))), .val (.ref ba), .val (.int ((1 : Int32) + (1 : Int32))), .val (.int (2 : Int32)), .val (.int ((1 : Int32) + (1 : Int32))), .val (.int u1)]) (pc' := 41) X14 hx hby d15_38 rfl rfl rfl rfl ?_
  change Go p e below _ (T12.setTop (mkF m 41 #[.val (.ref ca), .val (.int (2 : Int32)), .val (.ref ba), .val (.int ((1 : Int32) + (1 : Int32))), .val (.int (2 : Int32)), .val (.int ((1 : Int32) + (1 : Int32))), .val (.int u1)] []))
  change Go p e below _ (T12.setTop (mkF m 41 #[.val (.ref ca), .val (.int (2 : Int32)), .val (.ref ba), .val (.int (2 : Int32)), .val (.int (2 : Int32)), .val (.int ((1 : Int32) + (1 : Int32))), .val (.int u1)] []))
  change Go p e below _ (T12.setTop (mkF m 41 #[.val (.ref ca), .val (.int (2 : Int32)), .val (.ref ba), .val (.int (2 : Int32)), .val (.int (2 : Int32)), .val (.int (2 : Int32)), .val (.int u1)] []))
  refine Go.goto (pc' := 3) X14 hx hby d15_41 (by decide) (by decide) ?_
  refine Go.iload (pc' := 5) X14 hx hby d15_3 rfl rfl ?_
  refine Go.iload (pc' := 7) X14 hx hby d15_5 rfl rfl ?_
  refine Go.icmpY (pc' := 44) X14 hx hby d15_7 (by decide) (by decide) (show (2 : Int32) ≤ (2 : Int32) from by decide) ?_
  refine Go.iload (pc' := 46) X14 hx hby d15_44 rfl rfl ?_
  have f23 : Ar Z h13 ba .byte 2 (fun q => .int (own_lat (own_c u0 u1 u2 q))) := f21.congr (fun i h1 h2 => by have t : i = 0 ∨ i = 1 := (by omega); rcases t with rfl | rfl <;> rfl)
  exact Go.retI X14 hx hby hlk hret d15_46 (by decide) (by decide) ⟨N22, by rw [e15]; exact (((Keep.refl h0 _).wr W5 (Or.inl (List.mem_singleton.mpr rfl))).wr W16 (Or.inl (List.mem_singleton.mpr rfl))), Or.inl ⟨rfl, ⟨t0, t1⟩, by rw [e15]; exact f23⟩⟩
set_option maxRecDepth 65536 in
set_option maxHeartbeats 40000000 in
theorem rmC3_2 (l : Launch) (Z : State) (a0 : Array Value) (hw : ∀ d ∈ tables_1, d.before a0 Z = true) (ca : Addr) (x1 : Int32) (x2 : Int32) (h0 : Heap) (n0 : Nat) (kk : Int32) (sf : Value) (u0 u1 u2 : Int32) (O0 : Old Z n0 h0) (SS : own_S Z kk sf) (B0 : 0 ≤ u0.toInt ∧ u0.toInt ≤ 65535) (B1 : 0 ≤ u1.toInt ∧ u1.toInt ≤ 65535) (B2 : 0 ≤ u2.toInt ∧ u2.toInt ≤ 65535) (Z0 : n0 ≤ h0.size) (h1 : x1 = 0) (h2 : x2 = 2) (A0 : Ar Z h0 ca .char 2 (fun q => .int (own_c u0 u1 u2 q))) :
    Con l Z (⟨"java/lang/StringUTF16", "compress", "([CII)[B"⟩ : MethodName) jdk_52_method_16_code 6 (some (.array .byte)) [] ({ frames := 3, cells := 2, slots := 6, locals := 40 } : Room) #[(.ref ca), (.int x1), (.int x2)] h0 (fun v h L => ∃ b, v = some (.ref b) ∧ h0.size ≤ b ∧ Fr n0 L ∧ Keep h0 h [] ∧ (((u0 ≤ (255 : Int32) ∧ u1 ≤ (255 : Int32)) ∧ Ar Z h b .byte 2 (fun q => .int (own_lat (own_c u0 u1 u2 q)))) ∨ Ar Z h b .byte 4 (fun q => .int (own_u u0 u1 u2 q)))) := by
  refine Con.of (plainFor_of_name pn_StringUTF16) ?_
  intro p e s m below meth c s₁ hx hby hml hown hnm hret hlk hZ X0 e0
  refine Go.cast (ef_14 m ca x1 x2) ?_
  replace hown : s.vm.findClass "java/lang/StringUTF16" = some m.cls := hown
  subst h1 h2
  show Go p e below _ (s₁.setTop (mkF m 0 #[.val (.ref ca), .val (.int (0 : Int32)), .val (.int (2 : Int32)), .unset, .unset, .unset] []))
  refine Go.iloadN (pc' := 1) X0 hx hby d14_0 rfl rfl ?_
  refine Go.newarr (pc' := 3) (cap := 2) (z := 2) X0 hx hby hZ (hw _ (List.mem_of_getElem? (i := 16) rfl)) e0 d14_1 rfl (by decide) (by decide) (by decide) (by decide) (by decide) (by decide) ?_
  intro b1 T2 h3 g4 X5 e6 E7 A8
  have n9 : ca ≠ b1 := Nat.ne_of_lt (by rw [g4]; exact A0.lt)
  have g10 : n0 ≤ b1 := by rw [g4]; exact Z0
  have f11 : Old Z n0 h3 := O0.ext E7
  have f12 : Ar Z h3 ca .char 2 (fun q => .int (own_c u0 u1 u2 q)) := A0.ext E7
  have z13 : n0 ≤ h3.size := Nat.le_trans Z0 E7.1
  have f14 : Ar Z h3 b1 .byte 2 (fun _ => (.int 0)) := A8
  show Go p e below _ (T2.setTop (mkF m 3 #[.val (.ref ca), .val (.int (0 : Int32)), .val (.int (2 : Int32)), .unset, .unset, .unset] [(.ref b1)]))
  have K0 : Keep h0 h3 [] := (Keep.refl h0 _).ext E7
  have gf : h0.size ≤ b1 := by rw [g4]; exact Nat.le_refl _
  refine Go.astoreN (Ls' := #[.val (.ref ca), .val (.int (0 : Int32)), .val (.int (2 : Int32)), .val (.ref b1), .unset, .unset]) (pc' := 4) X5 hx hby d14_3 rfl rfl rfl ?_
  refine Go.aloadN (pc' := 5) X5 hx hby d14_4 rfl rfl rfl ?_
  refine Go.iloadN (pc' := 6) X5 hx hby d14_5 rfl rfl ?_
  refine Go.aloadN (pc' := 7) X5 hx hby d14_6 rfl rfl rfl ?_
  refine Go.iconst (pc' := 8) X5 hx hby d14_7 rfl (v := (0 : Int32)) (by decide) ?_
  refine Go.iloadN (pc' := 9) X5 hx hby d14_8 rfl rfl ?_
  refine Go.callS (pc' := 12) (W := 0) (argsL := [(.ref ca), (.int (0 : Int32)), (.ref b1), (.int (0 : Int32)), (.int (2 : Int32))]) (rest := []) X5 hx hby hZ hown (hw _ (List.mem_of_getElem? (i := 71) rfl)) (hw _ (List.mem_of_getElem? (i := 72) rfl)) (hw _ (List.mem_of_getElem? (i := 69) rfl)) (hw _ (List.mem_of_getElem? (i := 73) rfl)) (by decide) (rmC5_2 l Z a0 hw ca 0 b1 0 2 h3 n0 kk sf u0 u1 u2 f11 SS z13 g10 rfl rfl rfl f12 f14) e6 (by decide) (by decide) (by rw [hml]; rfl) pd_21 rfl rfl rfl (Nat.le_of_eq rfl) d14_9 rfl (by decide) (by decide) ?_
  rintro r15 T16 L17 X18 ⟨N1_, K1_, (⟨rfl, t0, A1⟩ | ⟨rfl, t0⟩ | ⟨rfl, t0⟩)⟩
  ·
    have f19 : Old Z n0 T16.heap := f11.keep K1_ (allS g10 all0)
    have f20 : Ar Z T16.heap ca .char 2 (fun q => .int (own_c u0 u1 u2 q)) := f12.keep K1_ (ninS n9 nin0)
    have z21 : n0 ≤ T16.heap.size := Nat.le_trans z13 K1_.1
    have K2 := K0.trans K1_ (allS (Or.inr gf) all0)
    show Go p e below _ (T16.setTop (mkF m 12 #[.val (.ref ca), .val (.int (0 : Int32)), .val (.int (2 : Int32)), .val (.ref b1), .unset, .unset] [(.int (2 : Int32))]))
    refine Go.istore (Ls' := #[.val (.ref ca), .val (.int (0 : Int32)), .val (.int (2 : Int32)), .val (.ref b1), .val (.int (2 : Int32)), .unset]) (pc' := 14) X18 hx hby d14_12 rfl rfl ?_
    refine Go.iload (pc' := 16) X18 hx hby d14_14 rfl rfl ?_
    refine Go.iloadN (pc' := 17) X18 hx hby d14_16 rfl rfl ?_
    refine Go.icmpY (pc' := 57) X18 hx hby d14_17 (by decide) (by decide) (show (2 : Int32) = (2 : Int32) from by decide) ?_
    refine Go.aloadN (pc' := 58) X18 hx hby d14_57 rfl rfl rfl ?_
    exact Go.retA X18 hx hby hlk hret rfl rfl rfl d14_58 (by decide) (by decide) ⟨b1, rfl, gf, (Fr.app (Fr.nil _) N1_), K2, Or.inl ⟨t0, A1⟩⟩
  ·
    have f22 : Old Z n0 T16.heap := f11.keep K1_ (allS g10 all0)
    have f23 : Ar Z T16.heap ca .char 2 (fun q => .int (own_c u0 u1 u2 q)) := f12.keep K1_ (ninS n9 nin0)
    have z24 : n0 ≤ T16.heap.size := Nat.le_trans z13 K1_.1
    have K2 := K0.trans K1_ (allS (Or.inr gf) all0)
    show Go p e below _ (T16.setTop (mkF m 12 #[.val (.ref ca), .val (.int (0 : Int32)), .val (.int (2 : Int32)), .val (.ref b1), .unset, .unset] [(.int (0 : Int32))]))
    refine Go.istore (Ls' := #[.val (.ref ca), .val (.int (0 : Int32)), .val (.int (2 : Int32)), .val (.ref b1), .val (.int (0 : Int32)), .unset]) (pc' := 14) X18 hx hby d14_12 rfl rfl ?_
    refine Go.iload (pc' := 16) X18 hx hby d14_14 rfl rfl ?_
    refine Go.iloadN (pc' := 17) X18 hx hby d14_16 rfl rfl ?_
    refine Go.icmpN (pc' := 20) X18 hx hby d14_17 rfl (show ¬ ((0 : Int32) = (2 : Int32)) from by decide) ?_
    refine Go.aloadN (pc' := 21) X18 hx hby d14_20 rfl rfl rfl ?_
    refine Go.iloadN (pc' := 22) X18 hx hby d14_21 rfl rfl ?_
    refine Go.iloadN (pc' := 23) X18 hx hby d14_22 rfl rfl ?_
    refine Go.callS (pc' := 26) (W := 0) (argsL := [(.ref ca), (.int (0 : Int32)), (.int (2 : Int32))]) (rest := []) X18 hx hby hZ hown (hw _ (List.mem_of_getElem? (i := 84) rfl)) (hw _ (List.mem_of_getElem? (i := 85) rfl)) (hw _ (List.mem_of_getElem? (i := 69) rfl)) (hw _ (List.mem_of_getElem? (i := 86) rfl)) (by decide) (rmTB2 l Z a0 hw ca 0 2 T16.heap n0 kk sf u0 u1 u2 f22 SS z24 rfl rfl f23) rfl (by decide) (by decide) (by rw [hml]; rfl) pd_19 rfl rfl rfl (Nat.le_of_eq rfl) d14_23 rfl (by decide) (by decide) ?_
    rintro r25 T26 L27 X28 ⟨b2, rfl, g2, N2_, K3, A2⟩
    have g3 : h0.size ≤ b2 := Nat.le_trans K2.1 g2
    have K4 := K2.trans K3 all0
    have f29 : Old Z n0 T26.heap := f22.keep K3 all0
    have f30 : Ar Z T26.heap ca .char 2 (fun q => .int (own_c u0 u1 u2 q)) := f23.keep K3 nin0
    have z31 : n0 ≤ T26.heap.size := Nat.le_trans z24 K3.1
    show Go p e below _ (T26.setTop (mkF m 26 #[.val (.ref ca), .val (.int (0 : Int32)), .val (.int (2 : Int32)), .val (.ref b1), .val (.int (0 : Int32)), .unset] [(.ref b2)]))
    refine Go.astore (Ls' := #[.val (.ref ca), .val (.int (0 : Int32)), .val (.int (2 : Int32)), .val (.ref b1), .val (.int (0 : Int32)), .val (.ref b2)]) (pc' := 28) X28 hx hby d14_26 rfl rfl rfl ?_
    refine Go.aload (pc' := 30) X28 hx hby d14_28 rfl rfl rfl ?_
    refine Go.iload (pc' := 32) X28 hx hby d14_30 rfl rfl ?_
    refine Go.callS (pc' := 35) (W := 0) (argsL := [(.ref b2), (.int (0 : Int32))]) (rest := []) X28 hx hby hZ hown (hw _ (List.mem_of_getElem? (i := 100) rfl)) (hw _ (List.mem_of_getElem? (i := 101) rfl)) (hw _ (List.mem_of_getElem? (i := 69) rfl)) (hw _ (List.mem_of_getElem? (i := 102) rfl)) (by decide) (rmGC2_0 l Z a0 hw b2 0 T26.heap n0 kk sf (fun q => .int (own_u u0 u1 u2 q)) (own_lo u0) (own_hi u0) u0 f29 SS rfl A2 rfl rfl (own_gcc u0 B0)) rfl (by decide) (by decide) (by rw [hml]; rfl) pd_15 rfl rfl rfl (Nat.le_of_eq rfl) d14_32 rfl (by decide) (by decide) ?_
    rintro r33 T34 L35 X36 ⟨rfl, rfl, e32⟩
    rw [List.append_nil] at X36
    show Go p e below _ (T34.setTop (mkF m 35 #[.val (.ref ca), .val (.int (0 : Int32)), .val (.int (2 : Int32)), .val (.ref b1), .val (.int (0 : Int32)), .val (.ref b2)] [(.int u0)]))
    refine Go.sipush (pc' := 38) X36 hx hby d14_35 rfl (v := (255 : Int32)) (by decide) ?_
    refine Go.icmpY (pc' := 54) X36 hx hby d14_38 (by decide) (by decide) (show (255 : Int32) < u0 from Int32.not_le.mp t0) ?_
    refine Go.aload (pc' := 56) X36 hx hby d14_54 rfl rfl rfl ?_
    exact Go.retA X36 hx hby hlk hret rfl rfl rfl d14_56 (by decide) (by decide) ⟨b2, rfl, g3, (Fr.app (Fr.app (Fr.nil _) N1_) N2_), by rw [e32]; exact K4, Or.inr (by rw [e32]; exact A2)⟩
  ·
    have f37 : Old Z n0 T16.heap := f11.keep K1_ (allS g10 all0)
    have f38 : Ar Z T16.heap ca .char 2 (fun q => .int (own_c u0 u1 u2 q)) := f12.keep K1_ (ninS n9 nin0)
    have z39 : n0 ≤ T16.heap.size := Nat.le_trans z13 K1_.1
    have K2 := K0.trans K1_ (allS (Or.inr gf) all0)
    show Go p e below _ (T16.setTop (mkF m 12 #[.val (.ref ca), .val (.int (0 : Int32)), .val (.int (2 : Int32)), .val (.ref b1), .unset, .unset] [(.int (1 : Int32))]))
    refine Go.istore (Ls' := #[.val (.ref ca), .val (.int (0 : Int32)), .val (.int (2 : Int32)), .val (.ref b1), .val (.int (1 : Int32)), .unset]) (pc' := 14) X18 hx hby d14_12 rfl rfl ?_
    refine Go.iload (pc' := 16) X18 hx hby d14_14 rfl rfl ?_
    refine Go.iloadN (pc' := 17) X18 hx hby d14_16 rfl rfl ?_
    refine Go.icmpN (pc' := 20) X18 hx hby d14_17 rfl (show ¬ ((1 : Int32) = (2 : Int32)) from by decide) ?_
    refine Go.aloadN (pc' := 21) X18 hx hby d14_20 rfl rfl rfl ?_
    refine Go.iloadN (pc' := 22) X18 hx hby d14_21 rfl rfl ?_
    refine Go.iloadN (pc' := 23) X18 hx hby d14_22 rfl rfl ?_
    refine Go.callS (pc' := 26) (W := 0) (argsL := [(.ref ca), (.int (0 : Int32)), (.int (2 : Int32))]) (rest := []) X18 hx hby hZ hown (hw _ (List.mem_of_getElem? (i := 84) rfl)) (hw _ (List.mem_of_getElem? (i := 85) rfl)) (hw _ (List.mem_of_getElem? (i := 69) rfl)) (hw _ (List.mem_of_getElem? (i := 86) rfl)) (by decide) (rmTB2 l Z a0 hw ca 0 2 T16.heap n0 kk sf u0 u1 u2 f37 SS z39 rfl rfl f38) rfl (by decide) (by decide) (by rw [hml]; rfl) pd_19 rfl rfl rfl (Nat.le_of_eq rfl) d14_23 rfl (by decide) (by decide) ?_
    rintro r40 T41 L42 X43 ⟨b2, rfl, g2, N2_, K3, A2⟩
    have g3 : h0.size ≤ b2 := Nat.le_trans K2.1 g2
    have K4 := K2.trans K3 all0
    have f44 : Old Z n0 T41.heap := f37.keep K3 all0
    have f45 : Ar Z T41.heap ca .char 2 (fun q => .int (own_c u0 u1 u2 q)) := f38.keep K3 nin0
    have z46 : n0 ≤ T41.heap.size := Nat.le_trans z39 K3.1
    show Go p e below _ (T41.setTop (mkF m 26 #[.val (.ref ca), .val (.int (0 : Int32)), .val (.int (2 : Int32)), .val (.ref b1), .val (.int (1 : Int32)), .unset] [(.ref b2)]))
    refine Go.astore (Ls' := #[.val (.ref ca), .val (.int (0 : Int32)), .val (.int (2 : Int32)), .val (.ref b1), .val (.int (1 : Int32)), .val (.ref b2)]) (pc' := 28) X43 hx hby d14_26 rfl rfl rfl ?_
    refine Go.aload (pc' := 30) X43 hx hby d14_28 rfl rfl rfl ?_
    refine Go.iload (pc' := 32) X43 hx hby d14_30 rfl rfl ?_
    refine Go.callS (pc' := 35) (W := 0) (argsL := [(.ref b2), (.int (1 : Int32))]) (rest := []) X43 hx hby hZ hown (hw _ (List.mem_of_getElem? (i := 100) rfl)) (hw _ (List.mem_of_getElem? (i := 101) rfl)) (hw _ (List.mem_of_getElem? (i := 69) rfl)) (hw _ (List.mem_of_getElem? (i := 102) rfl)) (by decide) (rmGC2_1 l Z a0 hw b2 1 T41.heap n0 kk sf (fun q => .int (own_u u0 u1 u2 q)) (own_lo u1) (own_hi u1) u1 f44 SS rfl A2 rfl rfl (own_gcc u1 B1)) rfl (by decide) (by decide) (by rw [hml]; rfl) pd_15 rfl rfl rfl (Nat.le_of_eq rfl) d14_32 rfl (by decide) (by decide) ?_
    rintro r48 T49 L50 X51 ⟨rfl, rfl, e47⟩
    rw [List.append_nil] at X51
    show Go p e below _ (T49.setTop (mkF m 35 #[.val (.ref ca), .val (.int (0 : Int32)), .val (.int (2 : Int32)), .val (.ref b1), .val (.int (1 : Int32)), .val (.ref b2)] [(.int u1)]))
    refine Go.sipush (pc' := 38) X51 hx hby d14_35 rfl (v := (255 : Int32)) (by decide) ?_
    refine Go.icmpY (pc' := 54) X51 hx hby d14_38 (by decide) (by decide) (show (255 : Int32) < u1 from Int32.not_le.mp t0) ?_
    refine Go.aload (pc' := 56) X51 hx hby d14_54 rfl rfl rfl ?_
    exact Go.retA X51 hx hby hlk hret rfl rfl rfl d14_56 (by decide) (by decide) ⟨b2, rfl, g3, (Fr.app (Fr.app (Fr.nil _) N1_) N2_), by rw [e47]; exact K4, Or.inr (by rw [e47]; exact A2)⟩
set_option maxRecDepth 65536 in
set_option maxHeartbeats 40000000 in
theorem rmCF2_0 (l : Launch) (Z : State) (a0 : Array Value) (hw : ∀ d ∈ tables_1, d.before a0 Z = true) (a : Addr) (x1 : Int32) (h0 : Heap) (f0 : Int → Value) (h1 : x1 = 2) (A0 : Ar Z h0 a .byte 2 f0) :
    Con l Z (⟨"java/lang/StringUTF16", "coderFromArrayLen", "([BI)B"⟩ : MethodName) jdk_52_method_15_code 2 (some .byte) [] ({ frames := 0, cells := 0, slots := 0, locals := 0 } : Room) #[(.ref a), (.int x1)] h0 (PQ (some (.int 0)) h0) := by
  refine Con.of (plainFor_of_name pn_StringUTF16) ?_
  intro p e s m below meth c s₁ hx hby hml hown hnm hret hlk hZ X0 e0
  refine Go.cast (ef_16 m a x1) ?_
  replace hown : s.vm.findClass "java/lang/StringUTF16" = some m.cls := hown
  subst h1
  show Go p e below _ (s₁.setTop (mkF m 0 #[.val (.ref a), .val (.int (2 : Int32))] []))
  refine Go.iloadN (pc' := 1) X0 hx hby d16_0 rfl rfl ?_
  refine Go.aloadN (pc' := 2) X0 hx hby d16_1 rfl rfl rfl ?_
  refine Go.alen (pc' := 3) (zv := (2 : Int32)) X0 hx hby hZ e0 A0 d16_2 rfl (by decide) ?_
  refine Go.isub (pc' := 4) X0 hx hby d16_3 rfl ?_
  refine Go.bipush (pc' := 6) X0 hx hby d16_4 rfl (v := (31 : Int32)) (by decide) ?_
  refine Go.iushr (pc' := 7) X0 hx hby d16_6 rfl ?_
  refine Go.i2b (pc' := 8) X0 hx hby d16_7 rfl ?_
  exact Go.retZ X0 hx hby hlk hret (by simp) d16_8 (by decide) (by decide) ⟨by rw [show nar .byte (((((2 : Int32) - (2 : Int32)).toUInt32 >>> ((31 : Int32) &&& 31).toUInt32).toInt32).toInt8.toInt32) = 0 from by decide], rfl, e0⟩
set_option maxRecDepth 65536 in
set_option maxHeartbeats 40000000 in
theorem rmCF2_1 (l : Launch) (Z : State) (a0 : Array Value) (hw : ∀ d ∈ tables_1, d.before a0 Z = true) (a : Addr) (x1 : Int32) (h0 : Heap) (f0 : Int → Value) (h1 : x1 = 2) (A0 : Ar Z h0 a .byte 4 f0) :
    Con l Z (⟨"java/lang/StringUTF16", "coderFromArrayLen", "([BI)B"⟩ : MethodName) jdk_52_method_15_code 2 (some .byte) [] ({ frames := 0, cells := 0, slots := 0, locals := 0 } : Room) #[(.ref a), (.int x1)] h0 (PQ (some (.int 1)) h0) := by
  refine Con.of (plainFor_of_name pn_StringUTF16) ?_
  intro p e s m below meth c s₁ hx hby hml hown hnm hret hlk hZ X0 e0
  refine Go.cast (ef_16 m a x1) ?_
  replace hown : s.vm.findClass "java/lang/StringUTF16" = some m.cls := hown
  subst h1
  show Go p e below _ (s₁.setTop (mkF m 0 #[.val (.ref a), .val (.int (2 : Int32))] []))
  refine Go.iloadN (pc' := 1) X0 hx hby d16_0 rfl rfl ?_
  refine Go.aloadN (pc' := 2) X0 hx hby d16_1 rfl rfl rfl ?_
  refine Go.alen (pc' := 3) (zv := (4 : Int32)) X0 hx hby hZ e0 A0 d16_2 rfl (by decide) ?_
  refine Go.isub (pc' := 4) X0 hx hby d16_3 rfl ?_
  refine Go.bipush (pc' := 6) X0 hx hby d16_4 rfl (v := (31 : Int32)) (by decide) ?_
  refine Go.iushr (pc' := 7) X0 hx hby d16_6 rfl ?_
  refine Go.i2b (pc' := 8) X0 hx hby d16_7 rfl ?_
  exact Go.retZ X0 hx hby hlk hret (by simp) d16_8 (by decide) (by decide) ⟨by rw [show nar .byte (((((2 : Int32) - (4 : Int32)).toUInt32 >>> ((31 : Int32) &&& 31).toUInt32).toInt32).toInt8.toInt32) = 1 from by decide], rfl, e0⟩
set_option maxRecDepth 65536 in
set_option maxHeartbeats 40000000 in
theorem rmNL3 (l : Launch) (Z : State) (a0 : Array Value) (hw : ∀ d ∈ tables_1, d.before a0 Z = true) (x0 : Int32) (h0 : Heap) (h1 : x0 = 3) :
    Con l Z (⟨"java/lang/StringUTF16", "newBytesLength", "(I)I"⟩ : MethodName) jdk_52_method_3_code 1 (some .int) [] ({ frames := 0, cells := 0, slots := 0, locals := 0 } : Room) #[(.int x0)] h0 (PQ (some (.int 6)) h0) := by
  refine Con.of (plainFor_of_name pn_StringUTF16) ?_
  intro p e s m below meth c s₁ hx hby hml hown hnm hret hlk hZ X0 e0
  refine Go.cast (ef_21 m x0) ?_
  replace hown : s.vm.findClass "java/lang/StringUTF16" = some m.cls := hown
  subst h1
  show Go p e below _ (s₁.setTop (mkF m 0 #[.val (.int (3 : Int32))] []))
  refine Go.iloadN (pc' := 1) X0 hx hby d21_0 rfl rfl ?_
  refine Go.ifY (pc' := 12) X0 hx hby d21_1 (by decide) (by decide) (show 0 ≤ (3 : Int32) from by decide) ?_
  refine Go.iloadN (pc' := 13) X0 hx hby d21_12 rfl rfl ?_
  refine Go.ldcI (pc' := 15) X0 hx hby d21_13 rfl hown (mvT hZ (hw _ (List.mem_of_getElem? (i := 93) rfl))) ?_
  refine Go.icmpY (pc' := 55) X0 hx hby d21_15 (by decide) (by decide) (show (3 : Int32) < (1073741823 : Int32) from by decide) ?_
  refine Go.iloadN (pc' := 56) X0 hx hby d21_55 rfl rfl ?_
  refine Go.iconst (pc' := 57) X0 hx hby d21_56 rfl (v := (1 : Int32)) (by decide) ?_
  refine Go.ishl (pc' := 58) X0 hx hby d21_57 rfl ?_
  change Go p e below _ (s₁.setTop (mkF m 58 #[.val (.int (3 : Int32))] [(.int (6 : Int32))]))
  exact Go.retI X0 hx hby hlk hret d21_58 (by decide) (by decide) ⟨rfl, rfl, e0⟩
set_option maxRecDepth 65536 in
set_option maxHeartbeats 40000000 in
theorem rmNF3 (l : Launch) (Z : State) (a0 : Array Value) (hw : ∀ d ∈ tables_1, d.before a0 Z = true) (x0 : Int32) (h0 : Heap) (h1 : x0 = 3) :
    Con l Z (⟨"java/lang/StringUTF16", "newBytesFor", "(I)[B"⟩ : MethodName) jdk_52_method_2_code 1 (some (.array .byte)) [] ({ frames := 1, cells := 1, slots := 6, locals := 12 } : Room) #[(.int x0)] h0 (fun v h L => ∃ b, v = some (.ref b) ∧ h0.size ≤ b ∧ L = [] ∧ Ext h0 h ∧ Ar Z h b .byte 6 (fun q => .int 0)) := by
  refine Con.of (plainFor_of_name pn_StringUTF16) ?_
  intro p e s m below meth c s₁ hx hby hml hown hnm hret hlk hZ X0 e0
  refine Go.cast (ef_20 m x0) ?_
  replace hown : s.vm.findClass "java/lang/StringUTF16" = some m.cls := hown
  subst h1
  show Go p e below _ (s₁.setTop (mkF m 0 #[.val (.int (3 : Int32))] []))
  refine Go.iloadN (pc' := 1) X0 hx hby d20_0 rfl rfl ?_
  refine Go.callS (pc' := 4) (W := 0) (argsL := [(.int (3 : Int32))]) (rest := []) X0 hx hby hZ hown (hw _ (List.mem_of_getElem? (i := 90) rfl)) (hw _ (List.mem_of_getElem? (i := 91) rfl)) (hw _ (List.mem_of_getElem? (i := 69) rfl)) (hw _ (List.mem_of_getElem? (i := 92) rfl)) (by decide) (rmNL3 l Z a0 hw 3 h0 rfl) e0 (by decide) (by decide) (by rw [hml]; rfl) pd_5 rfl rfl rfl (Nat.le_of_eq rfl) d20_1 rfl (by decide) (by decide) ?_
  rintro r2 T3 L4 X5 ⟨rfl, rfl, e1⟩
  rw [List.append_nil] at X5
  show Go p e below _ (T3.setTop (mkF m 4 #[.val (.int (3 : Int32))] [(.int (6 : Int32))]))
  refine Go.newarr (pc' := 6) (cap := 6) (z := 6) X5 hx hby hZ (hw _ (List.mem_of_getElem? (i := 16) rfl)) e1 d20_4 rfl (by decide) (by decide) (by decide) (by decide) (by decide) (by decide) ?_
  intro b6 T7 h8 g9 X10 e11 E12 A13
  have g14 : 0 ≤ b6 := by rw [g9]; exact (Nat.zero_le _)
  have z15 : 0 ≤ h8.size := Nat.le_trans (Nat.zero_le _) E12.1
  have f16 : Ar Z h8 b6 .byte 6 (fun _ => (.int 0)) := A13
  show Go p e below _ (T7.setTop (mkF m 6 #[.val (.int (3 : Int32))] [(.ref b6)]))
  exact Go.retA X10 hx hby hlk hret rfl rfl rfl d20_6 (by decide) (by decide) ⟨b6, rfl, by rw [g9]; exact Nat.le_refl _, rfl, by rw [e11]; exact E12, by rw [e11]; exact f16⟩
set_option maxRecDepth 65536 in
set_option maxHeartbeats 40000000 in
theorem rmTB3 (l : Launch) (Z : State) (a0 : Array Value) (hw : ∀ d ∈ tables_1, d.before a0 Z = true) (ca : Addr) (x1 : Int32) (x2 : Int32) (h0 : Heap) (n0 : Nat) (kk : Int32) (sf : Value) (u0 u1 u2 : Int32) (O0 : Old Z n0 h0) (SS : own_S Z kk sf) (Z0 : n0 ≤ h0.size) (h1 : x1 = 0) (h2 : x2 = 3) (A0 : Ar Z h0 ca .char 3 (fun q => .int (own_c u0 u1 u2 q))) :
    Con l Z (⟨"java/lang/StringUTF16", "toBytes", "([CII)[B"⟩ : MethodName) jdk_52_method_14_code 5 (some (.array .byte)) [] ({ frames := 2, cells := 1, slots := 6, locals := 24 } : Room) #[(.ref ca), (.int x1), (.int x2)] h0 (fun v h L => ∃ b, v = some (.ref b) ∧ h0.size ≤ b ∧ Fr n0 L ∧ Keep h0 h [] ∧ Ar Z h b .byte 6 (fun q => .int (own_u u0 u1 u2 q))) := by
  refine Con.of (plainFor_of_name pn_StringUTF16) ?_
  intro p e s m below meth c s₁ hx hby hml hown hnm hret hlk hZ X0 e0
  refine Go.cast (ef_19 m ca x1 x2) ?_
  replace hown : s.vm.findClass "java/lang/StringUTF16" = some m.cls := hown
  subst h1 h2
  show Go p e below _ (s₁.setTop (mkF m 0 #[.val (.ref ca), .val (.int (0 : Int32)), .val (.int (3 : Int32)), .unset, .unset] []))
  refine Go.iloadN (pc' := 1) X0 hx hby d19_0 rfl rfl ?_
  refine Go.callS (pc' := 4) (W := 0) (argsL := [(.int (3 : Int32))]) (rest := []) X0 hx hby hZ hown (hw _ (List.mem_of_getElem? (i := 87) rfl)) (hw _ (List.mem_of_getElem? (i := 88) rfl)) (hw _ (List.mem_of_getElem? (i := 69) rfl)) (hw _ (List.mem_of_getElem? (i := 89) rfl)) (by decide) (rmNF3 l Z a0 hw 3 h0 rfl) e0 (by decide) (by decide) (by rw [hml]; rfl) pd_7 rfl rfl rfl (Nat.le_of_eq rfl) d19_1 rfl (by decide) (by decide) ?_
  rintro r1 T2 L3 X4 ⟨b, rfl, gf, rfl, E1, A1⟩
  rw [List.append_nil] at X4
  have gb : n0 ≤ b := Nat.le_trans Z0 gf
  have nb : ca ≠ b := Nat.ne_of_lt (Nat.lt_of_lt_of_le A0.lt gf)
  have K0 : Keep h0 T2.heap [] := (Keep.refl h0 _).ext E1
  have f5 : Old Z n0 T2.heap := O0.ext E1
  have f6 : Ar Z T2.heap ca .char 3 (fun q => .int (own_c u0 u1 u2 q)) := A0.ext E1
  have z7 : n0 ≤ T2.heap.size := Nat.le_trans Z0 E1.1
  show Go p e below _ (T2.setTop (mkF m 4 #[.val (.ref ca), .val (.int (0 : Int32)), .val (.int (3 : Int32)), .unset, .unset] [(.ref b)]))
  refine Go.astoreN (Ls' := #[.val (.ref ca), .val (.int (0 : Int32)), .val (.int (3 : Int32)), .val (.ref b), .unset]) (pc' := 5) X4 hx hby d19_4 rfl rfl rfl ?_
  refine Go.iconst (pc' := 6) X4 hx hby d19_5 rfl (v := (0 : Int32)) (by decide) ?_
  refine Go.istore (Ls' := #[.val (.ref ca), .val (.int (0 : Int32)), .val (.int (3 : Int32)), .val (.ref b), .val (.int (0 : Int32))]) (pc' := 8) X4 hx hby d19_6 rfl rfl ?_
  refine Go.iload (pc' := 10) X4 hx hby d19_8 rfl rfl ?_
  refine Go.iloadN (pc' := 11) X4 hx hby d19_10 rfl rfl ?_
  refine Go.icmpN (pc' := 14) X4 hx hby d19_11 rfl (show ¬ ((3 : Int32) ≤ (0 : Int32)) from by decide) ?_
  refine Go.aloadN (pc' := 15) X4 hx hby d19_14 rfl rfl rfl ?_
  refine Go.iload (pc' := 17) X4 hx hby d19_15 rfl rfl ?_
  refine Go.aloadN (pc' := 18) X4 hx hby d19_17 rfl rfl rfl ?_
  refine Go.iloadN (pc' := 19) X4 hx hby d19_18 rfl rfl ?_
  refine Go.caload (pc' := 20) (i := 0) (v := (.int u0)) X4 hx hby hZ rfl f6 d19_19 rfl (by decide) (by decide) (by decide) rfl ?_
  refine Go.callS (pc' := 23) (W := 0) (argsL := [(.ref b), (.int (0 : Int32)), (.int u0)]) (rest := []) X4 hx hby hZ hown (hw _ (List.mem_of_getElem? (i := 94) rfl)) (hw _ (List.mem_of_getElem? (i := 95) rfl)) (hw _ (List.mem_of_getElem? (i := 69) rfl)) (hw _ (List.mem_of_getElem? (i := 96) rfl)) (by decide) (rmPC3_0 l Z a0 hw b 0 u0 T2.heap n0 kk sf (fun q => .int 0) f5 SS z7 gb rfl A1) rfl (by decide) (by decide) (by rw [hml]; rfl) pd_16 rfl rfl rfl (Nat.le_of_eq rfl) d19_20 rfl (by decide) (by decide) ?_
  rintro r8 T9 L10 X11 ⟨rfl, N0_, Kc0, A0_⟩
  have K1 := K0.trans Kc0 (allS (Or.inr gf) all0)
  have f12 : Old Z n0 T9.heap := f5.keep Kc0 (allS gb all0)
  have f13 : Ar Z T9.heap ca .char 3 (fun q => .int (own_c u0 u1 u2 q)) := f6.keep Kc0 (ninS nb nin0)
  have z14 : n0 ≤ T9.heap.size := Nat.le_trans z7 Kc0.1
  show Go p e below _ (T9.setTop (mkF m 23 #[.val (.ref ca), .val (.int (0 : Int32)), .val (.int (3 : Int32)), .val (.ref b), .val (.int (0 : Int32))] []))
  refine Go.iinc (w := (0 : Int32) + (1 : Int32)) (Ls' := #[.val (.ref ca), .val (.int ((0 : Int32) + (1 : Int32))), .val (.int (3 : Int32)), .val (.ref b), .val (.int (0 : Int32))]) (pc' := 26) X11 hx hby d19_23 rfl rfl rfl rfl ?_
  refine Go.iinc (w := (0 : Int32) + (1 : Int32)) (Ls' := #[.val (.ref ca), .val (.int ((0 : Int32) + (1 : Int32))), .val (.int (3 : Int32)), .val (.ref b), .val (.int ((0 : Int32) + (1 : Int32)))]) (pc' := 29) X11 hx hby d19_26 rfl rfl rfl rfl ?_
  change Go p e below _ (T9.setTop (mkF m 29 #[.val (.ref ca), .val (.int (1 : Int32)), .val (.int (3 : Int32)), .val (.ref b), .val (.int ((0 : Int32) + (1 : Int32)))] []))
  change Go p e below _ (T9.setTop (mkF m 29 #[.val (.ref ca), .val (.int (1 : Int32)), .val (.int (3 : Int32)), .val (.ref b), .val (.int (1 : Int32))] []))
  refine Go.goto (pc' := 8) X11 hx hby d19_29 (by decide) (by decide) ?_
  refine Go.iload (pc' := 10) X11 hx hby d19_8 rfl rfl ?_
  refine Go.iloadN (pc' := 11) X11 hx hby d19_10 rfl rfl ?_
  refine Go.icmpN (pc' := 14) X11 hx hby d19_11 rfl (show ¬ ((3 : Int32) ≤ (1 : Int32)) from by decide) ?_
  refine Go.aloadN (pc' := 15) X11 hx hby d19_14 rfl rfl rfl ?_
  refine Go.iload (pc' := 17) X11 hx hby d19_15 rfl rfl ?_
  refine Go.aloadN (pc' := 18) X11 hx hby d19_17 rfl rfl rfl ?_
  refine Go.iloadN (pc' := 19) X11 hx hby d19_18 rfl rfl ?_
  refine Go.caload (pc' := 20) (i := 1) (v := (.int u1)) X11 hx hby hZ rfl f13 d19_19 rfl (by decide) (by decide) (by decide) rfl ?_
  refine Go.callS (pc' := 23) (W := 0) (argsL := [(.ref b), (.int (1 : Int32)), (.int u1)]) (rest := []) X11 hx hby hZ hown (hw _ (List.mem_of_getElem? (i := 94) rfl)) (hw _ (List.mem_of_getElem? (i := 95) rfl)) (hw _ (List.mem_of_getElem? (i := 69) rfl)) (hw _ (List.mem_of_getElem? (i := 96) rfl)) (by decide) (rmPC3_1 l Z a0 hw b 1 u1 T9.heap n0 kk sf (fun q => if q = 1 then .int (own_hi u0) else if q = 0 then .int (own_lo u0) else .int 0) f12 SS z14 gb rfl A0_) rfl (by decide) (by decide) (by rw [hml]; rfl) pd_16 rfl rfl rfl (Nat.le_of_eq rfl) d19_20 rfl (by decide) (by decide) ?_
  rintro r15 T16 L17 X18 ⟨rfl, N1_, Kc1, A1_⟩
  have K2 := K1.trans Kc1 (allS (Or.inr gf) all0)
  have f19 : Old Z n0 T16.heap := f12.keep Kc1 (allS gb all0)
  have f20 : Ar Z T16.heap ca .char 3 (fun q => .int (own_c u0 u1 u2 q)) := f13.keep Kc1 (ninS nb nin0)
  have z21 : n0 ≤ T16.heap.size := Nat.le_trans z14 Kc1.1
  show Go p e below _ (T16.setTop (mkF m 23 #[.val (.ref ca), .val (.int (1 : Int32)), .val (.int (3 : Int32)), .val (.ref b), .val (.int (1 : Int32))] []))
  refine Go.iinc (w := (1 : Int32) + (1 : Int32)) (Ls' := #[.val (.ref ca), .val (.int ((1 : Int32) + (1 : Int32))), .val (.int (3 : Int32)), .val (.ref b), .val (.int (1 : Int32))]) (pc' := 26) X18 hx hby d19_23 rfl rfl rfl rfl ?_
  refine Go.iinc (w := (1 : Int32) + (1 : Int32)) (Ls' := #[.val (.ref ca), .val (.int ((1 : Int32) + (1 : Int32))), .val (.int (3 : Int32)), .val (.ref b), .val (.int ((1 : Int32) + (1 : Int32)))]) (pc' := 29) X18 hx hby d19_26 rfl rfl rfl rfl ?_
  change Go p e below _ (T16.setTop (mkF m 29 #[.val (.ref ca), .val (.int (2 : Int32)), .val (.int (3 : Int32)), .val (.ref b), .val (.int ((1 : Int32) + (1 : Int32)))] []))
  change Go p e below _ (T16.setTop (mkF m 29 #[.val (.ref ca), .val (.int (2 : Int32)), .val (.int (3 : Int32)), .val (.ref b), .val (.int (2 : Int32))] []))
  refine Go.goto (pc' := 8) X18 hx hby d19_29 (by decide) (by decide) ?_
  refine Go.iload (pc' := 10) X18 hx hby d19_8 rfl rfl ?_
  refine Go.iloadN (pc' := 11) X18 hx hby d19_10 rfl rfl ?_
  refine Go.icmpN (pc' := 14) X18 hx hby d19_11 rfl (show ¬ ((3 : Int32) ≤ (2 : Int32)) from by decide) ?_
  refine Go.aloadN (pc' := 15) X18 hx hby d19_14 rfl rfl rfl ?_
  refine Go.iload (pc' := 17) X18 hx hby d19_15 rfl rfl ?_
  refine Go.aloadN (pc' := 18) X18 hx hby d19_17 rfl rfl rfl ?_
  refine Go.iloadN (pc' := 19) X18 hx hby d19_18 rfl rfl ?_
  refine Go.caload (pc' := 20) (i := 2) (v := (.int u2)) X18 hx hby hZ rfl f20 d19_19 rfl (by decide) (by decide) (by decide) rfl ?_
  refine Go.callS (pc' := 23) (W := 0) (argsL := [(.ref b), (.int (2 : Int32)), (.int u2)]) (rest := []) X18 hx hby hZ hown (hw _ (List.mem_of_getElem? (i := 94) rfl)) (hw _ (List.mem_of_getElem? (i := 95) rfl)) (hw _ (List.mem_of_getElem? (i := 69) rfl)) (hw _ (List.mem_of_getElem? (i := 96) rfl)) (by decide) (rmPC3_2 l Z a0 hw b 2 u2 T16.heap n0 kk sf (fun q => if q = 3 then .int (own_hi u1) else if q = 2 then .int (own_lo u1) else if q = 1 then .int (own_hi u0) else if q = 0 then .int (own_lo u0) else .int 0) f19 SS z21 gb rfl A1_) rfl (by decide) (by decide) (by rw [hml]; rfl) pd_16 rfl rfl rfl (Nat.le_of_eq rfl) d19_20 rfl (by decide) (by decide) ?_
  rintro r22 T23 L24 X25 ⟨rfl, N2_, Kc2, A2_⟩
  have K3 := K2.trans Kc2 (allS (Or.inr gf) all0)
  have f26 : Old Z n0 T23.heap := f19.keep Kc2 (allS gb all0)
  have f27 : Ar Z T23.heap ca .char 3 (fun q => .int (own_c u0 u1 u2 q)) := f20.keep Kc2 (ninS nb nin0)
  have z28 : n0 ≤ T23.heap.size := Nat.le_trans z21 Kc2.1
  show Go p e below _ (T23.setTop (mkF m 23 #[.val (.ref ca), .val (.int (2 : Int32)), .val (.int (3 : Int32)), .val (.ref b), .val (.int (2 : Int32))] []))
  refine Go.iinc (w := (2 : Int32) + (1 : Int32)) (Ls' := #[.val (.ref ca), .val (.int ((2 : Int32) + (1 : Int32))), .val (.int (3 : Int32)), .val (.ref b), .val (.int (2 : Int32))]) (pc' := 26) X25 hx hby d19_23 rfl rfl rfl rfl ?_
  refine Go.iinc (w := (2 : Int32) + (1 : Int32)) (Ls' := #[.val (.ref ca), .val (.int ((2 : Int32) + (1 : Int32))), .val (.int (3 : Int32)), .val (.ref b), .val (.int ((2 : Int32) + (1 : Int32)))]) (pc' := 29) X25 hx hby d19_26 rfl rfl rfl rfl ?_
  change Go p e below _ (T23.setTop (mkF m 29 #[.val (.ref ca), .val (.int (3 : Int32)), .val (.int (3 : Int32)), .val (.ref b), .val (.int ((2 : Int32) + (1 : Int32)))] []))
  change Go p e below _ (T23.setTop (mkF m 29 #[.val (.ref ca), .val (.int (3 : Int32)), .val (.int (3 : Int32)), .val (.ref b), .val (.int (3 : Int32))] []))
  refine Go.goto (pc' := 8) X25 hx hby d19_29 (by decide) (by decide) ?_
  refine Go.iload (pc' := 10) X25 hx hby d19_8 rfl rfl ?_
  refine Go.iloadN (pc' := 11) X25 hx hby d19_10 rfl rfl ?_
  refine Go.icmpY (pc' := 32) X25 hx hby d19_11 (by decide) (by decide) (show (3 : Int32) ≤ (3 : Int32) from by decide) ?_
  refine Go.aloadN (pc' := 33) X25 hx hby d19_32 rfl rfl rfl ?_
  have f29 : Ar Z T23.heap b .byte 6 (fun q => .int (own_u u0 u1 u2 q)) := A2_.congr (fun i h1 h2 => by have t : i = 0 ∨ i = 1 ∨ i = 2 ∨ i = 3 ∨ i = 4 ∨ i = 5 := (by omega); rcases t with rfl | rfl | rfl | rfl | rfl | rfl <;> rfl)
  exact Go.retA X25 hx hby hlk hret rfl rfl rfl d19_33 (by decide) (by decide) ⟨b, rfl, gf, (Fr.app (Fr.app (Fr.app (Fr.nil _) N0_) N1_) N2_), K3, f29⟩
set_option maxRecDepth 65536 in
set_option maxHeartbeats 40000000 in
theorem rmC5_3 (l : Launch) (Z : State) (a0 : Array Value) (hw : ∀ d ∈ tables_1, d.before a0 Z = true) (ca : Addr) (x1 : Int32) (ba : Addr) (x3 : Int32) (x4 : Int32) (h0 : Heap) (n0 : Nat) (kk : Int32) (sf : Value) (u0 u1 u2 : Int32) (O0 : Old Z n0 h0) (SS : own_S Z kk sf) (Z0 : n0 ≤ h0.size) (gb : n0 ≤ ba) (h1 : x1 = 0) (h3 : x3 = 0) (h4 : x4 = 3) (A0 : Ar Z h0 ca .char 3 (fun q => .int (own_c u0 u1 u2 q))) (A1 : Ar Z h0 ba .byte 3 (fun q => .int 0)) :
    Con l Z (⟨"java/lang/StringUTF16", "compress", "([CI[BII)I"⟩ : MethodName) jdk_52_method_21_code 7 (some .int) [] ({ frames := 0, cells := 0, slots := 0, locals := 0 } : Room) #[(.ref ca), (.int x1), (.ref ba), (.int x3), (.int x4)] h0 (fun v h L => Fr n0 L ∧ Keep h0 h [ba] ∧ ((v = some (.int 3) ∧ (u0 ≤ (255 : Int32) ∧ u1 ≤ (255 : Int32) ∧ u2 ≤ (255 : Int32)) ∧ Ar Z h ba .byte 3 (fun q => .int (own_lat (own_c u0 u1 u2 q)))) ∨ (v = some (.int 0) ∧ ¬ u0 ≤ (255 : Int32)) ∨ (v = some (.int 1) ∧ ¬ u1 ≤ (255 : Int32)) ∨ (v = some (.int 2) ∧ ¬ u2 ≤ (255 : Int32)))) := by
  refine Con.of (plainFor_of_name pn_StringUTF16) ?_
  intro p e s m below meth c s₁ hx hby hml hown hnm hret hlk hZ X0 e0
  refine Go.cast (ef_15 m ca x1 ba x3 x4) ?_
  replace hown : s.vm.findClass "java/lang/StringUTF16" = some m.cls := hown
  subst h1 h3 h4
  show Go p e below _ (s₁.setTop (mkF m 0 #[.val (.ref ca), .val (.int (0 : Int32)), .val (.ref ba), .val (.int (0 : Int32)), .val (.int (3 : Int32)), .unset, .unset] []))
  have nb : ca ≠ ba := Ar.neTy A0 A1 (by decide)
  refine Go.iconst (pc' := 1) X0 hx hby d15_0 rfl (v := (0 : Int32)) (by decide) ?_
  refine Go.istore (Ls' := #[.val (.ref ca), .val (.int (0 : Int32)), .val (.ref ba), .val (.int (0 : Int32)), .val (.int (3 : Int32)), .val (.int (0 : Int32)), .unset]) (pc' := 3) X0 hx hby d15_1 rfl rfl ?_
  refine Go.iload (pc' := 5) X0 hx hby d15_3 rfl rfl ?_
  refine Go.iload (pc' := 7) X0 hx hby d15_5 rfl rfl ?_
  refine Go.icmpN (pc' := 10) X0 hx hby d15_7 rfl (show ¬ ((3 : Int32) ≤ (0 : Int32)) from by decide) ?_
  refine Go.aloadN (pc' := 11) X0 hx hby d15_10 rfl rfl rfl ?_
  refine Go.iloadN (pc' := 12) X0 hx hby d15_11 rfl rfl ?_
  refine Go.caload (pc' := 13) (i := 0) (v := (.int u0)) X0 hx hby hZ e0 A0 d15_12 rfl (by decide) (by decide) (by decide) rfl ?_
  refine Go.istore (Ls' := #[.val (.ref ca), .val (.int (0 : Int32)), .val (.ref ba), .val (.int (0 : Int32)), .val (.int (3 : Int32)), .val (.int (0 : Int32)), .val (.int u0)]) (pc' := 15) X0 hx hby d15_13 rfl rfl ?_
  refine Go.iload (pc' := 17) X0 hx hby d15_15 rfl rfl ?_
  refine Go.sipush (pc' := 20) X0 hx hby d15_17 rfl (v := (255 : Int32)) (by decide) ?_
  refine Go.icmp (pc' := 26) (pn := 23) X0 hx hby d15_20 (by decide) (by decide) rfl (fun (t0 : u0 ≤ (255 : Int32)) => ?_) (fun (t0 : ¬ (u0 ≤ (255 : Int32))) => ?_)
  rotate_left
  ·
    refine Go.iload (pc' := 25) X0 hx hby d15_23 rfl rfl ?_
    exact Go.retI X0 hx hby hlk hret d15_25 (by decide) (by decide) ⟨(Fr.nil _), by rw [e0]; exact (Keep.refl h0 _), Or.inr (Or.inl ⟨rfl, t0⟩)⟩
  refine Go.aloadN (pc' := 27) X0 hx hby d15_26 rfl rfl rfl ?_
  refine Go.iloadN (pc' := 28) X0 hx hby d15_27 rfl rfl ?_
  refine Go.iload (pc' := 30) X0 hx hby d15_28 rfl rfl ?_
  refine Go.i2b (pc' := 31) X0 hx hby d15_30 rfl ?_
  refine Go.bastore (pc' := 32) (i := 0) X0 hx hby hZ e0 A1 d15_31 rfl (by decide) (by decide) (by decide) ?_
  intro T1 h2 X3 e4 W5 A6
  have f7 : Old Z n0 h2 := O0.wr W5 gb
  have f8 : Ar Z h2 ca .char 3 (fun q => .int (own_c u0 u1 u2 q)) := A0.other W5 nb
  have z9 : n0 ≤ h2.size := by rw [Wr.size W5]; exact Z0
  have f10 : Ar Z h2 ba .byte 3 (fun q => if q = 0 then (.int (nar .byte u0.toInt8.toInt32)) else .int 0) := A6
  have N11 : Fr n0 _ := Fr.snoc X3 (Fr.nil _) gb
  show Go p e below _ (T1.setTop (mkF m 32 #[.val (.ref ca), .val (.int (0 : Int32)), .val (.ref ba), .val (.int (0 : Int32)), .val (.int (3 : Int32)), .val (.int (0 : Int32)), .val (.int u0)] []))
  refine Go.iinc (w := (0 : Int32) + (1 : Int32)) (Ls' := #[.val (.ref ca), .val (.int ((0 : Int32) + (1 : Int32))), .val (.ref ba), .val (.int (0 : Int32)), .val (.int (3 : Int32)), .val (.int (0 : Int32)), .val (.int u0)]) (pc' := 35) X3 hx hby d15_32 rfl rfl rfl rfl ?_
  refine Go.iinc (w := (0 : Int32) + (1 : Int32)) (Ls' := #[.val (.ref ca), .val (.int ((0 : Int32) + (1 : Int32))), .val (.ref ba), .val (.int ((0 : Int32) + (1 : Int32))), .val (.int (3 : Int32)), .val (.int (0 : Int32)), .val (.int u0)]) (pc' := 38) X3 hx hby d15_35 rfl rfl rfl rfl ?_
  refine Go.iinc (w := (0 : Int32) + (1 : Int32)) (Ls' := #[.val (.ref ca), .val (.int ((0 : Int32) + (1 : Int32))), .val (.ref ba), .val (.int ((0 : Int32) + (1 : Int32))), .val (.int (3 : Int32)), .val (.int ((0 : Int32) + (1 : Int32))), .val (.int u0)]) (pc' := 41) X3 hx hby d15_38 rfl rfl rfl rfl ?_
  change Go p e below _ (T1.setTop (mkF m 41 #[.val (.ref ca), .val (.int (1 : Int32)), .val (.ref ba), .val (.int ((0 : Int32) + (1 : Int32))), .val (.int (3 : Int32)), .val (.int ((0 : Int32) + (1 : Int32))), .val (.int u0)] []))
  change Go p e below _ (T1.setTop (mkF m 41 #[.val (.ref ca), .val (.int (1 : Int32)), .val (.ref ba), .val (.int (1 : Int32)), .val (.int (3 : Int32)), .val (.int ((0 : Int32) + (1 : Int32))), .val (.int u0)] []))
  change Go p e below _ (T1.setTop (mkF m 41 #[.val (.ref ca), .val (.int (1 : Int32)), .val (.ref ba), .val (.int (1 : Int32)), .val (.int (3 : Int32)), .val (.int (1 : Int32)), .val (.int u0)] []))
  refine Go.goto (pc' := 3) X3 hx hby d15_41 (by decide) (by decide) ?_
  refine Go.iload (pc' := 5) X3 hx hby d15_3 rfl rfl ?_
  refine Go.iload (pc' := 7) X3 hx hby d15_5 rfl rfl ?_
  refine Go.icmpN (pc' := 10) X3 hx hby d15_7 rfl (show ¬ ((3 : Int32) ≤ (1 : Int32)) from by decide) ?_
  refine Go.aloadN (pc' := 11) X3 hx hby d15_10 rfl rfl rfl ?_
  refine Go.iloadN (pc' := 12) X3 hx hby d15_11 rfl rfl ?_
  refine Go.caload (pc' := 13) (i := 1) (v := (.int u1)) X3 hx hby hZ e4 f8 d15_12 rfl (by decide) (by decide) (by decide) rfl ?_
  refine Go.istore (Ls' := #[.val (.ref ca), .val (.int (1 : Int32)), .val (.ref ba), .val (.int (1 : Int32)), .val (.int (3 : Int32)), .val (.int (1 : Int32)), .val (.int u1)]) (pc' := 15) X3 hx hby d15_13 rfl rfl ?_
  refine Go.iload (pc' := 17) X3 hx hby d15_15 rfl rfl ?_
  refine Go.sipush (pc' := 20) X3 hx hby d15_17 rfl (v := (255 : Int32)) (by decide) ?_
  refine Go.icmp (pc' := 26) (pn := 23) X3 hx hby d15_20 (by decide) (by decide) rfl (fun (t1 : u1 ≤ (255 : Int32)) => ?_) (fun (t1 : ¬ (u1 ≤ (255 : Int32))) => ?_)
  rotate_left
  ·
    refine Go.iload (pc' := 25) X3 hx hby d15_23 rfl rfl ?_
    exact Go.retI X3 hx hby hlk hret d15_25 (by decide) (by decide) ⟨N11, by rw [e4]; exact ((Keep.refl h0 _).wr W5 (Or.inl (List.mem_singleton.mpr rfl))), Or.inr (Or.inr (Or.inl ⟨rfl, t1⟩))⟩
  refine Go.aloadN (pc' := 27) X3 hx hby d15_26 rfl rfl rfl ?_
  refine Go.iloadN (pc' := 28) X3 hx hby d15_27 rfl rfl ?_
  refine Go.iload (pc' := 30) X3 hx hby d15_28 rfl rfl ?_
  refine Go.i2b (pc' := 31) X3 hx hby d15_30 rfl ?_
  refine Go.bastore (pc' := 32) (i := 1) X3 hx hby hZ e4 f10 d15_31 rfl (by decide) (by decide) (by decide) ?_
  intro T12 h13 X14 e15 W16 A17
  have f18 : Old Z n0 h13 := f7.wr W16 gb
  have f19 : Ar Z h13 ca .char 3 (fun q => .int (own_c u0 u1 u2 q)) := f8.other W16 nb
  have z20 : n0 ≤ h13.size := by rw [Wr.size W16]; exact z9
  have f21 : Ar Z h13 ba .byte 3 (fun q => if q = 1 then (.int (nar .byte u1.toInt8.toInt32)) else if q = 0 then (.int (nar .byte u0.toInt8.toInt32)) else .int 0) := A17
  have N22 : Fr n0 _ := Fr.snoc X14 N11 gb
  show Go p e below _ (T12.setTop (mkF m 32 #[.val (.ref ca), .val (.int (1 : Int32)), .val (.ref ba), .val (.int (1 : Int32)), .val (.int (3 : Int32)), .val (.int (1 : Int32)), .val (.int u1)] []))
  refine Go.iinc (w := (1 : Int32) + (1 : Int32)) (Ls' := #[.val (.ref ca), .val (.int ((1 : Int32) + (1 : Int32))), .val (.ref ba), .val (.int (1 : Int32)), .val (.int (3 : Int32)), .val (.int (1 : Int32)), .val (.int u1)]) (pc' := 35) X14 hx hby d15_32 rfl rfl rfl rfl ?_
  refine Go.iinc (w := (1 : Int32) + (1 : Int32)) (Ls' := #[.val (.ref ca), .val (.int ((1 : Int32) + (1 : Int32))), .val (.ref ba), .val (.int ((1 : Int32) + (1 : Int32))), .val (.int (3 : Int32)), .val (.int (1 : Int32)), .val (.int u1)]) (pc' := 38) X14 hx hby d15_35 rfl rfl rfl rfl ?_
  refine Go.iinc (w := (1 : Int32) + (1 : Int32)) (Ls' := #[.val (.ref ca), .val (.int ((1 : Int32) + (1 : Int32))), .val (.ref ba), .val (.int ((1 : Int32) + (1 : Int32))), .val (.int (3 : Int32)), .val (.int ((1 : Int32) + (1 : Int32))), .val (.int u1)]) (pc' := 41) X14 hx hby d15_38 rfl rfl rfl rfl ?_
  change Go p e below _ (T12.setTop (mkF m 41 #[.val (.ref ca), .val (.int (2 : Int32)), .val (.ref ba), .val (.int ((1 : Int32) + (1 : Int32))), .val (.int (3 : Int32)), .val (.int ((1 : Int32) + (1 : Int32))), .val (.int u1)] []))
  change Go p e below _ (T12.setTop (mkF m 41 #[.val (.ref ca), .val (.int (2 : Int32)), .val (.ref ba), .val (.int (2 : Int32)), .val (.int (3 : Int32)), .val (.int ((1 : Int32) + (1 : Int32))), .val (.int u1)] []))
  change Go p e below _ (T12.setTop (mkF m 41 #[.val (.ref ca), .val (.int (2 : Int32)), .val (.ref ba), .val (.int (2 : Int32)), .val (.int (3 : Int32)), .val (.int (2 : Int32)), .val (.int u1)] []))
  refine Go.goto (pc' := 3) X14 hx hby d15_41 (by decide) (by decide) ?_
  refine Go.iload (pc' := 5) X14 hx hby d15_3 rfl rfl ?_
  refine Go.iload (pc' := 7) X14 hx hby d15_5 rfl rfl ?_
  refine Go.icmpN (pc' := 10) X14 hx hby d15_7 rfl (show ¬ ((3 : Int32) ≤ (2 : Int32)) from by decide) ?_
  refine Go.aloadN (pc' := 11) X14 hx hby d15_10 rfl rfl rfl ?_
  refine Go.iloadN (pc' := 12) X14 hx hby d15_11 rfl rfl ?_
  refine Go.caload (pc' := 13) (i := 2) (v := (.int u2)) X14 hx hby hZ e15 f19 d15_12 rfl (by decide) (by decide) (by decide) rfl ?_
  refine Go.istore (Ls' := #[.val (.ref ca), .val (.int (2 : Int32)), .val (.ref ba), .val (.int (2 : Int32)), .val (.int (3 : Int32)), .val (.int (2 : Int32)), .val (.int u2)]) (pc' := 15) X14 hx hby d15_13 rfl rfl ?_
  refine Go.iload (pc' := 17) X14 hx hby d15_15 rfl rfl ?_
  refine Go.sipush (pc' := 20) X14 hx hby d15_17 rfl (v := (255 : Int32)) (by decide) ?_
  refine Go.icmp (pc' := 26) (pn := 23) X14 hx hby d15_20 (by decide) (by decide) rfl (fun (t2 : u2 ≤ (255 : Int32)) => ?_) (fun (t2 : ¬ (u2 ≤ (255 : Int32))) => ?_)
  rotate_left
  ·
    refine Go.iload (pc' := 25) X14 hx hby d15_23 rfl rfl ?_
    exact Go.retI X14 hx hby hlk hret d15_25 (by decide) (by decide) ⟨N22, by rw [e15]; exact (((Keep.refl h0 _).wr W5 (Or.inl (List.mem_singleton.mpr rfl))).wr W16 (Or.inl (List.mem_singleton.mpr rfl))), Or.inr (Or.inr (Or.inr (⟨rfl, t2⟩)))⟩
  refine Go.aloadN (pc' := 27) X14 hx hby d15_26 rfl rfl rfl ?_
  refine Go.iloadN (pc' := 28) X14 hx hby d15_27 rfl rfl ?_
  refine Go.iload (pc' := 30) X14 hx hby d15_28 rfl rfl ?_
  refine Go.i2b (pc' := 31) X14 hx hby d15_30 rfl ?_
  refine Go.bastore (pc' := 32) (i := 2) X14 hx hby hZ e15 f21 d15_31 rfl (by decide) (by decide) (by decide) ?_
  intro T23 h24 X25 e26 W27 A28
  have f29 : Old Z n0 h24 := f18.wr W27 gb
  have f30 : Ar Z h24 ca .char 3 (fun q => .int (own_c u0 u1 u2 q)) := f19.other W27 nb
  have z31 : n0 ≤ h24.size := by rw [Wr.size W27]; exact z20
  have f32 : Ar Z h24 ba .byte 3 (fun q => if q = 2 then (.int (nar .byte u2.toInt8.toInt32)) else if q = 1 then (.int (nar .byte u1.toInt8.toInt32)) else if q = 0 then (.int (nar .byte u0.toInt8.toInt32)) else .int 0) := A28
  have N33 : Fr n0 _ := Fr.snoc X25 N22 gb
  show Go p e below _ (T23.setTop (mkF m 32 #[.val (.ref ca), .val (.int (2 : Int32)), .val (.ref ba), .val (.int (2 : Int32)), .val (.int (3 : Int32)), .val (.int (2 : Int32)), .val (.int u2)] []))
  refine Go.iinc (w := (2 : Int32) + (1 : Int32)) (Ls' := #[.val (.ref ca), .val (.int ((2 : Int32) + (1 : Int32))), .val (.ref ba), .val (.int (2 : Int32)), .val (.int (3 : Int32)), .val (.int (2 : Int32)), .val (.int u2)]) (pc' := 35) X25 hx hby d15_32 rfl rfl rfl rfl ?_
  refine Go.iinc (w := (2 : Int32) + (1 : Int32)) (Ls' := #[.val (.ref ca), .val (.int ((2 : Int32) + (1 : Int32))), .val (.ref ba), .val (.int ((2 : Int32) + (1 : Int32))), .val (.int (3 : Int32)), .val (.int (2 : Int32)), .val (.int u2)]) (pc' := 38) X25 hx hby d15_35 rfl rfl rfl rfl ?_
  refine Go.iinc (w := (2 : Int32) + (1 : Int32)) (Ls' := #[.val (.ref ca), .val (.int ((2 : Int32) + (1 : Int32))), .val (.ref ba), .val (.int ((2 : Int32) + (1 : Int32))), .val (.int (3 : Int32)), .val (.int ((2 : Int32) + (1 : Int32))), .val (.int u2)]) (pc' := 41) X25 hx hby d15_38 rfl rfl rfl rfl ?_
  change Go p e below _ (T23.setTop (mkF m 41 #[.val (.ref ca), .val (.int (3 : Int32)), .val (.ref ba), .val (.int ((2 : Int32) + (1 : Int32))), .val (.int (3 : Int32)), .val (.int ((2 : Int32) + (1 : Int32))), .val (.int u2)] []))
  change Go p e below _ (T23.setTop (mkF m 41 #[.val (.ref ca), .val (.int (3 : Int32)), .val (.ref ba), .val (.int (3 : Int32)), .val (.int (3 : Int32)), .val (.int ((2 : Int32) + (1 : Int32))), .val (.int u2)] []))
  change Go p e below _ (T23.setTop (mkF m 41 #[.val (.ref ca), .val (.int (3 : Int32)), .val (.ref ba), .val (.int (3 : Int32)), .val (.int (3 : Int32)), .val (.int (3 : Int32)), .val (.int u2)] []))
  refine Go.goto (pc' := 3) X25 hx hby d15_41 (by decide) (by decide) ?_
  refine Go.iload (pc' := 5) X25 hx hby d15_3 rfl rfl ?_
  refine Go.iload (pc' := 7) X25 hx hby d15_5 rfl rfl ?_
  refine Go.icmpY (pc' := 44) X25 hx hby d15_7 (by decide) (by decide) (show (3 : Int32) ≤ (3 : Int32) from by decide) ?_
  refine Go.iload (pc' := 46) X25 hx hby d15_44 rfl rfl ?_
  have f34 : Ar Z h24 ba .byte 3 (fun q => .int (own_lat (own_c u0 u1 u2 q))) := f32.congr (fun i h1 h2 => by have t : i = 0 ∨ i = 1 ∨ i = 2 := (by omega); rcases t with rfl | rfl | rfl <;> rfl)
  exact Go.retI X25 hx hby hlk hret d15_46 (by decide) (by decide) ⟨N33, by rw [e26]; exact ((((Keep.refl h0 _).wr W5 (Or.inl (List.mem_singleton.mpr rfl))).wr W16 (Or.inl (List.mem_singleton.mpr rfl))).wr W27 (Or.inl (List.mem_singleton.mpr rfl))), Or.inl ⟨rfl, ⟨t0, t1, t2⟩, by rw [e26]; exact f34⟩⟩
set_option maxRecDepth 65536 in
set_option maxHeartbeats 40000000 in
theorem rmC3_3 (l : Launch) (Z : State) (a0 : Array Value) (hw : ∀ d ∈ tables_1, d.before a0 Z = true) (ca : Addr) (x1 : Int32) (x2 : Int32) (h0 : Heap) (n0 : Nat) (kk : Int32) (sf : Value) (u0 u1 u2 : Int32) (O0 : Old Z n0 h0) (SS : own_S Z kk sf) (B0 : 0 ≤ u0.toInt ∧ u0.toInt ≤ 65535) (B1 : 0 ≤ u1.toInt ∧ u1.toInt ≤ 65535) (B2 : 0 ≤ u2.toInt ∧ u2.toInt ≤ 65535) (Z0 : n0 ≤ h0.size) (h1 : x1 = 0) (h2 : x2 = 3) (A0 : Ar Z h0 ca .char 3 (fun q => .int (own_c u0 u1 u2 q))) :
    Con l Z (⟨"java/lang/StringUTF16", "compress", "([CII)[B"⟩ : MethodName) jdk_52_method_16_code 6 (some (.array .byte)) [] ({ frames := 3, cells := 2, slots := 9, locals := 40 } : Room) #[(.ref ca), (.int x1), (.int x2)] h0 (fun v h L => ∃ b, v = some (.ref b) ∧ h0.size ≤ b ∧ Fr n0 L ∧ Keep h0 h [] ∧ (((u0 ≤ (255 : Int32) ∧ u1 ≤ (255 : Int32) ∧ u2 ≤ (255 : Int32)) ∧ Ar Z h b .byte 3 (fun q => .int (own_lat (own_c u0 u1 u2 q)))) ∨ Ar Z h b .byte 6 (fun q => .int (own_u u0 u1 u2 q)))) := by
  refine Con.of (plainFor_of_name pn_StringUTF16) ?_
  intro p e s m below meth c s₁ hx hby hml hown hnm hret hlk hZ X0 e0
  refine Go.cast (ef_14 m ca x1 x2) ?_
  replace hown : s.vm.findClass "java/lang/StringUTF16" = some m.cls := hown
  subst h1 h2
  show Go p e below _ (s₁.setTop (mkF m 0 #[.val (.ref ca), .val (.int (0 : Int32)), .val (.int (3 : Int32)), .unset, .unset, .unset] []))
  refine Go.iloadN (pc' := 1) X0 hx hby d14_0 rfl rfl ?_
  refine Go.newarr (pc' := 3) (cap := 3) (z := 3) X0 hx hby hZ (hw _ (List.mem_of_getElem? (i := 16) rfl)) e0 d14_1 rfl (by decide) (by decide) (by decide) (by decide) (by decide) (by decide) ?_
  intro b1 T2 h3 g4 X5 e6 E7 A8
  have n9 : ca ≠ b1 := Nat.ne_of_lt (by rw [g4]; exact A0.lt)
  have g10 : n0 ≤ b1 := by rw [g4]; exact Z0
  have f11 : Old Z n0 h3 := O0.ext E7
  have f12 : Ar Z h3 ca .char 3 (fun q => .int (own_c u0 u1 u2 q)) := A0.ext E7
  have z13 : n0 ≤ h3.size := Nat.le_trans Z0 E7.1
  have f14 : Ar Z h3 b1 .byte 3 (fun _ => (.int 0)) := A8
  show Go p e below _ (T2.setTop (mkF m 3 #[.val (.ref ca), .val (.int (0 : Int32)), .val (.int (3 : Int32)), .unset, .unset, .unset] [(.ref b1)]))
  have K0 : Keep h0 h3 [] := (Keep.refl h0 _).ext E7
  have gf : h0.size ≤ b1 := by rw [g4]; exact Nat.le_refl _
  refine Go.astoreN (Ls' := #[.val (.ref ca), .val (.int (0 : Int32)), .val (.int (3 : Int32)), .val (.ref b1), .unset, .unset]) (pc' := 4) X5 hx hby d14_3 rfl rfl rfl ?_
  refine Go.aloadN (pc' := 5) X5 hx hby d14_4 rfl rfl rfl ?_
  refine Go.iloadN (pc' := 6) X5 hx hby d14_5 rfl rfl ?_
  refine Go.aloadN (pc' := 7) X5 hx hby d14_6 rfl rfl rfl ?_
  refine Go.iconst (pc' := 8) X5 hx hby d14_7 rfl (v := (0 : Int32)) (by decide) ?_
  refine Go.iloadN (pc' := 9) X5 hx hby d14_8 rfl rfl ?_
  refine Go.callS (pc' := 12) (W := 0) (argsL := [(.ref ca), (.int (0 : Int32)), (.ref b1), (.int (0 : Int32)), (.int (3 : Int32))]) (rest := []) X5 hx hby hZ hown (hw _ (List.mem_of_getElem? (i := 71) rfl)) (hw _ (List.mem_of_getElem? (i := 72) rfl)) (hw _ (List.mem_of_getElem? (i := 69) rfl)) (hw _ (List.mem_of_getElem? (i := 73) rfl)) (by decide) (rmC5_3 l Z a0 hw ca 0 b1 0 3 h3 n0 kk sf u0 u1 u2 f11 SS z13 g10 rfl rfl rfl f12 f14) e6 (by decide) (by decide) (by rw [hml]; rfl) pd_21 rfl rfl rfl (Nat.le_of_eq rfl) d14_9 rfl (by decide) (by decide) ?_
  rintro r15 T16 L17 X18 ⟨N1_, K1_, (⟨rfl, t0, A1⟩ | ⟨rfl, t0⟩ | ⟨rfl, t0⟩ | ⟨rfl, t0⟩)⟩
  ·
    have f19 : Old Z n0 T16.heap := f11.keep K1_ (allS g10 all0)
    have f20 : Ar Z T16.heap ca .char 3 (fun q => .int (own_c u0 u1 u2 q)) := f12.keep K1_ (ninS n9 nin0)
    have z21 : n0 ≤ T16.heap.size := Nat.le_trans z13 K1_.1
    have K2 := K0.trans K1_ (allS (Or.inr gf) all0)
    show Go p e below _ (T16.setTop (mkF m 12 #[.val (.ref ca), .val (.int (0 : Int32)), .val (.int (3 : Int32)), .val (.ref b1), .unset, .unset] [(.int (3 : Int32))]))
    refine Go.istore (Ls' := #[.val (.ref ca), .val (.int (0 : Int32)), .val (.int (3 : Int32)), .val (.ref b1), .val (.int (3 : Int32)), .unset]) (pc' := 14) X18 hx hby d14_12 rfl rfl ?_
    refine Go.iload (pc' := 16) X18 hx hby d14_14 rfl rfl ?_
    refine Go.iloadN (pc' := 17) X18 hx hby d14_16 rfl rfl ?_
    refine Go.icmpY (pc' := 57) X18 hx hby d14_17 (by decide) (by decide) (show (3 : Int32) = (3 : Int32) from by decide) ?_
    refine Go.aloadN (pc' := 58) X18 hx hby d14_57 rfl rfl rfl ?_
    exact Go.retA X18 hx hby hlk hret rfl rfl rfl d14_58 (by decide) (by decide) ⟨b1, rfl, gf, (Fr.app (Fr.nil _) N1_), K2, Or.inl ⟨t0, A1⟩⟩
  ·
    have f22 : Old Z n0 T16.heap := f11.keep K1_ (allS g10 all0)
    have f23 : Ar Z T16.heap ca .char 3 (fun q => .int (own_c u0 u1 u2 q)) := f12.keep K1_ (ninS n9 nin0)
    have z24 : n0 ≤ T16.heap.size := Nat.le_trans z13 K1_.1
    have K2 := K0.trans K1_ (allS (Or.inr gf) all0)
    show Go p e below _ (T16.setTop (mkF m 12 #[.val (.ref ca), .val (.int (0 : Int32)), .val (.int (3 : Int32)), .val (.ref b1), .unset, .unset] [(.int (0 : Int32))]))
    refine Go.istore (Ls' := #[.val (.ref ca), .val (.int (0 : Int32)), .val (.int (3 : Int32)), .val (.ref b1), .val (.int (0 : Int32)), .unset]) (pc' := 14) X18 hx hby d14_12 rfl rfl ?_
    refine Go.iload (pc' := 16) X18 hx hby d14_14 rfl rfl ?_
    refine Go.iloadN (pc' := 17) X18 hx hby d14_16 rfl rfl ?_
    refine Go.icmpN (pc' := 20) X18 hx hby d14_17 rfl (show ¬ ((0 : Int32) = (3 : Int32)) from by decide) ?_
    refine Go.aloadN (pc' := 21) X18 hx hby d14_20 rfl rfl rfl ?_
    refine Go.iloadN (pc' := 22) X18 hx hby d14_21 rfl rfl ?_
    refine Go.iloadN (pc' := 23) X18 hx hby d14_22 rfl rfl ?_
    refine Go.callS (pc' := 26) (W := 0) (argsL := [(.ref ca), (.int (0 : Int32)), (.int (3 : Int32))]) (rest := []) X18 hx hby hZ hown (hw _ (List.mem_of_getElem? (i := 84) rfl)) (hw _ (List.mem_of_getElem? (i := 85) rfl)) (hw _ (List.mem_of_getElem? (i := 69) rfl)) (hw _ (List.mem_of_getElem? (i := 86) rfl)) (by decide) (rmTB3 l Z a0 hw ca 0 3 T16.heap n0 kk sf u0 u1 u2 f22 SS z24 rfl rfl f23) rfl (by decide) (by decide) (by rw [hml]; rfl) pd_19 rfl rfl rfl (Nat.le_of_eq rfl) d14_23 rfl (by decide) (by decide) ?_
    rintro r25 T26 L27 X28 ⟨b2, rfl, g2, N2_, K3, A2⟩
    have g3 : h0.size ≤ b2 := Nat.le_trans K2.1 g2
    have K4 := K2.trans K3 all0
    have f29 : Old Z n0 T26.heap := f22.keep K3 all0
    have f30 : Ar Z T26.heap ca .char 3 (fun q => .int (own_c u0 u1 u2 q)) := f23.keep K3 nin0
    have z31 : n0 ≤ T26.heap.size := Nat.le_trans z24 K3.1
    show Go p e below _ (T26.setTop (mkF m 26 #[.val (.ref ca), .val (.int (0 : Int32)), .val (.int (3 : Int32)), .val (.ref b1), .val (.int (0 : Int32)), .unset] [(.ref b2)]))
    refine Go.astore (Ls' := #[.val (.ref ca), .val (.int (0 : Int32)), .val (.int (3 : Int32)), .val (.ref b1), .val (.int (0 : Int32)), .val (.ref b2)]) (pc' := 28) X28 hx hby d14_26 rfl rfl rfl ?_
    refine Go.aload (pc' := 30) X28 hx hby d14_28 rfl rfl rfl ?_
    refine Go.iload (pc' := 32) X28 hx hby d14_30 rfl rfl ?_
    refine Go.callS (pc' := 35) (W := 0) (argsL := [(.ref b2), (.int (0 : Int32))]) (rest := []) X28 hx hby hZ hown (hw _ (List.mem_of_getElem? (i := 100) rfl)) (hw _ (List.mem_of_getElem? (i := 101) rfl)) (hw _ (List.mem_of_getElem? (i := 69) rfl)) (hw _ (List.mem_of_getElem? (i := 102) rfl)) (by decide) (rmGC3_0 l Z a0 hw b2 0 T26.heap n0 kk sf (fun q => .int (own_u u0 u1 u2 q)) (own_lo u0) (own_hi u0) u0 f29 SS rfl A2 rfl rfl (own_gcc u0 B0)) rfl (by decide) (by decide) (by rw [hml]; rfl) pd_15 rfl rfl rfl (Nat.le_of_eq rfl) d14_32 rfl (by decide) (by decide) ?_
    rintro r33 T34 L35 X36 ⟨rfl, rfl, e32⟩
    rw [List.append_nil] at X36
    show Go p e below _ (T34.setTop (mkF m 35 #[.val (.ref ca), .val (.int (0 : Int32)), .val (.int (3 : Int32)), .val (.ref b1), .val (.int (0 : Int32)), .val (.ref b2)] [(.int u0)]))
    refine Go.sipush (pc' := 38) X36 hx hby d14_35 rfl (v := (255 : Int32)) (by decide) ?_
    refine Go.icmpY (pc' := 54) X36 hx hby d14_38 (by decide) (by decide) (show (255 : Int32) < u0 from Int32.not_le.mp t0) ?_
    refine Go.aload (pc' := 56) X36 hx hby d14_54 rfl rfl rfl ?_
    exact Go.retA X36 hx hby hlk hret rfl rfl rfl d14_56 (by decide) (by decide) ⟨b2, rfl, g3, (Fr.app (Fr.app (Fr.nil _) N1_) N2_), by rw [e32]; exact K4, Or.inr (by rw [e32]; exact A2)⟩
  ·
    have f37 : Old Z n0 T16.heap := f11.keep K1_ (allS g10 all0)
    have f38 : Ar Z T16.heap ca .char 3 (fun q => .int (own_c u0 u1 u2 q)) := f12.keep K1_ (ninS n9 nin0)
    have z39 : n0 ≤ T16.heap.size := Nat.le_trans z13 K1_.1
    have K2 := K0.trans K1_ (allS (Or.inr gf) all0)
    show Go p e below _ (T16.setTop (mkF m 12 #[.val (.ref ca), .val (.int (0 : Int32)), .val (.int (3 : Int32)), .val (.ref b1), .unset, .unset] [(.int (1 : Int32))]))
    refine Go.istore (Ls' := #[.val (.ref ca), .val (.int (0 : Int32)), .val (.int (3 : Int32)), .val (.ref b1), .val (.int (1 : Int32)), .unset]) (pc' := 14) X18 hx hby d14_12 rfl rfl ?_
    refine Go.iload (pc' := 16) X18 hx hby d14_14 rfl rfl ?_
    refine Go.iloadN (pc' := 17) X18 hx hby d14_16 rfl rfl ?_
    refine Go.icmpN (pc' := 20) X18 hx hby d14_17 rfl (show ¬ ((1 : Int32) = (3 : Int32)) from by decide) ?_
    refine Go.aloadN (pc' := 21) X18 hx hby d14_20 rfl rfl rfl ?_
    refine Go.iloadN (pc' := 22) X18 hx hby d14_21 rfl rfl ?_
    refine Go.iloadN (pc' := 23) X18 hx hby d14_22 rfl rfl ?_
    refine Go.callS (pc' := 26) (W := 0) (argsL := [(.ref ca), (.int (0 : Int32)), (.int (3 : Int32))]) (rest := []) X18 hx hby hZ hown (hw _ (List.mem_of_getElem? (i := 84) rfl)) (hw _ (List.mem_of_getElem? (i := 85) rfl)) (hw _ (List.mem_of_getElem? (i := 69) rfl)) (hw _ (List.mem_of_getElem? (i := 86) rfl)) (by decide) (rmTB3 l Z a0 hw ca 0 3 T16.heap n0 kk sf u0 u1 u2 f37 SS z39 rfl rfl f38) rfl (by decide) (by decide) (by rw [hml]; rfl) pd_19 rfl rfl rfl (Nat.le_of_eq rfl) d14_23 rfl (by decide) (by decide) ?_
    rintro r40 T41 L42 X43 ⟨b2, rfl, g2, N2_, K3, A2⟩
    have g3 : h0.size ≤ b2 := Nat.le_trans K2.1 g2
    have K4 := K2.trans K3 all0
    have f44 : Old Z n0 T41.heap := f37.keep K3 all0
    have f45 : Ar Z T41.heap ca .char 3 (fun q => .int (own_c u0 u1 u2 q)) := f38.keep K3 nin0
    have z46 : n0 ≤ T41.heap.size := Nat.le_trans z39 K3.1
    show Go p e below _ (T41.setTop (mkF m 26 #[.val (.ref ca), .val (.int (0 : Int32)), .val (.int (3 : Int32)), .val (.ref b1), .val (.int (1 : Int32)), .unset] [(.ref b2)]))
    refine Go.astore (Ls' := #[.val (.ref ca), .val (.int (0 : Int32)), .val (.int (3 : Int32)), .val (.ref b1), .val (.int (1 : Int32)), .val (.ref b2)]) (pc' := 28) X43 hx hby d14_26 rfl rfl rfl ?_
    refine Go.aload (pc' := 30) X43 hx hby d14_28 rfl rfl rfl ?_
    refine Go.iload (pc' := 32) X43 hx hby d14_30 rfl rfl ?_
    refine Go.callS (pc' := 35) (W := 0) (argsL := [(.ref b2), (.int (1 : Int32))]) (rest := []) X43 hx hby hZ hown (hw _ (List.mem_of_getElem? (i := 100) rfl)) (hw _ (List.mem_of_getElem? (i := 101) rfl)) (hw _ (List.mem_of_getElem? (i := 69) rfl)) (hw _ (List.mem_of_getElem? (i := 102) rfl)) (by decide) (rmGC3_1 l Z a0 hw b2 1 T41.heap n0 kk sf (fun q => .int (own_u u0 u1 u2 q)) (own_lo u1) (own_hi u1) u1 f44 SS rfl A2 rfl rfl (own_gcc u1 B1)) rfl (by decide) (by decide) (by rw [hml]; rfl) pd_15 rfl rfl rfl (Nat.le_of_eq rfl) d14_32 rfl (by decide) (by decide) ?_
    rintro r48 T49 L50 X51 ⟨rfl, rfl, e47⟩
    rw [List.append_nil] at X51
    show Go p e below _ (T49.setTop (mkF m 35 #[.val (.ref ca), .val (.int (0 : Int32)), .val (.int (3 : Int32)), .val (.ref b1), .val (.int (1 : Int32)), .val (.ref b2)] [(.int u1)]))
    refine Go.sipush (pc' := 38) X51 hx hby d14_35 rfl (v := (255 : Int32)) (by decide) ?_
    refine Go.icmpY (pc' := 54) X51 hx hby d14_38 (by decide) (by decide) (show (255 : Int32) < u1 from Int32.not_le.mp t0) ?_
    refine Go.aload (pc' := 56) X51 hx hby d14_54 rfl rfl rfl ?_
    exact Go.retA X51 hx hby hlk hret rfl rfl rfl d14_56 (by decide) (by decide) ⟨b2, rfl, g3, (Fr.app (Fr.app (Fr.nil _) N1_) N2_), by rw [e47]; exact K4, Or.inr (by rw [e47]; exact A2)⟩
  ·
    have f52 : Old Z n0 T16.heap := f11.keep K1_ (allS g10 all0)
    have f53 : Ar Z T16.heap ca .char 3 (fun q => .int (own_c u0 u1 u2 q)) := f12.keep K1_ (ninS n9 nin0)
    have z54 : n0 ≤ T16.heap.size := Nat.le_trans z13 K1_.1
    have K2 := K0.trans K1_ (allS (Or.inr gf) all0)
    show Go p e below _ (T16.setTop (mkF m 12 #[.val (.ref ca), .val (.int (0 : Int32)), .val (.int (3 : Int32)), .val (.ref b1), .unset, .unset] [(.int (2 : Int32))]))
    refine Go.istore (Ls' := #[.val (.ref ca), .val (.int (0 : Int32)), .val (.int (3 : Int32)), .val (.ref b1), .val (.int (2 : Int32)), .unset]) (pc' := 14) X18 hx hby d14_12 rfl rfl ?_
    refine Go.iload (pc' := 16) X18 hx hby d14_14 rfl rfl ?_
    refine Go.iloadN (pc' := 17) X18 hx hby d14_16 rfl rfl ?_
    refine Go.icmpN (pc' := 20) X18 hx hby d14_17 rfl (show ¬ ((2 : Int32) = (3 : Int32)) from by decide) ?_
    refine Go.aloadN (pc' := 21) X18 hx hby d14_20 rfl rfl rfl ?_
    refine Go.iloadN (pc' := 22) X18 hx hby d14_21 rfl rfl ?_
    refine Go.iloadN (pc' := 23) X18 hx hby d14_22 rfl rfl ?_
    refine Go.callS (pc' := 26) (W := 0) (argsL := [(.ref ca), (.int (0 : Int32)), (.int (3 : Int32))]) (rest := []) X18 hx hby hZ hown (hw _ (List.mem_of_getElem? (i := 84) rfl)) (hw _ (List.mem_of_getElem? (i := 85) rfl)) (hw _ (List.mem_of_getElem? (i := 69) rfl)) (hw _ (List.mem_of_getElem? (i := 86) rfl)) (by decide) (rmTB3 l Z a0 hw ca 0 3 T16.heap n0 kk sf u0 u1 u2 f52 SS z54 rfl rfl f53) rfl (by decide) (by decide) (by rw [hml]; rfl) pd_19 rfl rfl rfl (Nat.le_of_eq rfl) d14_23 rfl (by decide) (by decide) ?_
    rintro r55 T56 L57 X58 ⟨b2, rfl, g2, N2_, K3, A2⟩
    have g3 : h0.size ≤ b2 := Nat.le_trans K2.1 g2
    have K4 := K2.trans K3 all0
    have f59 : Old Z n0 T56.heap := f52.keep K3 all0
    have f60 : Ar Z T56.heap ca .char 3 (fun q => .int (own_c u0 u1 u2 q)) := f53.keep K3 nin0
    have z61 : n0 ≤ T56.heap.size := Nat.le_trans z54 K3.1
    show Go p e below _ (T56.setTop (mkF m 26 #[.val (.ref ca), .val (.int (0 : Int32)), .val (.int (3 : Int32)), .val (.ref b1), .val (.int (2 : Int32)), .unset] [(.ref b2)]))
    refine Go.astore (Ls' := #[.val (.ref ca), .val (.int (0 : Int32)), .val (.int (3 : Int32)), .val (.ref b1), .val (.int (2 : Int32)), .val (.ref b2)]) (pc' := 28) X58 hx hby d14_26 rfl rfl rfl ?_
    refine Go.aload (pc' := 30) X58 hx hby d14_28 rfl rfl rfl ?_
    refine Go.iload (pc' := 32) X58 hx hby d14_30 rfl rfl ?_
    refine Go.callS (pc' := 35) (W := 0) (argsL := [(.ref b2), (.int (2 : Int32))]) (rest := []) X58 hx hby hZ hown (hw _ (List.mem_of_getElem? (i := 100) rfl)) (hw _ (List.mem_of_getElem? (i := 101) rfl)) (hw _ (List.mem_of_getElem? (i := 69) rfl)) (hw _ (List.mem_of_getElem? (i := 102) rfl)) (by decide) (rmGC3_2 l Z a0 hw b2 2 T56.heap n0 kk sf (fun q => .int (own_u u0 u1 u2 q)) (own_lo u2) (own_hi u2) u2 f59 SS rfl A2 rfl rfl (own_gcc u2 B2)) rfl (by decide) (by decide) (by rw [hml]; rfl) pd_15 rfl rfl rfl (Nat.le_of_eq rfl) d14_32 rfl (by decide) (by decide) ?_
    rintro r63 T64 L65 X66 ⟨rfl, rfl, e62⟩
    rw [List.append_nil] at X66
    show Go p e below _ (T64.setTop (mkF m 35 #[.val (.ref ca), .val (.int (0 : Int32)), .val (.int (3 : Int32)), .val (.ref b1), .val (.int (2 : Int32)), .val (.ref b2)] [(.int u2)]))
    refine Go.sipush (pc' := 38) X66 hx hby d14_35 rfl (v := (255 : Int32)) (by decide) ?_
    refine Go.icmpY (pc' := 54) X66 hx hby d14_38 (by decide) (by decide) (show (255 : Int32) < u2 from Int32.not_le.mp t0) ?_
    refine Go.aload (pc' := 56) X66 hx hby d14_54 rfl rfl rfl ?_
    exact Go.retA X66 hx hby hlk hret rfl rfl rfl d14_56 (by decide) (by decide) ⟨b2, rfl, g3, (Fr.app (Fr.app (Fr.nil _) N1_) N2_), by rw [e62]; exact K4, Or.inr (by rw [e62]; exact A2)⟩
set_option maxRecDepth 65536 in
set_option maxHeartbeats 40000000 in
theorem rmCF3_0 (l : Launch) (Z : State) (a0 : Array Value) (hw : ∀ d ∈ tables_1, d.before a0 Z = true) (a : Addr) (x1 : Int32) (h0 : Heap) (f0 : Int → Value) (h1 : x1 = 3) (A0 : Ar Z h0 a .byte 3 f0) :
    Con l Z (⟨"java/lang/StringUTF16", "coderFromArrayLen", "([BI)B"⟩ : MethodName) jdk_52_method_15_code 2 (some .byte) [] ({ frames := 0, cells := 0, slots := 0, locals := 0 } : Room) #[(.ref a), (.int x1)] h0 (PQ (some (.int 0)) h0) := by
  refine Con.of (plainFor_of_name pn_StringUTF16) ?_
  intro p e s m below meth c s₁ hx hby hml hown hnm hret hlk hZ X0 e0
  refine Go.cast (ef_16 m a x1) ?_
  replace hown : s.vm.findClass "java/lang/StringUTF16" = some m.cls := hown
  subst h1
  show Go p e below _ (s₁.setTop (mkF m 0 #[.val (.ref a), .val (.int (3 : Int32))] []))
  refine Go.iloadN (pc' := 1) X0 hx hby d16_0 rfl rfl ?_
  refine Go.aloadN (pc' := 2) X0 hx hby d16_1 rfl rfl rfl ?_
  refine Go.alen (pc' := 3) (zv := (3 : Int32)) X0 hx hby hZ e0 A0 d16_2 rfl (by decide) ?_
  refine Go.isub (pc' := 4) X0 hx hby d16_3 rfl ?_
  refine Go.bipush (pc' := 6) X0 hx hby d16_4 rfl (v := (31 : Int32)) (by decide) ?_
  refine Go.iushr (pc' := 7) X0 hx hby d16_6 rfl ?_
  refine Go.i2b (pc' := 8) X0 hx hby d16_7 rfl ?_
  exact Go.retZ X0 hx hby hlk hret (by simp) d16_8 (by decide) (by decide) ⟨by rw [show nar .byte (((((3 : Int32) - (3 : Int32)).toUInt32 >>> ((31 : Int32) &&& 31).toUInt32).toInt32).toInt8.toInt32) = 0 from by decide], rfl, e0⟩
set_option maxRecDepth 65536 in
set_option maxHeartbeats 40000000 in
theorem rmCF3_1 (l : Launch) (Z : State) (a0 : Array Value) (hw : ∀ d ∈ tables_1, d.before a0 Z = true) (a : Addr) (x1 : Int32) (h0 : Heap) (f0 : Int → Value) (h1 : x1 = 3) (A0 : Ar Z h0 a .byte 6 f0) :
    Con l Z (⟨"java/lang/StringUTF16", "coderFromArrayLen", "([BI)B"⟩ : MethodName) jdk_52_method_15_code 2 (some .byte) [] ({ frames := 0, cells := 0, slots := 0, locals := 0 } : Room) #[(.ref a), (.int x1)] h0 (PQ (some (.int 1)) h0) := by
  refine Con.of (plainFor_of_name pn_StringUTF16) ?_
  intro p e s m below meth c s₁ hx hby hml hown hnm hret hlk hZ X0 e0
  refine Go.cast (ef_16 m a x1) ?_
  replace hown : s.vm.findClass "java/lang/StringUTF16" = some m.cls := hown
  subst h1
  show Go p e below _ (s₁.setTop (mkF m 0 #[.val (.ref a), .val (.int (3 : Int32))] []))
  refine Go.iloadN (pc' := 1) X0 hx hby d16_0 rfl rfl ?_
  refine Go.aloadN (pc' := 2) X0 hx hby d16_1 rfl rfl rfl ?_
  refine Go.alen (pc' := 3) (zv := (6 : Int32)) X0 hx hby hZ e0 A0 d16_2 rfl (by decide) ?_
  refine Go.isub (pc' := 4) X0 hx hby d16_3 rfl ?_
  refine Go.bipush (pc' := 6) X0 hx hby d16_4 rfl (v := (31 : Int32)) (by decide) ?_
  refine Go.iushr (pc' := 7) X0 hx hby d16_6 rfl ?_
  refine Go.i2b (pc' := 8) X0 hx hby d16_7 rfl ?_
  exact Go.retZ X0 hx hby hlk hret (by simp) d16_8 (by decide) (by decide) ⟨by rw [show nar .byte (((((3 : Int32) - (6 : Int32)).toUInt32 >>> ((31 : Int32) &&& 31).toUInt32).toInt32).toInt8.toInt32) = 1 from by decide], rfl, e0⟩
theorem d2_0 : decode jdk_42_method_149_code 0 = .ok (.aload_n 0, 1) := by decide +kernel
theorem d2_1 : decode jdk_42_method_149_code 1 = .ok (.invokespecial 1, 3) := by decide +kernel
theorem d2_4 : decode jdk_42_method_149_code 4 = .ok (.iload_n 3, 1) := by decide +kernel
theorem d2_5 : decode jdk_42_method_149_code 5 = .ok (.ifCond .ne 22, 3) := by decide +kernel
theorem d2_8 : decode jdk_42_method_149_code 8 = .ok (.aload_n 0, 1) := by decide +kernel
theorem d2_9 : decode jdk_42_method_149_code 9 = .ok (.ldc 7, 2) := by decide +kernel
theorem d2_11 : decode jdk_42_method_149_code 11 = .ok (.getfield 9, 3) := by decide +kernel
theorem d2_14 : decode jdk_42_method_149_code 14 = .ok (.putfield 9, 3) := by decide +kernel
theorem d2_17 : decode jdk_42_method_149_code 17 = .ok (.aload_n 0, 1) := by decide +kernel
theorem d2_18 : decode jdk_42_method_149_code 18 = .ok (.ldc 7, 2) := by decide +kernel
theorem d2_20 : decode jdk_42_method_149_code 20 = .ok (.getfield 15, 3) := by decide +kernel
theorem d2_23 : decode jdk_42_method_149_code 23 = .ok (.putfield 15, 3) := by decide +kernel
theorem d2_26 : decode jdk_42_method_149_code 26 = .ok (.return_, 1) := by decide +kernel
theorem d2_27 : decode jdk_42_method_149_code 27 = .ok (.getstatic 38, 3) := by decide +kernel
theorem d2_30 : decode jdk_42_method_149_code 30 = .ok (.ifCond .eq 28, 3) := by decide +kernel
theorem d2_33 : decode jdk_42_method_149_code 33 = .ok (.aload_n 1, 1) := by decide +kernel
theorem d2_34 : decode jdk_42_method_149_code 34 = .ok (.iload_n 2, 1) := by decide +kernel
theorem d2_35 : decode jdk_42_method_149_code 35 = .ok (.iload_n 3, 1) := by decide +kernel
theorem d2_36 : decode jdk_42_method_149_code 36 = .ok (.invokestatic 177, 3) := by decide +kernel
theorem d2_39 : decode jdk_42_method_149_code 39 = .ok (.astore 5, 2) := by decide +kernel
theorem d2_41 : decode jdk_42_method_149_code 41 = .ok (.aload_n 0, 1) := by decide +kernel
theorem d2_42 : decode jdk_42_method_149_code 42 = .ok (.aload 5, 2) := by decide +kernel
theorem d2_44 : decode jdk_42_method_149_code 44 = .ok (.iload_n 3, 1) := by decide +kernel
theorem d2_45 : decode jdk_42_method_149_code 45 = .ok (.invokestatic 47, 3) := by decide +kernel
theorem d2_48 : decode jdk_42_method_149_code 48 = .ok (.putfield 15, 3) := by decide +kernel
theorem d2_51 : decode jdk_42_method_149_code 51 = .ok (.aload_n 0, 1) := by decide +kernel
theorem d2_52 : decode jdk_42_method_149_code 52 = .ok (.aload 5, 2) := by decide +kernel
theorem d2_54 : decode jdk_42_method_149_code 54 = .ok (.putfield 9, 3) := by decide +kernel
theorem d2_57 : decode jdk_42_method_149_code 57 = .ok (.return_, 1) := by decide +kernel
theorem d2_58 : decode jdk_42_method_149_code 58 = .ok (.aload_n 0, 1) := by decide +kernel
theorem d2_59 : decode jdk_42_method_149_code 59 = .ok (.iconst 1, 1) := by decide +kernel
theorem d2_60 : decode jdk_42_method_149_code 60 = .ok (.putfield 15, 3) := by decide +kernel
theorem d2_63 : decode jdk_42_method_149_code 63 = .ok (.aload_n 0, 1) := by decide +kernel
theorem d2_64 : decode jdk_42_method_149_code 64 = .ok (.aload_n 1, 1) := by decide +kernel
theorem d2_65 : decode jdk_42_method_149_code 65 = .ok (.iload_n 2, 1) := by decide +kernel
theorem d2_66 : decode jdk_42_method_149_code 66 = .ok (.iload_n 3, 1) := by decide +kernel
theorem d2_67 : decode jdk_42_method_149_code 67 = .ok (.invokestatic 180, 3) := by decide +kernel
theorem d2_70 : decode jdk_42_method_149_code 70 = .ok (.putfield 9, 3) := by decide +kernel
theorem d2_73 : decode jdk_42_method_149_code 73 = .ok (.return_, 1) := by decide +kernel
theorem d1_0 : decode jdk_42_method_3_code 0 = .ok (.aload_n 0, 1) := by decide +kernel
theorem d1_1 : decode jdk_42_method_3_code 1 = .ok (.aload_n 1, 1) := by decide +kernel
theorem d1_2 : decode jdk_42_method_3_code 2 = .ok (.iconst 0, 1) := by decide +kernel
theorem d1_3 : decode jdk_42_method_3_code 3 = .ok (.aload_n 1, 1) := by decide +kernel
theorem d1_4 : decode jdk_42_method_3_code 4 = .ok (.arraylength, 1) := by decide +kernel
theorem d1_5 : decode jdk_42_method_3_code 5 = .ok (.aconst_null, 1) := by decide +kernel
theorem d1_6 : decode jdk_42_method_3_code 6 = .ok (.invokespecial 27, 3) := by decide +kernel
theorem d1_9 : decode jdk_42_method_3_code 9 = .ok (.return_, 1) := by decide +kernel
theorem ef_2 (m : MethodId) (x0 : Addr) (x1 : Addr) (x2 : Int32) (x3 : Int32) : entryFrame m #[(.ref x0), (.ref x1), (.int x2), (.int x3), .null] 6 = mkF m 0 #[.val (.ref x0), .val (.ref x1), .val (.int x2), .val (.int x3), .val .null, .unset] [] := by first | (simp [entryFrame, mkF, argsToLocals, Value.category]; done) | rfl
theorem pn_String : plainName "java/lang/String" = true := by first | (simp [plainName, overriddenIn]; done) | decide +kernel
set_option maxRecDepth 65536 in
set_option maxHeartbeats 40000000 in
theorem rmI4_1 (l : Launch) (Z : State) (a0 : Array Value) (hw : ∀ d ∈ tables_1, d.before a0 Z = true) (a : Addr) (ca : Addr) (x2 : Int32) (x3 : Int32) (h0 : Heap) (n0 : Nat) (kk : Int32) (sf : Value) (u0 u1 u2 : Int32) (O0 : Old Z n0 h0) (SS : own_S Z kk sf) (B0 : 0 ≤ u0.toInt ∧ u0.toInt ≤ 65535) (B1 : 0 ≤ u1.toInt ∧ u1.toInt ≤ 65535) (B2 : 0 ≤ u2.toInt ∧ u2.toInt ≤ 65535) (Z0 : n0 ≤ h0.size) (ga : n0 ≤ a) (h2 : x2 = 0) (h3 : x3 = 1) (E0 : Exa Z h0 a "java/lang/String") (F1 : Fld Z h0 a "java/lang/String" "value" "[B" .null) (F2 : Fld Z h0 a "java/lang/String" "coder" "B" (.int 0)) (A0 : Ar Z h0 ca .char 1 (fun q => .int (own_c u0 u1 u2 q))) :
    Con l Z (⟨"java/lang/String", "<init>", "([CIILjava/lang/Void;)V"⟩ : MethodName) jdk_42_method_149_code 6 none [] ({ frames := 4, cells := 2, slots := 3, locals := 57 } : Room) #[(.ref a), (.ref ca), (.int x2), (.int x3), .null] h0 (fun v h L => v = none ∧ Fr n0 L ∧ Keep h0 h [a] ∧ own_str1 Z h a u0 u1 u2) := by
  refine Con.of (plainFor_of_name pn_String) ?_
  intro p e s m below meth c s₁ hx hby hml hown hnm hret hlk hZ X0 e0
  refine Go.cast (ef_2 m a ca x2 x3) ?_
  replace hown : s.vm.findClass "java/lang/String" = some m.cls := hown
  subst h2 h3
  show Go p e below _ (s₁.setTop (mkF m 0 #[.val (.ref a), .val (.ref ca), .val (.int (0 : Int32)), .val (.int (1 : Int32)), .val .null, .unset] []))
  have S0_ : Sta Z h0 "java/lang/String" "COMPACT_STRINGS" "Z" (.int kk) := Sta.ext O0.2 SS.2.1
  refine Go.aloadN (pc' := 1) X0 hx hby d2_0 rfl rfl rfl ?_
  refine Go.initO (pc' := 4) (W := 0) X0 hx hby hZ hown (hw _ (List.mem_of_getElem? (i := 12) rfl)) (hw _ (List.mem_of_getElem? (i := 13) rfl)) (hw _ (List.mem_of_getElem? (i := 14) rfl)) e0 (by rw [hml]; rfl) d2_1 rfl (by decide) (Nat.le_of_eq rfl) (by decide) ?_
  intro T1 X2 e3
  refine Go.iloadN (pc' := 5) X2 hx hby d2_4 rfl rfl ?_
  refine Go.ifY (pc' := 27) X2 hx hby d2_5 (by decide) (by decide) (show (1 : Int32) ≠ 0 from by decide) ?_
  refine Go.getSt (pc' := 30) X2 hx hby hZ hown (hw _ (List.mem_of_getElem? (i := 42) rfl)) Via.refl e3 S0_ d2_27 rfl ?_
  intro T4 X5 e6
  refine Go.ifN (pc' := 33) X5 hx hby d2_30 rfl (show ¬ (kk = 0) from SS.1) ?_
  refine Go.aloadN (pc' := 34) X5 hx hby d2_33 rfl rfl rfl ?_
  refine Go.iloadN (pc' := 35) X5 hx hby d2_34 rfl rfl ?_
  refine Go.iloadN (pc' := 36) X5 hx hby d2_35 rfl rfl ?_
  refine Go.callS (pc' := 39) (W := 0) (argsL := [(.ref ca), (.int (0 : Int32)), (.int (1 : Int32))]) (rest := []) X5 hx hby hZ hown (hw _ (List.mem_of_getElem? (i := 67) rfl)) (hw _ (List.mem_of_getElem? (i := 68) rfl)) (hw _ (List.mem_of_getElem? (i := 69) rfl)) (hw _ (List.mem_of_getElem? (i := 70) rfl)) (by decide) (rmC3_1 l Z a0 hw ca 0 1 h0 n0 kk sf u0 u1 u2 O0 SS B0 B1 B2 Z0 rfl rfl A0) e6 (by decide) (by decide) (by rw [hml]; rfl) pd_19 rfl rfl rfl (Nat.le_of_eq rfl) d2_36 rfl (by decide) (by decide) ?_
  rintro r7 T8 L9 X10 ⟨b, rfl, gf, N1_, K1, (⟨t0, A1⟩ | A1)⟩
  ·
    have nb : a ≠ b := Nat.ne_of_lt (Nat.lt_of_lt_of_le E0.lt gf)
    have f11 : Old Z n0 T8.heap := O0.keep K1 all0
    have f12 : Exa Z T8.heap a "java/lang/String" := E0.keep K1
    have f13 : Fld Z T8.heap a "java/lang/String" "value" "[B" .null := F1.keep K1 nin0
    have f14 : Fld Z T8.heap a "java/lang/String" "coder" "B" (.int 0) := F2.keep K1 nin0
    have z15 : n0 ≤ T8.heap.size := Nat.le_trans Z0 K1.1
    show Go p e below _ (T8.setTop (mkF m 39 #[.val (.ref a), .val (.ref ca), .val (.int (0 : Int32)), .val (.int (1 : Int32)), .val .null, .unset] [(.ref b)]))
    refine Go.astore (Ls' := #[.val (.ref a), .val (.ref ca), .val (.int (0 : Int32)), .val (.int (1 : Int32)), .val .null, .val (.ref b)]) (pc' := 41) X10 hx hby d2_39 rfl rfl rfl ?_
    refine Go.aloadN (pc' := 42) X10 hx hby d2_41 rfl rfl rfl ?_
    refine Go.aload (pc' := 44) X10 hx hby d2_42 rfl rfl rfl ?_
    refine Go.iloadN (pc' := 45) X10 hx hby d2_44 rfl rfl ?_
    refine Go.callS (pc' := 48) (W := 1) (argsL := [(.ref b), (.int (1 : Int32))]) (rest := [(.ref a)]) X10 hx hby hZ hown (hw _ (List.mem_of_getElem? (i := 74) rfl)) (hw _ (List.mem_of_getElem? (i := 75) rfl)) (hw _ (List.mem_of_getElem? (i := 69) rfl)) (hw _ (List.mem_of_getElem? (i := 76) rfl)) (by decide) (rmCF1_0 l Z a0 hw b 1 T8.heap _ rfl A1) rfl (by decide) (by decide) (by rw [hml]; rfl) pd_14 rfl rfl rfl (Nat.le_of_eq rfl) d2_45 rfl (by decide) (by decide) ?_
    rintro r17 T18 L19 X20 ⟨rfl, rfl, e16⟩
    rw [List.append_nil] at X20
    show Go p e below _ (T18.setTop (mkF m 48 #[.val (.ref a), .val (.ref ca), .val (.int (0 : Int32)), .val (.int (1 : Int32)), .val .null, .val (.ref b)] [(.int (0 : Int32)), (.ref a)]))
    refine Go.putF (pc' := 51) (ty := .byte) X20 hx hby hZ hown (hw _ (List.mem_of_getElem? (i := 22) rfl)) Via.refl e16 f14 f12 (Or.inr ⟨(hw _ (List.mem_of_getElem? (i := 18) rfl)), rfl, hnm⟩) (hw _ (List.mem_of_getElem? (i := 3) rfl)) (by decide) rfl rfl d2_48 rfl ?_
    intro T21 h22 X23 e24 W25
    have f26 : Old Z n0 h22 := f11.wr W25 ga
    have f27 : Exa Z h22 a "java/lang/String" := Exa.wr W25 f12
    have f28 : Fld Z h22 a "java/lang/String" "value" "[B" .null := Fld.other W25 f13 (Or.inr (slot_ne (t := (.array .byte)) (t' := .byte) (Or.inr (hw _ (List.mem_of_getElem? (i := 17) rfl))) (Or.inr (hw _ (List.mem_of_getElem? (i := 18) rfl))) (by decide) (by decide) (by decide)))
    have f29 : Ar Z h22 b .byte 1 (fun q => .int (own_lat (own_c u0 u1 u2 q))) := A1.other W25 (Ne.symm nb)
    have z30 : n0 ≤ h22.size := by rw [Wr.size W25]; exact z15
    have f31 : Fld Z h22 a "java/lang/String" "coder" "B" (.int (0 : Int32)) := Fld.same W25 f14
    have N32 : Fr n0 _ := Fr.snoc X23 (Fr.app (Fr.nil _) N1_) ga
    show Go p e below _ (T21.setTop (mkF m 51 #[.val (.ref a), .val (.ref ca), .val (.int (0 : Int32)), .val (.int (1 : Int32)), .val .null, .val (.ref b)] []))
    refine Go.aloadN (pc' := 52) X23 hx hby d2_51 rfl rfl rfl ?_
    refine Go.aload (pc' := 54) X23 hx hby d2_52 rfl rfl rfl ?_
    refine Go.putF (pc' := 57) (ty := (.array .byte)) X23 hx hby hZ hown (hw _ (List.mem_of_getElem? (i := 21) rfl)) Via.refl e24 f28 f27 (Or.inr ⟨(hw _ (List.mem_of_getElem? (i := 17) rfl)), rfl, hnm⟩) (hw _ (List.mem_of_getElem? (i := 3) rfl)) (by decide) rfl rfl d2_54 rfl ?_
    intro T33 h34 X35 e36 W37
    have f38 : Old Z n0 h34 := f26.wr W37 ga
    have f39 : Exa Z h34 a "java/lang/String" := Exa.wr W37 f27
    have f40 : Fld Z h34 a "java/lang/String" "coder" "B" (.int (0 : Int32)) := Fld.other W37 f31 (Or.inr (slot_ne (t := .byte) (t' := (.array .byte)) (Or.inr (hw _ (List.mem_of_getElem? (i := 18) rfl))) (Or.inr (hw _ (List.mem_of_getElem? (i := 17) rfl))) (by decide) (by decide) (by decide)))
    have f41 : Ar Z h34 b .byte 1 (fun q => .int (own_lat (own_c u0 u1 u2 q))) := f29.other W37 (Ne.symm nb)
    have z42 : n0 ≤ h34.size := by rw [Wr.size W37]; exact z30
    have f43 : Fld Z h34 a "java/lang/String" "value" "[B" (.ref b) := Fld.same W37 f28
    have N44 : Fr n0 _ := Fr.snoc X35 N32 ga
    show Go p e below _ (T33.setTop (mkF m 57 #[.val (.ref a), .val (.ref ca), .val (.int (0 : Int32)), .val (.int (1 : Int32)), .val .null, .val (.ref b)] []))
    exact Go.ret0 X35 hx hby hlk hret d2_57 (by decide) (by decide) ⟨rfl, N44, by rw [e36]; exact (((Keep.refl h0 [a]).trans K1 all0).wr W25 (Or.inl (List.mem_singleton.mpr rfl))).wr W37 (Or.inl (List.mem_singleton.mpr rfl)), by rw [e36]; exact ⟨b, f39, f43, Or.inl ⟨f40, t0, f41⟩⟩⟩
  ·
    have nb : a ≠ b := Nat.ne_of_lt (Nat.lt_of_lt_of_le E0.lt gf)
    have f45 : Old Z n0 T8.heap := O0.keep K1 all0
    have f46 : Exa Z T8.heap a "java/lang/String" := E0.keep K1
    have f47 : Fld Z T8.heap a "java/lang/String" "value" "[B" .null := F1.keep K1 nin0
    have f48 : Fld Z T8.heap a "java/lang/String" "coder" "B" (.int 0) := F2.keep K1 nin0
    have z49 : n0 ≤ T8.heap.size := Nat.le_trans Z0 K1.1
    show Go p e below _ (T8.setTop (mkF m 39 #[.val (.ref a), .val (.ref ca), .val (.int (0 : Int32)), .val (.int (1 : Int32)), .val .null, .unset] [(.ref b)]))
    refine Go.astore (Ls' := #[.val (.ref a), .val (.ref ca), .val (.int (0 : Int32)), .val (.int (1 : Int32)), .val .null, .val (.ref b)]) (pc' := 41) X10 hx hby d2_39 rfl rfl rfl ?_
    refine Go.aloadN (pc' := 42) X10 hx hby d2_41 rfl rfl rfl ?_
    refine Go.aload (pc' := 44) X10 hx hby d2_42 rfl rfl rfl ?_
    refine Go.iloadN (pc' := 45) X10 hx hby d2_44 rfl rfl ?_
    refine Go.callS (pc' := 48) (W := 1) (argsL := [(.ref b), (.int (1 : Int32))]) (rest := [(.ref a)]) X10 hx hby hZ hown (hw _ (List.mem_of_getElem? (i := 74) rfl)) (hw _ (List.mem_of_getElem? (i := 75) rfl)) (hw _ (List.mem_of_getElem? (i := 69) rfl)) (hw _ (List.mem_of_getElem? (i := 76) rfl)) (by decide) (rmCF1_1 l Z a0 hw b 1 T8.heap _ rfl A1) rfl (by decide) (by decide) (by rw [hml]; rfl) pd_14 rfl rfl rfl (Nat.le_of_eq rfl) d2_45 rfl (by decide) (by decide) ?_
    rintro r51 T52 L53 X54 ⟨rfl, rfl, e50⟩
    rw [List.append_nil] at X54
    show Go p e below _ (T52.setTop (mkF m 48 #[.val (.ref a), .val (.ref ca), .val (.int (0 : Int32)), .val (.int (1 : Int32)), .val .null, .val (.ref b)] [(.int (1 : Int32)), (.ref a)]))
    refine Go.putF (pc' := 51) (ty := .byte) X54 hx hby hZ hown (hw _ (List.mem_of_getElem? (i := 22) rfl)) Via.refl e50 f48 f46 (Or.inr ⟨(hw _ (List.mem_of_getElem? (i := 18) rfl)), rfl, hnm⟩) (hw _ (List.mem_of_getElem? (i := 3) rfl)) (by decide) rfl rfl d2_48 rfl ?_
    intro T55 h56 X57 e58 W59
    have f60 : Old Z n0 h56 := f45.wr W59 ga
    have f61 : Exa Z h56 a "java/lang/String" := Exa.wr W59 f46
    have f62 : Fld Z h56 a "java/lang/String" "value" "[B" .null := Fld.other W59 f47 (Or.inr (slot_ne (t := (.array .byte)) (t' := .byte) (Or.inr (hw _ (List.mem_of_getElem? (i := 17) rfl))) (Or.inr (hw _ (List.mem_of_getElem? (i := 18) rfl))) (by decide) (by decide) (by decide)))
    have f63 : Ar Z h56 b .byte 2 (fun q => .int (own_u u0 u1 u2 q)) := A1.other W59 (Ne.symm nb)
    have z64 : n0 ≤ h56.size := by rw [Wr.size W59]; exact z49
    have f65 : Fld Z h56 a "java/lang/String" "coder" "B" (.int (1 : Int32)) := Fld.same W59 f48
    have N66 : Fr n0 _ := Fr.snoc X57 (Fr.app (Fr.nil _) N1_) ga
    show Go p e below _ (T55.setTop (mkF m 51 #[.val (.ref a), .val (.ref ca), .val (.int (0 : Int32)), .val (.int (1 : Int32)), .val .null, .val (.ref b)] []))
    refine Go.aloadN (pc' := 52) X57 hx hby d2_51 rfl rfl rfl ?_
    refine Go.aload (pc' := 54) X57 hx hby d2_52 rfl rfl rfl ?_
    refine Go.putF (pc' := 57) (ty := (.array .byte)) X57 hx hby hZ hown (hw _ (List.mem_of_getElem? (i := 21) rfl)) Via.refl e58 f62 f61 (Or.inr ⟨(hw _ (List.mem_of_getElem? (i := 17) rfl)), rfl, hnm⟩) (hw _ (List.mem_of_getElem? (i := 3) rfl)) (by decide) rfl rfl d2_54 rfl ?_
    intro T67 h68 X69 e70 W71
    have f72 : Old Z n0 h68 := f60.wr W71 ga
    have f73 : Exa Z h68 a "java/lang/String" := Exa.wr W71 f61
    have f74 : Fld Z h68 a "java/lang/String" "coder" "B" (.int (1 : Int32)) := Fld.other W71 f65 (Or.inr (slot_ne (t := .byte) (t' := (.array .byte)) (Or.inr (hw _ (List.mem_of_getElem? (i := 18) rfl))) (Or.inr (hw _ (List.mem_of_getElem? (i := 17) rfl))) (by decide) (by decide) (by decide)))
    have f75 : Ar Z h68 b .byte 2 (fun q => .int (own_u u0 u1 u2 q)) := f63.other W71 (Ne.symm nb)
    have z76 : n0 ≤ h68.size := by rw [Wr.size W71]; exact z64
    have f77 : Fld Z h68 a "java/lang/String" "value" "[B" (.ref b) := Fld.same W71 f62
    have N78 : Fr n0 _ := Fr.snoc X69 N66 ga
    show Go p e below _ (T67.setTop (mkF m 57 #[.val (.ref a), .val (.ref ca), .val (.int (0 : Int32)), .val (.int (1 : Int32)), .val .null, .val (.ref b)] []))
    exact Go.ret0 X69 hx hby hlk hret d2_57 (by decide) (by decide) ⟨rfl, N78, by rw [e70]; exact (((Keep.refl h0 [a]).trans K1 all0).wr W59 (Or.inl (List.mem_singleton.mpr rfl))).wr W71 (Or.inl (List.mem_singleton.mpr rfl)), by rw [e70]; exact ⟨b, f73, f77, Or.inr ⟨f74, f75⟩⟩⟩
theorem ef_1 (m : MethodId) (x0 : Addr) (x1 : Addr) : entryFrame m #[(.ref x0), (.ref x1)] 2 = mkF m 0 #[.val (.ref x0), .val (.ref x1)] [] := by first | (simp [entryFrame, mkF, argsToLocals, Value.category]; done) | rfl
set_option maxRecDepth 65536 in
set_option maxHeartbeats 40000000 in
theorem rmI1_1 (l : Launch) (Z : State) (a0 : Array Value) (hw : ∀ d ∈ tables_1, d.before a0 Z = true) (a : Addr) (ca : Addr) (h0 : Heap) (n0 : Nat) (kk : Int32) (sf : Value) (u0 u1 u2 : Int32) (O0 : Old Z n0 h0) (SS : own_S Z kk sf) (B0 : 0 ≤ u0.toInt ∧ u0.toInt ≤ 65535) (B1 : 0 ≤ u1.toInt ∧ u1.toInt ≤ 65535) (B2 : 0 ≤ u2.toInt ∧ u2.toInt ≤ 65535) (Z0 : n0 ≤ h0.size) (ga : n0 ≤ a) (E0 : Exa Z h0 a "java/lang/String") (F1 : Fld Z h0 a "java/lang/String" "value" "[B" .null) (F2 : Fld Z h0 a "java/lang/String" "coder" "B" (.int 0)) (A0 : Ar Z h0 ca .char 1 (fun q => .int (own_c u0 u1 u2 q))) :
    Con l Z (⟨"java/lang/String", "<init>", "([C)V"⟩ : MethodName) jdk_42_method_3_code 2 none [] ({ frames := 5, cells := 2, slots := 3, locals := 74 } : Room) #[(.ref a), (.ref ca)] h0 (fun v h L => v = none ∧ Fr n0 L ∧ Keep h0 h [a] ∧ own_str1 Z h a u0 u1 u2) := by
  refine Con.of (plainFor_of_name pn_String) ?_
  intro p e s m below meth c s₁ hx hby hml hown hnm hret hlk hZ X0 e0
  refine Go.cast (ef_1 m a ca) ?_
  replace hown : s.vm.findClass "java/lang/String" = some m.cls := hown
  refine Go.aloadN (pc' := 1) X0 hx hby d1_0 rfl rfl rfl ?_
  refine Go.aloadN (pc' := 2) X0 hx hby d1_1 rfl rfl rfl ?_
  refine Go.iconst (pc' := 3) X0 hx hby d1_2 rfl (v := (0 : Int32)) (by decide) ?_
  refine Go.aloadN (pc' := 4) X0 hx hby d1_3 rfl rfl rfl ?_
  refine Go.alen (pc' := 5) (zv := (1 : Int32)) X0 hx hby hZ e0 A0 d1_4 rfl (by decide) ?_
  refine Go.aconstNull (pc' := 6) X0 hx hby d1_5 rfl ?_
  refine Go.callI (pc' := 9) (a := a) (W := 0) (argsL := [(.ref ca), (.int (0 : Int32)), (.int (1 : Int32)), .null]) (rest := []) X0 hx hby rfl hZ hown (hw _ (List.mem_of_getElem? (i := 8) rfl)) (hw _ (List.mem_of_getElem? (i := 9) rfl)) (hw _ (List.mem_of_getElem? (i := 4) rfl)) (hw _ (List.mem_of_getElem? (i := 11) rfl)) (by decide) (rmI4_1 l Z a0 hw a ca 0 1 h0 n0 kk sf u0 u1 u2 O0 SS B0 B1 B2 Z0 ga rfl rfl E0 F1 F2 A0) e0 (by decide) (by decide) (by rw [hml]; rfl) pd_20 rfl rfl rfl (Nat.le_of_eq rfl) d1_6 rfl (by decide) (by decide) ?_
  rintro r1 T2 L3 X4 ⟨rfl, N1, K1, S1⟩
  show Go p e below _ (T2.setTop (mkF m 9 #[.val (.ref a), .val (.ref ca)] []))
  exact Go.ret0 X4 hx hby hlk hret d1_9 (by decide) (by decide) ⟨rfl, (Fr.app (Fr.nil _) N1), K1, S1⟩
set_option maxRecDepth 65536 in
set_option maxHeartbeats 40000000 in
theorem rmI4_2 (l : Launch) (Z : State) (a0 : Array Value) (hw : ∀ d ∈ tables_1, d.before a0 Z = true) (a : Addr) (ca : Addr) (x2 : Int32) (x3 : Int32) (h0 : Heap) (n0 : Nat) (kk : Int32) (sf : Value) (u0 u1 u2 : Int32) (O0 : Old Z n0 h0) (SS : own_S Z kk sf) (B0 : 0 ≤ u0.toInt ∧ u0.toInt ≤ 65535) (B1 : 0 ≤ u1.toInt ∧ u1.toInt ≤ 65535) (B2 : 0 ≤ u2.toInt ∧ u2.toInt ≤ 65535) (Z0 : n0 ≤ h0.size) (ga : n0 ≤ a) (h2 : x2 = 0) (h3 : x3 = 2) (E0 : Exa Z h0 a "java/lang/String") (F1 : Fld Z h0 a "java/lang/String" "value" "[B" .null) (F2 : Fld Z h0 a "java/lang/String" "coder" "B" (.int 0)) (A0 : Ar Z h0 ca .char 2 (fun q => .int (own_c u0 u1 u2 q))) :
    Con l Z (⟨"java/lang/String", "<init>", "([CIILjava/lang/Void;)V"⟩ : MethodName) jdk_42_method_149_code 6 none [] ({ frames := 4, cells := 2, slots := 6, locals := 57 } : Room) #[(.ref a), (.ref ca), (.int x2), (.int x3), .null] h0 (fun v h L => v = none ∧ Fr n0 L ∧ Keep h0 h [a] ∧ own_str2 Z h a u0 u1 u2) := by
  refine Con.of (plainFor_of_name pn_String) ?_
  intro p e s m below meth c s₁ hx hby hml hown hnm hret hlk hZ X0 e0
  refine Go.cast (ef_2 m a ca x2 x3) ?_
  replace hown : s.vm.findClass "java/lang/String" = some m.cls := hown
  subst h2 h3
  show Go p e below _ (s₁.setTop (mkF m 0 #[.val (.ref a), .val (.ref ca), .val (.int (0 : Int32)), .val (.int (2 : Int32)), .val .null, .unset] []))
  have S0_ : Sta Z h0 "java/lang/String" "COMPACT_STRINGS" "Z" (.int kk) := Sta.ext O0.2 SS.2.1
  refine Go.aloadN (pc' := 1) X0 hx hby d2_0 rfl rfl rfl ?_
  refine Go.initO (pc' := 4) (W := 0) X0 hx hby hZ hown (hw _ (List.mem_of_getElem? (i := 12) rfl)) (hw _ (List.mem_of_getElem? (i := 13) rfl)) (hw _ (List.mem_of_getElem? (i := 14) rfl)) e0 (by rw [hml]; rfl) d2_1 rfl (by decide) (Nat.le_of_eq rfl) (by decide) ?_
  intro T1 X2 e3
  refine Go.iloadN (pc' := 5) X2 hx hby d2_4 rfl rfl ?_
  refine Go.ifY (pc' := 27) X2 hx hby d2_5 (by decide) (by decide) (show (2 : Int32) ≠ 0 from by decide) ?_
  refine Go.getSt (pc' := 30) X2 hx hby hZ hown (hw _ (List.mem_of_getElem? (i := 42) rfl)) Via.refl e3 S0_ d2_27 rfl ?_
  intro T4 X5 e6
  refine Go.ifN (pc' := 33) X5 hx hby d2_30 rfl (show ¬ (kk = 0) from SS.1) ?_
  refine Go.aloadN (pc' := 34) X5 hx hby d2_33 rfl rfl rfl ?_
  refine Go.iloadN (pc' := 35) X5 hx hby d2_34 rfl rfl ?_
  refine Go.iloadN (pc' := 36) X5 hx hby d2_35 rfl rfl ?_
  refine Go.callS (pc' := 39) (W := 0) (argsL := [(.ref ca), (.int (0 : Int32)), (.int (2 : Int32))]) (rest := []) X5 hx hby hZ hown (hw _ (List.mem_of_getElem? (i := 67) rfl)) (hw _ (List.mem_of_getElem? (i := 68) rfl)) (hw _ (List.mem_of_getElem? (i := 69) rfl)) (hw _ (List.mem_of_getElem? (i := 70) rfl)) (by decide) (rmC3_2 l Z a0 hw ca 0 2 h0 n0 kk sf u0 u1 u2 O0 SS B0 B1 B2 Z0 rfl rfl A0) e6 (by decide) (by decide) (by rw [hml]; rfl) pd_19 rfl rfl rfl (Nat.le_of_eq rfl) d2_36 rfl (by decide) (by decide) ?_
  rintro r7 T8 L9 X10 ⟨b, rfl, gf, N1_, K1, (⟨t0, A1⟩ | A1)⟩
  ·
    have nb : a ≠ b := Nat.ne_of_lt (Nat.lt_of_lt_of_le E0.lt gf)
    have f11 : Old Z n0 T8.heap := O0.keep K1 all0
    have f12 : Exa Z T8.heap a "java/lang/String" := E0.keep K1
    have f13 : Fld Z T8.heap a "java/lang/String" "value" "[B" .null := F1.keep K1 nin0
    have f14 : Fld Z T8.heap a "java/lang/String" "coder" "B" (.int 0) := F2.keep K1 nin0
    have z15 : n0 ≤ T8.heap.size := Nat.le_trans Z0 K1.1
    show Go p e below _ (T8.setTop (mkF m 39 #[.val (.ref a), .val (.ref ca), .val (.int (0 : Int32)), .val (.int (2 : Int32)), .val .null, .unset] [(.ref b)]))
    refine Go.astore (Ls' := #[.val (.ref a), .val (.ref ca), .val (.int (0 : Int32)), .val (.int (2 : Int32)), .val .null, .val (.ref b)]) (pc' := 41) X10 hx hby d2_39 rfl rfl rfl ?_
    refine Go.aloadN (pc' := 42) X10 hx hby d2_41 rfl rfl rfl ?_
    refine Go.aload (pc' := 44) X10 hx hby d2_42 rfl rfl rfl ?_
    refine Go.iloadN (pc' := 45) X10 hx hby d2_44 rfl rfl ?_
    refine Go.callS (pc' := 48) (W := 1) (argsL := [(.ref b), (.int (2 : Int32))]) (rest := [(.ref a)]) X10 hx hby hZ hown (hw _ (List.mem_of_getElem? (i := 74) rfl)) (hw _ (List.mem_of_getElem? (i := 75) rfl)) (hw _ (List.mem_of_getElem? (i := 69) rfl)) (hw _ (List.mem_of_getElem? (i := 76) rfl)) (by decide) (rmCF2_0 l Z a0 hw b 2 T8.heap _ rfl A1) rfl (by decide) (by decide) (by rw [hml]; rfl) pd_14 rfl rfl rfl (Nat.le_of_eq rfl) d2_45 rfl (by decide) (by decide) ?_
    rintro r17 T18 L19 X20 ⟨rfl, rfl, e16⟩
    rw [List.append_nil] at X20
    show Go p e below _ (T18.setTop (mkF m 48 #[.val (.ref a), .val (.ref ca), .val (.int (0 : Int32)), .val (.int (2 : Int32)), .val .null, .val (.ref b)] [(.int (0 : Int32)), (.ref a)]))
    refine Go.putF (pc' := 51) (ty := .byte) X20 hx hby hZ hown (hw _ (List.mem_of_getElem? (i := 22) rfl)) Via.refl e16 f14 f12 (Or.inr ⟨(hw _ (List.mem_of_getElem? (i := 18) rfl)), rfl, hnm⟩) (hw _ (List.mem_of_getElem? (i := 3) rfl)) (by decide) rfl rfl d2_48 rfl ?_
    intro T21 h22 X23 e24 W25
    have f26 : Old Z n0 h22 := f11.wr W25 ga
    have f27 : Exa Z h22 a "java/lang/String" := Exa.wr W25 f12
    have f28 : Fld Z h22 a "java/lang/String" "value" "[B" .null := Fld.other W25 f13 (Or.inr (slot_ne (t := (.array .byte)) (t' := .byte) (Or.inr (hw _ (List.mem_of_getElem? (i := 17) rfl))) (Or.inr (hw _ (List.mem_of_getElem? (i := 18) rfl))) (by decide) (by decide) (by decide)))
    have f29 : Ar Z h22 b .byte 2 (fun q => .int (own_lat (own_c u0 u1 u2 q))) := A1.other W25 (Ne.symm nb)
    have z30 : n0 ≤ h22.size := by rw [Wr.size W25]; exact z15
    have f31 : Fld Z h22 a "java/lang/String" "coder" "B" (.int (0 : Int32)) := Fld.same W25 f14
    have N32 : Fr n0 _ := Fr.snoc X23 (Fr.app (Fr.nil _) N1_) ga
    show Go p e below _ (T21.setTop (mkF m 51 #[.val (.ref a), .val (.ref ca), .val (.int (0 : Int32)), .val (.int (2 : Int32)), .val .null, .val (.ref b)] []))
    refine Go.aloadN (pc' := 52) X23 hx hby d2_51 rfl rfl rfl ?_
    refine Go.aload (pc' := 54) X23 hx hby d2_52 rfl rfl rfl ?_
    refine Go.putF (pc' := 57) (ty := (.array .byte)) X23 hx hby hZ hown (hw _ (List.mem_of_getElem? (i := 21) rfl)) Via.refl e24 f28 f27 (Or.inr ⟨(hw _ (List.mem_of_getElem? (i := 17) rfl)), rfl, hnm⟩) (hw _ (List.mem_of_getElem? (i := 3) rfl)) (by decide) rfl rfl d2_54 rfl ?_
    intro T33 h34 X35 e36 W37
    have f38 : Old Z n0 h34 := f26.wr W37 ga
    have f39 : Exa Z h34 a "java/lang/String" := Exa.wr W37 f27
    have f40 : Fld Z h34 a "java/lang/String" "coder" "B" (.int (0 : Int32)) := Fld.other W37 f31 (Or.inr (slot_ne (t := .byte) (t' := (.array .byte)) (Or.inr (hw _ (List.mem_of_getElem? (i := 18) rfl))) (Or.inr (hw _ (List.mem_of_getElem? (i := 17) rfl))) (by decide) (by decide) (by decide)))
    have f41 : Ar Z h34 b .byte 2 (fun q => .int (own_lat (own_c u0 u1 u2 q))) := f29.other W37 (Ne.symm nb)
    have z42 : n0 ≤ h34.size := by rw [Wr.size W37]; exact z30
    have f43 : Fld Z h34 a "java/lang/String" "value" "[B" (.ref b) := Fld.same W37 f28
    have N44 : Fr n0 _ := Fr.snoc X35 N32 ga
    show Go p e below _ (T33.setTop (mkF m 57 #[.val (.ref a), .val (.ref ca), .val (.int (0 : Int32)), .val (.int (2 : Int32)), .val .null, .val (.ref b)] []))
    exact Go.ret0 X35 hx hby hlk hret d2_57 (by decide) (by decide) ⟨rfl, N44, by rw [e36]; exact (((Keep.refl h0 [a]).trans K1 all0).wr W25 (Or.inl (List.mem_singleton.mpr rfl))).wr W37 (Or.inl (List.mem_singleton.mpr rfl)), by rw [e36]; exact ⟨b, f39, f43, Or.inl ⟨f40, t0, f41⟩⟩⟩
  ·
    have nb : a ≠ b := Nat.ne_of_lt (Nat.lt_of_lt_of_le E0.lt gf)
    have f45 : Old Z n0 T8.heap := O0.keep K1 all0
    have f46 : Exa Z T8.heap a "java/lang/String" := E0.keep K1
    have f47 : Fld Z T8.heap a "java/lang/String" "value" "[B" .null := F1.keep K1 nin0
    have f48 : Fld Z T8.heap a "java/lang/String" "coder" "B" (.int 0) := F2.keep K1 nin0
    have z49 : n0 ≤ T8.heap.size := Nat.le_trans Z0 K1.1
    show Go p e below _ (T8.setTop (mkF m 39 #[.val (.ref a), .val (.ref ca), .val (.int (0 : Int32)), .val (.int (2 : Int32)), .val .null, .unset] [(.ref b)]))
    refine Go.astore (Ls' := #[.val (.ref a), .val (.ref ca), .val (.int (0 : Int32)), .val (.int (2 : Int32)), .val .null, .val (.ref b)]) (pc' := 41) X10 hx hby d2_39 rfl rfl rfl ?_
    refine Go.aloadN (pc' := 42) X10 hx hby d2_41 rfl rfl rfl ?_
    refine Go.aload (pc' := 44) X10 hx hby d2_42 rfl rfl rfl ?_
    refine Go.iloadN (pc' := 45) X10 hx hby d2_44 rfl rfl ?_
    refine Go.callS (pc' := 48) (W := 1) (argsL := [(.ref b), (.int (2 : Int32))]) (rest := [(.ref a)]) X10 hx hby hZ hown (hw _ (List.mem_of_getElem? (i := 74) rfl)) (hw _ (List.mem_of_getElem? (i := 75) rfl)) (hw _ (List.mem_of_getElem? (i := 69) rfl)) (hw _ (List.mem_of_getElem? (i := 76) rfl)) (by decide) (rmCF2_1 l Z a0 hw b 2 T8.heap _ rfl A1) rfl (by decide) (by decide) (by rw [hml]; rfl) pd_14 rfl rfl rfl (Nat.le_of_eq rfl) d2_45 rfl (by decide) (by decide) ?_
    rintro r51 T52 L53 X54 ⟨rfl, rfl, e50⟩
    rw [List.append_nil] at X54
    show Go p e below _ (T52.setTop (mkF m 48 #[.val (.ref a), .val (.ref ca), .val (.int (0 : Int32)), .val (.int (2 : Int32)), .val .null, .val (.ref b)] [(.int (1 : Int32)), (.ref a)]))
    refine Go.putF (pc' := 51) (ty := .byte) X54 hx hby hZ hown (hw _ (List.mem_of_getElem? (i := 22) rfl)) Via.refl e50 f48 f46 (Or.inr ⟨(hw _ (List.mem_of_getElem? (i := 18) rfl)), rfl, hnm⟩) (hw _ (List.mem_of_getElem? (i := 3) rfl)) (by decide) rfl rfl d2_48 rfl ?_
    intro T55 h56 X57 e58 W59
    have f60 : Old Z n0 h56 := f45.wr W59 ga
    have f61 : Exa Z h56 a "java/lang/String" := Exa.wr W59 f46
    have f62 : Fld Z h56 a "java/lang/String" "value" "[B" .null := Fld.other W59 f47 (Or.inr (slot_ne (t := (.array .byte)) (t' := .byte) (Or.inr (hw _ (List.mem_of_getElem? (i := 17) rfl))) (Or.inr (hw _ (List.mem_of_getElem? (i := 18) rfl))) (by decide) (by decide) (by decide)))
    have f63 : Ar Z h56 b .byte 4 (fun q => .int (own_u u0 u1 u2 q)) := A1.other W59 (Ne.symm nb)
    have z64 : n0 ≤ h56.size := by rw [Wr.size W59]; exact z49
    have f65 : Fld Z h56 a "java/lang/String" "coder" "B" (.int (1 : Int32)) := Fld.same W59 f48
    have N66 : Fr n0 _ := Fr.snoc X57 (Fr.app (Fr.nil _) N1_) ga
    show Go p e below _ (T55.setTop (mkF m 51 #[.val (.ref a), .val (.ref ca), .val (.int (0 : Int32)), .val (.int (2 : Int32)), .val .null, .val (.ref b)] []))
    refine Go.aloadN (pc' := 52) X57 hx hby d2_51 rfl rfl rfl ?_
    refine Go.aload (pc' := 54) X57 hx hby d2_52 rfl rfl rfl ?_
    refine Go.putF (pc' := 57) (ty := (.array .byte)) X57 hx hby hZ hown (hw _ (List.mem_of_getElem? (i := 21) rfl)) Via.refl e58 f62 f61 (Or.inr ⟨(hw _ (List.mem_of_getElem? (i := 17) rfl)), rfl, hnm⟩) (hw _ (List.mem_of_getElem? (i := 3) rfl)) (by decide) rfl rfl d2_54 rfl ?_
    intro T67 h68 X69 e70 W71
    have f72 : Old Z n0 h68 := f60.wr W71 ga
    have f73 : Exa Z h68 a "java/lang/String" := Exa.wr W71 f61
    have f74 : Fld Z h68 a "java/lang/String" "coder" "B" (.int (1 : Int32)) := Fld.other W71 f65 (Or.inr (slot_ne (t := .byte) (t' := (.array .byte)) (Or.inr (hw _ (List.mem_of_getElem? (i := 18) rfl))) (Or.inr (hw _ (List.mem_of_getElem? (i := 17) rfl))) (by decide) (by decide) (by decide)))
    have f75 : Ar Z h68 b .byte 4 (fun q => .int (own_u u0 u1 u2 q)) := f63.other W71 (Ne.symm nb)
    have z76 : n0 ≤ h68.size := by rw [Wr.size W71]; exact z64
    have f77 : Fld Z h68 a "java/lang/String" "value" "[B" (.ref b) := Fld.same W71 f62
    have N78 : Fr n0 _ := Fr.snoc X69 N66 ga
    show Go p e below _ (T67.setTop (mkF m 57 #[.val (.ref a), .val (.ref ca), .val (.int (0 : Int32)), .val (.int (2 : Int32)), .val .null, .val (.ref b)] []))
    exact Go.ret0 X69 hx hby hlk hret d2_57 (by decide) (by decide) ⟨rfl, N78, by rw [e70]; exact (((Keep.refl h0 [a]).trans K1 all0).wr W59 (Or.inl (List.mem_singleton.mpr rfl))).wr W71 (Or.inl (List.mem_singleton.mpr rfl)), by rw [e70]; exact ⟨b, f73, f77, Or.inr ⟨f74, f75⟩⟩⟩
set_option maxRecDepth 65536 in
set_option maxHeartbeats 40000000 in
theorem rmI1_2 (l : Launch) (Z : State) (a0 : Array Value) (hw : ∀ d ∈ tables_1, d.before a0 Z = true) (a : Addr) (ca : Addr) (h0 : Heap) (n0 : Nat) (kk : Int32) (sf : Value) (u0 u1 u2 : Int32) (O0 : Old Z n0 h0) (SS : own_S Z kk sf) (B0 : 0 ≤ u0.toInt ∧ u0.toInt ≤ 65535) (B1 : 0 ≤ u1.toInt ∧ u1.toInt ≤ 65535) (B2 : 0 ≤ u2.toInt ∧ u2.toInt ≤ 65535) (Z0 : n0 ≤ h0.size) (ga : n0 ≤ a) (E0 : Exa Z h0 a "java/lang/String") (F1 : Fld Z h0 a "java/lang/String" "value" "[B" .null) (F2 : Fld Z h0 a "java/lang/String" "coder" "B" (.int 0)) (A0 : Ar Z h0 ca .char 2 (fun q => .int (own_c u0 u1 u2 q))) :
    Con l Z (⟨"java/lang/String", "<init>", "([C)V"⟩ : MethodName) jdk_42_method_3_code 2 none [] ({ frames := 5, cells := 2, slots := 6, locals := 74 } : Room) #[(.ref a), (.ref ca)] h0 (fun v h L => v = none ∧ Fr n0 L ∧ Keep h0 h [a] ∧ own_str2 Z h a u0 u1 u2) := by
  refine Con.of (plainFor_of_name pn_String) ?_
  intro p e s m below meth c s₁ hx hby hml hown hnm hret hlk hZ X0 e0
  refine Go.cast (ef_1 m a ca) ?_
  replace hown : s.vm.findClass "java/lang/String" = some m.cls := hown
  refine Go.aloadN (pc' := 1) X0 hx hby d1_0 rfl rfl rfl ?_
  refine Go.aloadN (pc' := 2) X0 hx hby d1_1 rfl rfl rfl ?_
  refine Go.iconst (pc' := 3) X0 hx hby d1_2 rfl (v := (0 : Int32)) (by decide) ?_
  refine Go.aloadN (pc' := 4) X0 hx hby d1_3 rfl rfl rfl ?_
  refine Go.alen (pc' := 5) (zv := (2 : Int32)) X0 hx hby hZ e0 A0 d1_4 rfl (by decide) ?_
  refine Go.aconstNull (pc' := 6) X0 hx hby d1_5 rfl ?_
  refine Go.callI (pc' := 9) (a := a) (W := 0) (argsL := [(.ref ca), (.int (0 : Int32)), (.int (2 : Int32)), .null]) (rest := []) X0 hx hby rfl hZ hown (hw _ (List.mem_of_getElem? (i := 8) rfl)) (hw _ (List.mem_of_getElem? (i := 9) rfl)) (hw _ (List.mem_of_getElem? (i := 4) rfl)) (hw _ (List.mem_of_getElem? (i := 11) rfl)) (by decide) (rmI4_2 l Z a0 hw a ca 0 2 h0 n0 kk sf u0 u1 u2 O0 SS B0 B1 B2 Z0 ga rfl rfl E0 F1 F2 A0) e0 (by decide) (by decide) (by rw [hml]; rfl) pd_20 rfl rfl rfl (Nat.le_of_eq rfl) d1_6 rfl (by decide) (by decide) ?_
  rintro r1 T2 L3 X4 ⟨rfl, N1, K1, S1⟩
  show Go p e below _ (T2.setTop (mkF m 9 #[.val (.ref a), .val (.ref ca)] []))
  exact Go.ret0 X4 hx hby hlk hret d1_9 (by decide) (by decide) ⟨rfl, (Fr.app (Fr.nil _) N1), K1, S1⟩
set_option maxRecDepth 65536 in
set_option maxHeartbeats 40000000 in
theorem rmI4_3 (l : Launch) (Z : State) (a0 : Array Value) (hw : ∀ d ∈ tables_1, d.before a0 Z = true) (a : Addr) (ca : Addr) (x2 : Int32) (x3 : Int32) (h0 : Heap) (n0 : Nat) (kk : Int32) (sf : Value) (u0 u1 u2 : Int32) (O0 : Old Z n0 h0) (SS : own_S Z kk sf) (B0 : 0 ≤ u0.toInt ∧ u0.toInt ≤ 65535) (B1 : 0 ≤ u1.toInt ∧ u1.toInt ≤ 65535) (B2 : 0 ≤ u2.toInt ∧ u2.toInt ≤ 65535) (Z0 : n0 ≤ h0.size) (ga : n0 ≤ a) (h2 : x2 = 0) (h3 : x3 = 3) (E0 : Exa Z h0 a "java/lang/String") (F1 : Fld Z h0 a "java/lang/String" "value" "[B" .null) (F2 : Fld Z h0 a "java/lang/String" "coder" "B" (.int 0)) (A0 : Ar Z h0 ca .char 3 (fun q => .int (own_c u0 u1 u2 q))) :
    Con l Z (⟨"java/lang/String", "<init>", "([CIILjava/lang/Void;)V"⟩ : MethodName) jdk_42_method_149_code 6 none [] ({ frames := 4, cells := 2, slots := 9, locals := 57 } : Room) #[(.ref a), (.ref ca), (.int x2), (.int x3), .null] h0 (fun v h L => v = none ∧ Fr n0 L ∧ Keep h0 h [a] ∧ own_str3 Z h a u0 u1 u2) := by
  refine Con.of (plainFor_of_name pn_String) ?_
  intro p e s m below meth c s₁ hx hby hml hown hnm hret hlk hZ X0 e0
  refine Go.cast (ef_2 m a ca x2 x3) ?_
  replace hown : s.vm.findClass "java/lang/String" = some m.cls := hown
  subst h2 h3
  show Go p e below _ (s₁.setTop (mkF m 0 #[.val (.ref a), .val (.ref ca), .val (.int (0 : Int32)), .val (.int (3 : Int32)), .val .null, .unset] []))
  have S0_ : Sta Z h0 "java/lang/String" "COMPACT_STRINGS" "Z" (.int kk) := Sta.ext O0.2 SS.2.1
  refine Go.aloadN (pc' := 1) X0 hx hby d2_0 rfl rfl rfl ?_
  refine Go.initO (pc' := 4) (W := 0) X0 hx hby hZ hown (hw _ (List.mem_of_getElem? (i := 12) rfl)) (hw _ (List.mem_of_getElem? (i := 13) rfl)) (hw _ (List.mem_of_getElem? (i := 14) rfl)) e0 (by rw [hml]; rfl) d2_1 rfl (by decide) (Nat.le_of_eq rfl) (by decide) ?_
  intro T1 X2 e3
  refine Go.iloadN (pc' := 5) X2 hx hby d2_4 rfl rfl ?_
  refine Go.ifY (pc' := 27) X2 hx hby d2_5 (by decide) (by decide) (show (3 : Int32) ≠ 0 from by decide) ?_
  refine Go.getSt (pc' := 30) X2 hx hby hZ hown (hw _ (List.mem_of_getElem? (i := 42) rfl)) Via.refl e3 S0_ d2_27 rfl ?_
  intro T4 X5 e6
  refine Go.ifN (pc' := 33) X5 hx hby d2_30 rfl (show ¬ (kk = 0) from SS.1) ?_
  refine Go.aloadN (pc' := 34) X5 hx hby d2_33 rfl rfl rfl ?_
  refine Go.iloadN (pc' := 35) X5 hx hby d2_34 rfl rfl ?_
  refine Go.iloadN (pc' := 36) X5 hx hby d2_35 rfl rfl ?_
  refine Go.callS (pc' := 39) (W := 0) (argsL := [(.ref ca), (.int (0 : Int32)), (.int (3 : Int32))]) (rest := []) X5 hx hby hZ hown (hw _ (List.mem_of_getElem? (i := 67) rfl)) (hw _ (List.mem_of_getElem? (i := 68) rfl)) (hw _ (List.mem_of_getElem? (i := 69) rfl)) (hw _ (List.mem_of_getElem? (i := 70) rfl)) (by decide) (rmC3_3 l Z a0 hw ca 0 3 h0 n0 kk sf u0 u1 u2 O0 SS B0 B1 B2 Z0 rfl rfl A0) e6 (by decide) (by decide) (by rw [hml]; rfl) pd_19 rfl rfl rfl (Nat.le_of_eq rfl) d2_36 rfl (by decide) (by decide) ?_
  rintro r7 T8 L9 X10 ⟨b, rfl, gf, N1_, K1, (⟨t0, A1⟩ | A1)⟩
  ·
    have nb : a ≠ b := Nat.ne_of_lt (Nat.lt_of_lt_of_le E0.lt gf)
    have f11 : Old Z n0 T8.heap := O0.keep K1 all0
    have f12 : Exa Z T8.heap a "java/lang/String" := E0.keep K1
    have f13 : Fld Z T8.heap a "java/lang/String" "value" "[B" .null := F1.keep K1 nin0
    have f14 : Fld Z T8.heap a "java/lang/String" "coder" "B" (.int 0) := F2.keep K1 nin0
    have z15 : n0 ≤ T8.heap.size := Nat.le_trans Z0 K1.1
    show Go p e below _ (T8.setTop (mkF m 39 #[.val (.ref a), .val (.ref ca), .val (.int (0 : Int32)), .val (.int (3 : Int32)), .val .null, .unset] [(.ref b)]))
    refine Go.astore (Ls' := #[.val (.ref a), .val (.ref ca), .val (.int (0 : Int32)), .val (.int (3 : Int32)), .val .null, .val (.ref b)]) (pc' := 41) X10 hx hby d2_39 rfl rfl rfl ?_
    refine Go.aloadN (pc' := 42) X10 hx hby d2_41 rfl rfl rfl ?_
    refine Go.aload (pc' := 44) X10 hx hby d2_42 rfl rfl rfl ?_
    refine Go.iloadN (pc' := 45) X10 hx hby d2_44 rfl rfl ?_
    refine Go.callS (pc' := 48) (W := 1) (argsL := [(.ref b), (.int (3 : Int32))]) (rest := [(.ref a)]) X10 hx hby hZ hown (hw _ (List.mem_of_getElem? (i := 74) rfl)) (hw _ (List.mem_of_getElem? (i := 75) rfl)) (hw _ (List.mem_of_getElem? (i := 69) rfl)) (hw _ (List.mem_of_getElem? (i := 76) rfl)) (by decide) (rmCF3_0 l Z a0 hw b 3 T8.heap _ rfl A1) rfl (by decide) (by decide) (by rw [hml]; rfl) pd_14 rfl rfl rfl (Nat.le_of_eq rfl) d2_45 rfl (by decide) (by decide) ?_
    rintro r17 T18 L19 X20 ⟨rfl, rfl, e16⟩
    rw [List.append_nil] at X20
    show Go p e below _ (T18.setTop (mkF m 48 #[.val (.ref a), .val (.ref ca), .val (.int (0 : Int32)), .val (.int (3 : Int32)), .val .null, .val (.ref b)] [(.int (0 : Int32)), (.ref a)]))
    refine Go.putF (pc' := 51) (ty := .byte) X20 hx hby hZ hown (hw _ (List.mem_of_getElem? (i := 22) rfl)) Via.refl e16 f14 f12 (Or.inr ⟨(hw _ (List.mem_of_getElem? (i := 18) rfl)), rfl, hnm⟩) (hw _ (List.mem_of_getElem? (i := 3) rfl)) (by decide) rfl rfl d2_48 rfl ?_
    intro T21 h22 X23 e24 W25
    have f26 : Old Z n0 h22 := f11.wr W25 ga
    have f27 : Exa Z h22 a "java/lang/String" := Exa.wr W25 f12
    have f28 : Fld Z h22 a "java/lang/String" "value" "[B" .null := Fld.other W25 f13 (Or.inr (slot_ne (t := (.array .byte)) (t' := .byte) (Or.inr (hw _ (List.mem_of_getElem? (i := 17) rfl))) (Or.inr (hw _ (List.mem_of_getElem? (i := 18) rfl))) (by decide) (by decide) (by decide)))
    have f29 : Ar Z h22 b .byte 3 (fun q => .int (own_lat (own_c u0 u1 u2 q))) := A1.other W25 (Ne.symm nb)
    have z30 : n0 ≤ h22.size := by rw [Wr.size W25]; exact z15
    have f31 : Fld Z h22 a "java/lang/String" "coder" "B" (.int (0 : Int32)) := Fld.same W25 f14
    have N32 : Fr n0 _ := Fr.snoc X23 (Fr.app (Fr.nil _) N1_) ga
    show Go p e below _ (T21.setTop (mkF m 51 #[.val (.ref a), .val (.ref ca), .val (.int (0 : Int32)), .val (.int (3 : Int32)), .val .null, .val (.ref b)] []))
    refine Go.aloadN (pc' := 52) X23 hx hby d2_51 rfl rfl rfl ?_
    refine Go.aload (pc' := 54) X23 hx hby d2_52 rfl rfl rfl ?_
    refine Go.putF (pc' := 57) (ty := (.array .byte)) X23 hx hby hZ hown (hw _ (List.mem_of_getElem? (i := 21) rfl)) Via.refl e24 f28 f27 (Or.inr ⟨(hw _ (List.mem_of_getElem? (i := 17) rfl)), rfl, hnm⟩) (hw _ (List.mem_of_getElem? (i := 3) rfl)) (by decide) rfl rfl d2_54 rfl ?_
    intro T33 h34 X35 e36 W37
    have f38 : Old Z n0 h34 := f26.wr W37 ga
    have f39 : Exa Z h34 a "java/lang/String" := Exa.wr W37 f27
    have f40 : Fld Z h34 a "java/lang/String" "coder" "B" (.int (0 : Int32)) := Fld.other W37 f31 (Or.inr (slot_ne (t := .byte) (t' := (.array .byte)) (Or.inr (hw _ (List.mem_of_getElem? (i := 18) rfl))) (Or.inr (hw _ (List.mem_of_getElem? (i := 17) rfl))) (by decide) (by decide) (by decide)))
    have f41 : Ar Z h34 b .byte 3 (fun q => .int (own_lat (own_c u0 u1 u2 q))) := f29.other W37 (Ne.symm nb)
    have z42 : n0 ≤ h34.size := by rw [Wr.size W37]; exact z30
    have f43 : Fld Z h34 a "java/lang/String" "value" "[B" (.ref b) := Fld.same W37 f28
    have N44 : Fr n0 _ := Fr.snoc X35 N32 ga
    show Go p e below _ (T33.setTop (mkF m 57 #[.val (.ref a), .val (.ref ca), .val (.int (0 : Int32)), .val (.int (3 : Int32)), .val .null, .val (.ref b)] []))
    exact Go.ret0 X35 hx hby hlk hret d2_57 (by decide) (by decide) ⟨rfl, N44, by rw [e36]; exact (((Keep.refl h0 [a]).trans K1 all0).wr W25 (Or.inl (List.mem_singleton.mpr rfl))).wr W37 (Or.inl (List.mem_singleton.mpr rfl)), by rw [e36]; exact ⟨b, f39, f43, Or.inl ⟨f40, t0, f41⟩⟩⟩
  ·
    have nb : a ≠ b := Nat.ne_of_lt (Nat.lt_of_lt_of_le E0.lt gf)
    have f45 : Old Z n0 T8.heap := O0.keep K1 all0
    have f46 : Exa Z T8.heap a "java/lang/String" := E0.keep K1
    have f47 : Fld Z T8.heap a "java/lang/String" "value" "[B" .null := F1.keep K1 nin0
    have f48 : Fld Z T8.heap a "java/lang/String" "coder" "B" (.int 0) := F2.keep K1 nin0
    have z49 : n0 ≤ T8.heap.size := Nat.le_trans Z0 K1.1
    show Go p e below _ (T8.setTop (mkF m 39 #[.val (.ref a), .val (.ref ca), .val (.int (0 : Int32)), .val (.int (3 : Int32)), .val .null, .unset] [(.ref b)]))
    refine Go.astore (Ls' := #[.val (.ref a), .val (.ref ca), .val (.int (0 : Int32)), .val (.int (3 : Int32)), .val .null, .val (.ref b)]) (pc' := 41) X10 hx hby d2_39 rfl rfl rfl ?_
    refine Go.aloadN (pc' := 42) X10 hx hby d2_41 rfl rfl rfl ?_
    refine Go.aload (pc' := 44) X10 hx hby d2_42 rfl rfl rfl ?_
    refine Go.iloadN (pc' := 45) X10 hx hby d2_44 rfl rfl ?_
    refine Go.callS (pc' := 48) (W := 1) (argsL := [(.ref b), (.int (3 : Int32))]) (rest := [(.ref a)]) X10 hx hby hZ hown (hw _ (List.mem_of_getElem? (i := 74) rfl)) (hw _ (List.mem_of_getElem? (i := 75) rfl)) (hw _ (List.mem_of_getElem? (i := 69) rfl)) (hw _ (List.mem_of_getElem? (i := 76) rfl)) (by decide) (rmCF3_1 l Z a0 hw b 3 T8.heap _ rfl A1) rfl (by decide) (by decide) (by rw [hml]; rfl) pd_14 rfl rfl rfl (Nat.le_of_eq rfl) d2_45 rfl (by decide) (by decide) ?_
    rintro r51 T52 L53 X54 ⟨rfl, rfl, e50⟩
    rw [List.append_nil] at X54
    show Go p e below _ (T52.setTop (mkF m 48 #[.val (.ref a), .val (.ref ca), .val (.int (0 : Int32)), .val (.int (3 : Int32)), .val .null, .val (.ref b)] [(.int (1 : Int32)), (.ref a)]))
    refine Go.putF (pc' := 51) (ty := .byte) X54 hx hby hZ hown (hw _ (List.mem_of_getElem? (i := 22) rfl)) Via.refl e50 f48 f46 (Or.inr ⟨(hw _ (List.mem_of_getElem? (i := 18) rfl)), rfl, hnm⟩) (hw _ (List.mem_of_getElem? (i := 3) rfl)) (by decide) rfl rfl d2_48 rfl ?_
    intro T55 h56 X57 e58 W59
    have f60 : Old Z n0 h56 := f45.wr W59 ga
    have f61 : Exa Z h56 a "java/lang/String" := Exa.wr W59 f46
    have f62 : Fld Z h56 a "java/lang/String" "value" "[B" .null := Fld.other W59 f47 (Or.inr (slot_ne (t := (.array .byte)) (t' := .byte) (Or.inr (hw _ (List.mem_of_getElem? (i := 17) rfl))) (Or.inr (hw _ (List.mem_of_getElem? (i := 18) rfl))) (by decide) (by decide) (by decide)))
    have f63 : Ar Z h56 b .byte 6 (fun q => .int (own_u u0 u1 u2 q)) := A1.other W59 (Ne.symm nb)
    have z64 : n0 ≤ h56.size := by rw [Wr.size W59]; exact z49
    have f65 : Fld Z h56 a "java/lang/String" "coder" "B" (.int (1 : Int32)) := Fld.same W59 f48
    have N66 : Fr n0 _ := Fr.snoc X57 (Fr.app (Fr.nil _) N1_) ga
    show Go p e below _ (T55.setTop (mkF m 51 #[.val (.ref a), .val (.ref ca), .val (.int (0 : Int32)), .val (.int (3 : Int32)), .val .null, .val (.ref b)] []))
    refine Go.aloadN (pc' := 52) X57 hx hby d2_51 rfl rfl rfl ?_
    refine Go.aload (pc' := 54) X57 hx hby d2_52 rfl rfl rfl ?_
    refine Go.putF (pc' := 57) (ty := (.array .byte)) X57 hx hby hZ hown (hw _ (List.mem_of_getElem? (i := 21) rfl)) Via.refl e58 f62 f61 (Or.inr ⟨(hw _ (List.mem_of_getElem? (i := 17) rfl)), rfl, hnm⟩) (hw _ (List.mem_of_getElem? (i := 3) rfl)) (by decide) rfl rfl d2_54 rfl ?_
    intro T67 h68 X69 e70 W71
    have f72 : Old Z n0 h68 := f60.wr W71 ga
    have f73 : Exa Z h68 a "java/lang/String" := Exa.wr W71 f61
    have f74 : Fld Z h68 a "java/lang/String" "coder" "B" (.int (1 : Int32)) := Fld.other W71 f65 (Or.inr (slot_ne (t := .byte) (t' := (.array .byte)) (Or.inr (hw _ (List.mem_of_getElem? (i := 18) rfl))) (Or.inr (hw _ (List.mem_of_getElem? (i := 17) rfl))) (by decide) (by decide) (by decide)))
    have f75 : Ar Z h68 b .byte 6 (fun q => .int (own_u u0 u1 u2 q)) := f63.other W71 (Ne.symm nb)
    have z76 : n0 ≤ h68.size := by rw [Wr.size W71]; exact z64
    have f77 : Fld Z h68 a "java/lang/String" "value" "[B" (.ref b) := Fld.same W71 f62
    have N78 : Fr n0 _ := Fr.snoc X69 N66 ga
    show Go p e below _ (T67.setTop (mkF m 57 #[.val (.ref a), .val (.ref ca), .val (.int (0 : Int32)), .val (.int (3 : Int32)), .val .null, .val (.ref b)] []))
    exact Go.ret0 X69 hx hby hlk hret d2_57 (by decide) (by decide) ⟨rfl, N78, by rw [e70]; exact (((Keep.refl h0 [a]).trans K1 all0).wr W59 (Or.inl (List.mem_singleton.mpr rfl))).wr W71 (Or.inl (List.mem_singleton.mpr rfl)), by rw [e70]; exact ⟨b, f73, f77, Or.inr ⟨f74, f75⟩⟩⟩
set_option maxRecDepth 65536 in
set_option maxHeartbeats 40000000 in
theorem rmI1_3 (l : Launch) (Z : State) (a0 : Array Value) (hw : ∀ d ∈ tables_1, d.before a0 Z = true) (a : Addr) (ca : Addr) (h0 : Heap) (n0 : Nat) (kk : Int32) (sf : Value) (u0 u1 u2 : Int32) (O0 : Old Z n0 h0) (SS : own_S Z kk sf) (B0 : 0 ≤ u0.toInt ∧ u0.toInt ≤ 65535) (B1 : 0 ≤ u1.toInt ∧ u1.toInt ≤ 65535) (B2 : 0 ≤ u2.toInt ∧ u2.toInt ≤ 65535) (Z0 : n0 ≤ h0.size) (ga : n0 ≤ a) (E0 : Exa Z h0 a "java/lang/String") (F1 : Fld Z h0 a "java/lang/String" "value" "[B" .null) (F2 : Fld Z h0 a "java/lang/String" "coder" "B" (.int 0)) (A0 : Ar Z h0 ca .char 3 (fun q => .int (own_c u0 u1 u2 q))) :
    Con l Z (⟨"java/lang/String", "<init>", "([C)V"⟩ : MethodName) jdk_42_method_3_code 2 none [] ({ frames := 5, cells := 2, slots := 9, locals := 74 } : Room) #[(.ref a), (.ref ca)] h0 (fun v h L => v = none ∧ Fr n0 L ∧ Keep h0 h [a] ∧ own_str3 Z h a u0 u1 u2) := by
  refine Con.of (plainFor_of_name pn_String) ?_
  intro p e s m below meth c s₁ hx hby hml hown hnm hret hlk hZ X0 e0
  refine Go.cast (ef_1 m a ca) ?_
  replace hown : s.vm.findClass "java/lang/String" = some m.cls := hown
  refine Go.aloadN (pc' := 1) X0 hx hby d1_0 rfl rfl rfl ?_
  refine Go.aloadN (pc' := 2) X0 hx hby d1_1 rfl rfl rfl ?_
  refine Go.iconst (pc' := 3) X0 hx hby d1_2 rfl (v := (0 : Int32)) (by decide) ?_
  refine Go.aloadN (pc' := 4) X0 hx hby d1_3 rfl rfl rfl ?_
  refine Go.alen (pc' := 5) (zv := (3 : Int32)) X0 hx hby hZ e0 A0 d1_4 rfl (by decide) ?_
  refine Go.aconstNull (pc' := 6) X0 hx hby d1_5 rfl ?_
  refine Go.callI (pc' := 9) (a := a) (W := 0) (argsL := [(.ref ca), (.int (0 : Int32)), (.int (3 : Int32)), .null]) (rest := []) X0 hx hby rfl hZ hown (hw _ (List.mem_of_getElem? (i := 8) rfl)) (hw _ (List.mem_of_getElem? (i := 9) rfl)) (hw _ (List.mem_of_getElem? (i := 4) rfl)) (hw _ (List.mem_of_getElem? (i := 11) rfl)) (by decide) (rmI4_3 l Z a0 hw a ca 0 3 h0 n0 kk sf u0 u1 u2 O0 SS B0 B1 B2 Z0 ga rfl rfl E0 F1 F2 A0) e0 (by decide) (by decide) (by rw [hml]; rfl) pd_20 rfl rfl rfl (Nat.le_of_eq rfl) d1_6 rfl (by decide) (by decide) ?_
  rintro r1 T2 L3 X4 ⟨rfl, N1, K1, S1⟩
  show Go p e below _ (T2.setTop (mkF m 9 #[.val (.ref a), .val (.ref ca)] []))
  exact Go.ret0 X4 hx hby hlk hret d1_9 (by decide) (by decide) ⟨rfl, (Fr.app (Fr.nil _) N1), K1, S1⟩
theorem own_ew {Z : State} {a0 : Array Value} (w : (Jvm.Cond.stringLink "java/lang/String" 7 "").before a0 Z = true) : EW Z a0 own_EL := EW.cons w (by decide) EW.nil
set_option maxRecDepth 65536 in
set_option maxHeartbeats 40000000 in
theorem rmI4_0 (l : Launch) (Z : State) (a0 : Array Value) (hw : ∀ d ∈ tables_1, d.before a0 Z = true) (a : Addr) (ca : Addr) (x2 : Int32) (x3 : Int32) (h0 : Heap) (n0 : Nat) (kk : Int32) (sf : Value) (O0 : Old Z n0 h0) (SS : own_S Z kk sf) (Z0 : n0 ≤ h0.size) (ga : n0 ≤ a) (h2 : x2 = 0) (h3 : x3 = 0) (E0 : Exa Z h0 a "java/lang/String") (F1 : Fld Z h0 a "java/lang/String" "value" "[B" .null) (F2 : Fld Z h0 a "java/lang/String" "coder" "B" (.int 0)) :
    ConH l Z own_EL (⟨"java/lang/String", "<init>", "([CIILjava/lang/Void;)V"⟩ : MethodName) jdk_42_method_149_code 6 none [] ({ frames := 1, cells := 2, slots := 4, locals := 12 } : Room) #[(.ref a), (.ref ca), (.int x2), (.int x3), .null] h0 (fun v h L => v = none ∧ Fr n0 L ∧ Keep h0 h [a] ∧ own_str0 Z h a 0 0 0) := by
  refine ConH.of (plainFor_of_name pn_String) ?_
  intro p e s m below meth c s₁ hx hby hml hown hnm hret hlk hZ hS hC X0 e0
  refine Go.cast (ef_2 m a ca x2 x3) ?_
  replace hown : (s.setVm s.vm).vm.findClass "java/lang/String" = some m.cls := hown
  subst h2 h3
  show Go p e below _ (s₁.setTop (mkF m 0 #[.val (.ref a), .val (.ref ca), .val (.int (0 : Int32)), .val (.int (0 : Int32)), .val .null, .unset] []))
  have own_strs : ∀ d ∈ Bundle.stringAtoms, d.before a0 Z = true := by
    intro d hd
    simp only [Bundle.stringAtoms, List.mem_cons, List.not_mem_nil, or_false] at hd
    rcases hd with rfl | rfl | rfl | rfl | rfl | rfl | rfl
    · exact (hw _ (List.mem_of_getElem? (i := 4) rfl))
    · exact (hw _ (List.mem_of_getElem? (i := 3) rfl))
    · exact (hw _ (List.mem_of_getElem? (i := 16) rfl))
    · exact (hw _ (List.mem_of_getElem? (i := 17) rfl))
    · exact (hw _ (List.mem_of_getElem? (i := 18) rfl))
    · exact (hw _ (List.mem_of_getElem? (i := 19) rfl))
    · exact (hw _ (List.mem_of_getElem? (i := 20) rfl))
  refine Go.aloadN (pc' := 1) X0 hx hby d2_0 rfl rfl rfl ?_
  refine Go.initO (pc' := 4) (W := 0) X0 hx hby hZ hown (hw _ (List.mem_of_getElem? (i := 12) rfl)) (hw _ (List.mem_of_getElem? (i := 13) rfl)) (hw _ (List.mem_of_getElem? (i := 14) rfl)) e0 (by rw [hml]; rfl) d2_1 rfl (by decide) (Nat.le_of_eq rfl) (by decide) ?_
  intro T1 X2 e3
  refine Go.iloadN (pc' := 5) X2 hx hby d2_4 rfl rfl ?_
  refine Go.ifN (pc' := 8) X2 hx hby d2_5 rfl (show ¬ ((0 : Int32) ≠ 0) from fun q => q rfl) ?_
  refine Go.aloadN (pc' := 9) X2 hx hby d2_8 rfl rfl rfl ?_
  refine Go.ldcR (pc' := 11) (n := 0) (z := 0) (vs := []) (EL := own_EL) X2 hx hby hZ hown (hw _ (List.mem_of_getElem? (i := 15) rfl)) own_strs e3 hS (Nat.zero_le _) (own_ew (hw _ (List.mem_of_getElem? (i := 15) rfl))) (by simp [own_EL]) hC ⟨by decide, rfl⟩ (by decide) (by decide) d2_9 rfl (by decide) (by decide) (by decide) (by decide) ?_
  intro sa T9 h9 k9 b kc X9 e9 E9 S9 hk9 hZ9 ho9 Es Cs Vs As CH9 LI9
  have ns : a ≠ sa := fun q => by subst q; exact own_nul (Fld.ext E9 F1) Vs
  have nb : a ≠ b := Ar.neExa (Exa.ext E9 E0) (hw _ (List.mem_of_getElem? (i := 3) rfl)) (own_arv As)
  have f4 : Old Z n0 h9 := O0.ext E9
  have f5 : Exa Z h9 a "java/lang/String" := Exa.ext E9 E0
  have f6 : Fld Z h9 a "java/lang/String" "value" "[B" .null := Fld.ext E9 F1
  have f7 : Fld Z h9 a "java/lang/String" "coder" "B" (.int 0) := Fld.ext E9 F2
  have z8 : n0 ≤ h9.size := Nat.le_trans Z0 E9.1
  have Ab : Ar Z h9 b .byte 0 (fun _ => .int 0) := (own_arv As).congr (fun i h1 h2 => absurd h1 (Int.not_le.mpr (show i < 0 from h2)))
  show Go p e below _ (T9.setTop (mkF m 11 #[.val (.ref a), .val (.ref ca), .val (.int (0 : Int32)), .val (.int (0 : Int32)), .val .null, .unset] [(.ref sa), (.ref a)]))
  refine Go.getF (pc' := 14) X9 hx hby hZ9 ho9 (hw _ (List.mem_of_getElem? (i := 21) rfl)) Via.refl e9 Vs d2_11 rfl ?_
  intro T9 X10 e11
  refine Go.putF (pc' := 17) (ty := (.array .byte)) X10 hx hby hZ9 ho9 (hw _ (List.mem_of_getElem? (i := 21) rfl)) Via.refl e11 f6 f5 (Or.inr ⟨(hw _ (List.mem_of_getElem? (i := 17) rfl)), rfl, hnm⟩) (hw _ (List.mem_of_getElem? (i := 3) rfl)) (by decide) rfl rfl d2_14 rfl ?_
  intro T12 h13 X14 e15 W16
  have f17 : Old Z n0 h13 := f4.wr W16 ga
  have f18 : Exa Z h13 a "java/lang/String" := Exa.wr W16 f5
  have f19 : Fld Z h13 a "java/lang/String" "coder" "B" (.int 0) := Fld.other W16 f7 (Or.inr (slot_ne (t := .byte) (t' := (.array .byte)) (Or.inr (hw _ (List.mem_of_getElem? (i := 18) rfl))) (Or.inr (hw _ (List.mem_of_getElem? (i := 17) rfl))) (by decide) (by decide) (by decide)))
  have f20 : Fld Z h13 sa "java/lang/String" "coder" "B" (.int 0) := Fld.other W16 Cs (Or.inl (Ne.symm ns))
  have f21 : Fld Z h13 sa "java/lang/String" "value" "[B" (.ref b) := Fld.other W16 Vs (Or.inl (Ne.symm ns))
  have f22 : Ar Z h13 b .byte 0 (fun _ => .int 0) := Ab.other W16 (Ne.symm nb)
  have z23 : n0 ≤ h13.size := by rw [Wr.size W16]; exact z8
  have hk24 : k9 ≤ h13.size := by rw [Wr.size W16]; exact hk9
  have f25 : Fld Z h13 a "java/lang/String" "value" "[B" (.ref b) := Fld.same W16 f6
  have N26 : Fr n0 _ := Fr.snoc X14 (Fr.nil _) ga
  show Go p e below _ (T12.setTop (mkF m 17 #[.val (.ref a), .val (.ref ca), .val (.int (0 : Int32)), .val (.int (0 : Int32)), .val .null, .unset] []))
  refine Go.aloadN (pc' := 18) X14 hx hby d2_17 rfl rfl rfl ?_
  refine Go.ldcA (pc' := 20) X14 hx hby hZ9 ho9 (hw _ (List.mem_of_getElem? (i := 15) rfl)) LI9 d2_18 rfl ?_
  show Go p e below _ (T12.setTop (mkF m 20 #[.val (.ref a), .val (.ref ca), .val (.int (0 : Int32)), .val (.int (0 : Int32)), .val .null, .unset] [(.ref sa), (.ref a)]))
  refine Go.getF (pc' := 23) X14 hx hby hZ9 ho9 (hw _ (List.mem_of_getElem? (i := 22) rfl)) Via.refl e15 f20 d2_20 rfl ?_
  intro T27 X28 e29
  refine Go.putF (pc' := 26) (ty := .byte) X28 hx hby hZ9 ho9 (hw _ (List.mem_of_getElem? (i := 22) rfl)) Via.refl e29 f19 f18 (Or.inr ⟨(hw _ (List.mem_of_getElem? (i := 18) rfl)), rfl, hnm⟩) (hw _ (List.mem_of_getElem? (i := 3) rfl)) (by decide) rfl rfl d2_23 rfl ?_
  intro T30 h31 X32 e33 W34
  have f35 : Old Z n0 h31 := f17.wr W34 ga
  have f36 : Exa Z h31 a "java/lang/String" := Exa.wr W34 f18
  have f37 : Fld Z h31 a "java/lang/String" "value" "[B" (.ref b) := Fld.other W34 f25 (Or.inr (slot_ne (t := (.array .byte)) (t' := .byte) (Or.inr (hw _ (List.mem_of_getElem? (i := 17) rfl))) (Or.inr (hw _ (List.mem_of_getElem? (i := 18) rfl))) (by decide) (by decide) (by decide)))
  have f38 : Fld Z h31 sa "java/lang/String" "coder" "B" (.int 0) := Fld.other W34 f20 (Or.inl (Ne.symm ns))
  have f39 : Fld Z h31 sa "java/lang/String" "value" "[B" (.ref b) := Fld.other W34 f21 (Or.inl (Ne.symm ns))
  have f40 : Ar Z h31 b .byte 0 (fun _ => .int 0) := f22.other W34 (Ne.symm nb)
  have z41 : n0 ≤ h31.size := by rw [Wr.size W34]; exact z23
  have hk42 : k9 ≤ h31.size := by rw [Wr.size W34]; exact hk24
  have f43 : Fld Z h31 a "java/lang/String" "coder" "B" (.int (0 : Int32)) := Fld.same W34 f19
  have N44 : Fr n0 _ := Fr.snoc X32 N26 ga
  show Go p e below _ (T30.setTop (mkF m 26 #[.val (.ref a), .val (.ref ca), .val (.int (0 : Int32)), .val (.int (0 : Int32)), .val .null, .unset] []))
  exact Go.ret0W X32 hx hby hlk hret d2_26 (by decide) (by decide) S9 (by rw [e33]; exact hk42) ⟨rfl, N44, by rw [e33]; exact (((Keep.refl h0 _).ext E9).wr W16 (Or.inl (List.mem_singleton.mpr rfl))).wr W34 (Or.inl (List.mem_singleton.mpr rfl)), by rw [e33]; exact ⟨b, f36, f37, f43, f40⟩⟩
set_option maxRecDepth 65536 in
set_option maxHeartbeats 40000000 in
theorem rmI1_0 (l : Launch) (Z : State) (a0 : Array Value) (hw : ∀ d ∈ tables_1, d.before a0 Z = true) (a : Addr) (ca : Addr) (h0 : Heap) (n0 : Nat) (kk : Int32) (sf : Value) (f0 : Int → Value) (O0 : Old Z n0 h0) (SS : own_S Z kk sf) (Z0 : n0 ≤ h0.size) (ga : n0 ≤ a) (E0 : Exa Z h0 a "java/lang/String") (F1 : Fld Z h0 a "java/lang/String" "value" "[B" .null) (F2 : Fld Z h0 a "java/lang/String" "coder" "B" (.int 0)) (A0 : Ar Z h0 ca .char 0 f0) :
    ConH l Z own_EL (⟨"java/lang/String", "<init>", "([C)V"⟩ : MethodName) jdk_42_method_3_code 2 none [] ({ frames := 2, cells := 2, slots := 4, locals := 29 } : Room) #[(.ref a), (.ref ca)] h0 (fun v h L => v = none ∧ Fr n0 L ∧ Keep h0 h [a] ∧ own_str0 Z h a 0 0 0) := by
  refine ConH.of (plainFor_of_name pn_String) ?_
  intro p e s m below meth c s₁ hx hby hml hown hnm hret hlk hZ hS hC X0 e0
  refine Go.cast (ef_1 m a ca) ?_
  replace hown : (s.setVm s.vm).vm.findClass "java/lang/String" = some m.cls := hown
  refine Go.aloadN (pc' := 1) X0 hx hby d1_0 rfl rfl rfl ?_
  refine Go.aloadN (pc' := 2) X0 hx hby d1_1 rfl rfl rfl ?_
  refine Go.iconst (pc' := 3) X0 hx hby d1_2 rfl (v := (0 : Int32)) (by decide) ?_
  refine Go.aloadN (pc' := 4) X0 hx hby d1_3 rfl rfl rfl ?_
  refine Go.alen (pc' := 5) (zv := (0 : Int32)) X0 hx hby hZ e0 A0 d1_4 rfl (by decide) ?_
  refine Go.aconstNull (pc' := 6) X0 hx hby d1_5 rfl ?_
  refine Go.callIH (pc' := 9) (a := a) (W := 0) (argsL := [(.ref ca), (.int (0 : Int32)), (.int (0 : Int32)), .null]) (rest := []) X0 hx hby rfl hZ hown (hw _ (List.mem_of_getElem? (i := 8) rfl)) (hw _ (List.mem_of_getElem? (i := 9) rfl)) (hw _ (List.mem_of_getElem? (i := 4) rfl)) (hw _ (List.mem_of_getElem? (i := 11) rfl)) (by decide) (rmI4_0 l Z a0 hw a ca 0 0 h0 n0 kk sf O0 SS Z0 ga rfl rfl E0 F1 F2) e0 (by decide) (by decide) (by rw [hml]; rfl) pd_20 rfl rfl rfl (Nat.le_of_eq rfl) d1_6 rfl (by decide) (by decide) hS (Nat.zero_le _) (own_ew (hw _ (List.mem_of_getElem? (i := 15) rfl))) hC ?_
  rintro r1 T2 L3 X4 S5 hZ6 hown7 g8 ⟨rfl, N1, K1, S1⟩
  show Go p e below _ (T2.setTop (mkF m 9 #[.val (.ref a), .val (.ref ca)] []))
  exact Go.ret0W X4 hx hby hlk hret d1_9 (by decide) (by decide) S5 (Nat.le_refl _) ⟨rfl, (Fr.app (Fr.nil _) N1), K1, S1⟩
theorem d7_0 : decode jdk_42_method_154_code 0 = .ok (.getstatic 38, 3) := by decide +kernel
theorem d7_3 : decode jdk_42_method_154_code 3 = .ok (.ifCond .eq 14, 3) := by decide +kernel
theorem d7_6 : decode jdk_42_method_154_code 6 = .ok (.aload_n 0, 1) := by decide +kernel
theorem d7_7 : decode jdk_42_method_154_code 7 = .ok (.getfield 15, 3) := by decide +kernel
theorem d7_10 : decode jdk_42_method_154_code 10 = .ok (.ifCond .ne 7, 3) := by decide +kernel
theorem d7_13 : decode jdk_42_method_154_code 13 = .ok (.iconst 1, 1) := by decide +kernel
theorem d7_14 : decode jdk_42_method_154_code 14 = .ok (.goto 4, 3) := by decide +kernel
theorem d7_17 : decode jdk_42_method_154_code 17 = .ok (.iconst 0, 1) := by decide +kernel
theorem d7_18 : decode jdk_42_method_154_code 18 = .ok (.ireturn, 1) := by decide +kernel
theorem d9_0 : decode jdk_42_method_152_code 0 = .ok (.getstatic 38, 3) := by decide +kernel
theorem d9_3 : decode jdk_42_method_152_code 3 = .ok (.ifCond .eq 10, 3) := by decide +kernel
theorem d9_6 : decode jdk_42_method_152_code 6 = .ok (.aload_n 0, 1) := by decide +kernel
theorem d9_7 : decode jdk_42_method_152_code 7 = .ok (.getfield 15, 3) := by decide +kernel
theorem d9_10 : decode jdk_42_method_152_code 10 = .ok (.goto 4, 3) := by decide +kernel
theorem d9_13 : decode jdk_42_method_152_code 13 = .ok (.iconst 1, 1) := by decide +kernel
theorem d9_14 : decode jdk_42_method_152_code 14 = .ok (.ireturn, 1) := by decide +kernel
theorem d8_0 : decode jdk_42_method_54_code 0 = .ok (.aload_n 0, 1) := by decide +kernel
theorem d8_1 : decode jdk_42_method_54_code 1 = .ok (.getfield 9, 3) := by decide +kernel
theorem d8_4 : decode jdk_42_method_54_code 4 = .ok (.arraylength, 1) := by decide +kernel
theorem d8_5 : decode jdk_42_method_54_code 5 = .ok (.aload_n 0, 1) := by decide +kernel
theorem d8_6 : decode jdk_42_method_54_code 6 = .ok (.invokevirtual 335, 3) := by decide +kernel
theorem d8_9 : decode jdk_42_method_54_code 9 = .ok (.ishr, 1) := by decide +kernel
theorem d8_10 : decode jdk_42_method_54_code 10 = .ok (.ireturn, 1) := by decide +kernel
theorem ef_7 (m : MethodId) (x0 : Addr) : entryFrame m #[(.ref x0)] 1 = mkF m 0 #[.val (.ref x0)] [] := by first | (simp [entryFrame, mkF, argsToLocals, Value.category]; done) | rfl
set_option maxRecDepth 65536 in
set_option maxHeartbeats 40000000 in
theorem rmIL0 (l : Launch) (Z : State) (a0 : Array Value) (hw : ∀ d ∈ tables_1, d.before a0 Z = true) (a : Addr) (h0 : Heap) (n0 : Nat) (kk : Int32) (sf : Value) (O0 : Old Z n0 h0) (SS : own_S Z kk sf) (F2 : Fld Z h0 a "java/lang/String" "coder" "B" (.int 0)) :
    Con l Z (⟨"java/lang/String", "isLatin1", "()Z"⟩ : MethodName) jdk_42_method_154_code 1 (some .boolean) [] ({ frames := 0, cells := 0, slots := 0, locals := 0 } : Room) #[(.ref a)] h0 (PQ (some (.int 1)) h0) := by
  refine Con.of (plainFor_of_name pn_String) ?_
  intro p e s m below meth c s₁ hx hby hml hown hnm hret hlk hZ X0 e0
  refine Go.cast (ef_7 m a) ?_
  replace hown : s.vm.findClass "java/lang/String" = some m.cls := hown
  have S0_ : Sta Z h0 "java/lang/String" "COMPACT_STRINGS" "Z" (.int kk) := Sta.ext O0.2 SS.2.1
  refine Go.getSt (pc' := 3) X0 hx hby hZ hown (hw _ (List.mem_of_getElem? (i := 42) rfl)) Via.refl e0 S0_ d7_0 rfl ?_
  intro T1 X2 e3
  refine Go.ifN (pc' := 6) X2 hx hby d7_3 rfl (show ¬ (kk = 0) from SS.1) ?_
  refine Go.aloadN (pc' := 7) X2 hx hby d7_6 rfl rfl rfl ?_
  refine Go.getF (pc' := 10) X2 hx hby hZ hown (hw _ (List.mem_of_getElem? (i := 22) rfl)) Via.refl e3 F2 d7_7 rfl ?_
  intro T4 X5 e6
  refine Go.ifN (pc' := 13) X5 hx hby d7_10 rfl (show ¬ ((0 : Int32) ≠ 0) from by decide) ?_
  refine Go.iconst (pc' := 14) X5 hx hby d7_13 rfl (v := (1 : Int32)) (by decide) ?_
  refine Go.goto (pc' := 18) X5 hx hby d7_14 (by decide) (by decide) ?_
  exact Go.retZ X5 hx hby hlk hret (by simp) d7_18 (by decide) (by decide) ⟨rfl, rfl, e6⟩
theorem ef_9 (m : MethodId) (x0 : Addr) : entryFrame m #[(.ref x0)] 1 = mkF m 0 #[.val (.ref x0)] [] := by first | (simp [entryFrame, mkF, argsToLocals, Value.category]; done) | rfl
set_option maxRecDepth 65536 in
set_option maxHeartbeats 40000000 in
theorem rmCO0 (l : Launch) (Z : State) (a0 : Array Value) (hw : ∀ d ∈ tables_1, d.before a0 Z = true) (a : Addr) (h0 : Heap) (n0 : Nat) (kk : Int32) (sf : Value) (O0 : Old Z n0 h0) (SS : own_S Z kk sf) (F2 : Fld Z h0 a "java/lang/String" "coder" "B" (.int 0)) :
    Con l Z (⟨"java/lang/String", "coder", "()B"⟩ : MethodName) jdk_42_method_152_code 1 (some .byte) [] ({ frames := 0, cells := 0, slots := 0, locals := 0 } : Room) #[(.ref a)] h0 (PQ (some (.int 0)) h0) := by
  refine Con.of (plainFor_of_name pn_String) ?_
  intro p e s m below meth c s₁ hx hby hml hown hnm hret hlk hZ X0 e0
  refine Go.cast (ef_9 m a) ?_
  replace hown : s.vm.findClass "java/lang/String" = some m.cls := hown
  have S0_ : Sta Z h0 "java/lang/String" "COMPACT_STRINGS" "Z" (.int kk) := Sta.ext O0.2 SS.2.1
  refine Go.getSt (pc' := 3) X0 hx hby hZ hown (hw _ (List.mem_of_getElem? (i := 42) rfl)) Via.refl e0 S0_ d9_0 rfl ?_
  intro T1 X2 e3
  refine Go.ifN (pc' := 6) X2 hx hby d9_3 rfl (show ¬ (kk = 0) from SS.1) ?_
  refine Go.aloadN (pc' := 7) X2 hx hby d9_6 rfl rfl rfl ?_
  refine Go.getF (pc' := 10) X2 hx hby hZ hown (hw _ (List.mem_of_getElem? (i := 22) rfl)) Via.refl e3 F2 d9_7 rfl ?_
  intro T4 X5 e6
  refine Go.goto (pc' := 14) X5 hx hby d9_10 (by decide) (by decide) ?_
  exact Go.retZ X5 hx hby hlk hret (by simp) d9_14 (by decide) (by decide) ⟨rfl, rfl, e6⟩
set_option maxRecDepth 65536 in
set_option maxHeartbeats 40000000 in
theorem rmIL1 (l : Launch) (Z : State) (a0 : Array Value) (hw : ∀ d ∈ tables_1, d.before a0 Z = true) (a : Addr) (h0 : Heap) (n0 : Nat) (kk : Int32) (sf : Value) (O0 : Old Z n0 h0) (SS : own_S Z kk sf) (F2 : Fld Z h0 a "java/lang/String" "coder" "B" (.int 1)) :
    Con l Z (⟨"java/lang/String", "isLatin1", "()Z"⟩ : MethodName) jdk_42_method_154_code 1 (some .boolean) [] ({ frames := 0, cells := 0, slots := 0, locals := 0 } : Room) #[(.ref a)] h0 (PQ (some (.int 0)) h0) := by
  refine Con.of (plainFor_of_name pn_String) ?_
  intro p e s m below meth c s₁ hx hby hml hown hnm hret hlk hZ X0 e0
  refine Go.cast (ef_7 m a) ?_
  replace hown : s.vm.findClass "java/lang/String" = some m.cls := hown
  have S0_ : Sta Z h0 "java/lang/String" "COMPACT_STRINGS" "Z" (.int kk) := Sta.ext O0.2 SS.2.1
  refine Go.getSt (pc' := 3) X0 hx hby hZ hown (hw _ (List.mem_of_getElem? (i := 42) rfl)) Via.refl e0 S0_ d7_0 rfl ?_
  intro T1 X2 e3
  refine Go.ifN (pc' := 6) X2 hx hby d7_3 rfl (show ¬ (kk = 0) from SS.1) ?_
  refine Go.aloadN (pc' := 7) X2 hx hby d7_6 rfl rfl rfl ?_
  refine Go.getF (pc' := 10) X2 hx hby hZ hown (hw _ (List.mem_of_getElem? (i := 22) rfl)) Via.refl e3 F2 d7_7 rfl ?_
  intro T4 X5 e6
  refine Go.ifY (pc' := 17) X5 hx hby d7_10 (by decide) (by decide) (show (1 : Int32) ≠ 0 from by decide) ?_
  refine Go.iconst (pc' := 18) X5 hx hby d7_17 rfl (v := (0 : Int32)) (by decide) ?_
  exact Go.retZ X5 hx hby hlk hret (by simp) d7_18 (by decide) (by decide) ⟨rfl, rfl, e6⟩
set_option maxRecDepth 65536 in
set_option maxHeartbeats 40000000 in
theorem rmCO1 (l : Launch) (Z : State) (a0 : Array Value) (hw : ∀ d ∈ tables_1, d.before a0 Z = true) (a : Addr) (h0 : Heap) (n0 : Nat) (kk : Int32) (sf : Value) (O0 : Old Z n0 h0) (SS : own_S Z kk sf) (F2 : Fld Z h0 a "java/lang/String" "coder" "B" (.int 1)) :
    Con l Z (⟨"java/lang/String", "coder", "()B"⟩ : MethodName) jdk_42_method_152_code 1 (some .byte) [] ({ frames := 0, cells := 0, slots := 0, locals := 0 } : Room) #[(.ref a)] h0 (PQ (some (.int 1)) h0) := by
  refine Con.of (plainFor_of_name pn_String) ?_
  intro p e s m below meth c s₁ hx hby hml hown hnm hret hlk hZ X0 e0
  refine Go.cast (ef_9 m a) ?_
  replace hown : s.vm.findClass "java/lang/String" = some m.cls := hown
  have S0_ : Sta Z h0 "java/lang/String" "COMPACT_STRINGS" "Z" (.int kk) := Sta.ext O0.2 SS.2.1
  refine Go.getSt (pc' := 3) X0 hx hby hZ hown (hw _ (List.mem_of_getElem? (i := 42) rfl)) Via.refl e0 S0_ d9_0 rfl ?_
  intro T1 X2 e3
  refine Go.ifN (pc' := 6) X2 hx hby d9_3 rfl (show ¬ (kk = 0) from SS.1) ?_
  refine Go.aloadN (pc' := 7) X2 hx hby d9_6 rfl rfl rfl ?_
  refine Go.getF (pc' := 10) X2 hx hby hZ hown (hw _ (List.mem_of_getElem? (i := 22) rfl)) Via.refl e3 F2 d9_7 rfl ?_
  intro T4 X5 e6
  refine Go.goto (pc' := 14) X5 hx hby d9_10 (by decide) (by decide) ?_
  exact Go.retZ X5 hx hby hlk hret (by simp) d9_14 (by decide) (by decide) ⟨rfl, rfl, e6⟩
theorem ef_8 (m : MethodId) (x0 : Addr) : entryFrame m #[(.ref x0)] 1 = mkF m 0 #[.val (.ref x0)] [] := by first | (simp [entryFrame, mkF, argsToLocals, Value.category]; done) | rfl
set_option maxRecDepth 65536 in
set_option maxHeartbeats 40000000 in
theorem rmLE0_0 (l : Launch) (Z : State) (a0 : Array Value) (hw : ∀ d ∈ tables_1, d.before a0 Z = true) (a : Addr) (h0 : Heap) (n0 : Nat) (kk : Int32) (sf : Value) (b : Addr) (f0 : Int → Value) (O0 : Old Z n0 h0) (SS : own_S Z kk sf) (E0 : Exa Z h0 a "java/lang/String") (F1 : Fld Z h0 a "java/lang/String" "value" "[B" (.ref b)) (F2 : Fld Z h0 a "java/lang/String" "coder" "B" (.int 0)) (A0 : Ar Z h0 b .byte 0 f0) :
    Con l Z (⟨"java/lang/String", "length", "()I"⟩ : MethodName) jdk_42_method_54_code 1 (some .int) [] ({ frames := 1, cells := 0, slots := 0, locals := 13 } : Room) #[(.ref a)] h0 (PQ (some (.int 0)) h0) := by
  refine Con.of (plainFor_of_name pn_String) ?_
  intro p e s m below meth c s₁ hx hby hml hown hnm hret hlk hZ X0 e0
  refine Go.cast (ef_8 m a) ?_
  replace hown : s.vm.findClass "java/lang/String" = some m.cls := hown
  refine Go.aloadN (pc' := 1) X0 hx hby d8_0 rfl rfl rfl ?_
  refine Go.getF (pc' := 4) X0 hx hby hZ hown (hw _ (List.mem_of_getElem? (i := 21) rfl)) Via.refl e0 F1 d8_1 rfl ?_
  intro T1 X2 e3
  refine Go.alen (pc' := 5) (zv := (0 : Int32)) X2 hx hby hZ e3 A0 d8_4 rfl (by decide) ?_
  refine Go.aloadN (pc' := 6) X2 hx hby d8_5 rfl rfl rfl ?_
  refine Go.callV (C := "java/lang/String") (pc' := 9) (a := a) (W := 1) (argsL := []) (rest := [(.int (0 : Int32))]) X2 hx hby hZ hown (hw _ (List.mem_of_getElem? (i := 48) rfl)) (hw _ (List.mem_of_getElem? (i := 49) rfl)) (notFace_of_selects (args := #[]) (mvT hZ (hw _ (List.mem_of_getElem? (i := 51) rfl)))) (hw _ (List.mem_of_getElem? (i := 51) rfl)) (hw _ (List.mem_of_getElem? (i := 50) rfl)) (hw _ (List.mem_of_getElem? (i := 4) rfl)) (hw _ (List.mem_of_getElem? (i := 52) rfl)) (by decide) (rmCO0 l Z a0 hw a h0 n0 kk sf O0 SS F2) e3 E0 (by decide) (by decide) (by rw [hml]; rfl) pd_0 rfl rfl rfl (Nat.le_of_eq rfl) d8_6 rfl (by decide) (by decide) ?_
  rintro r5 T6 L7 X8 ⟨rfl, rfl, e4⟩
  rw [List.append_nil] at X8
  show Go p e below _ (T6.setTop (mkF m 9 #[.val (.ref a)] [(.int (0 : Int32)), (.int (0 : Int32))]))
  refine Go.ishr (pc' := 10) X8 hx hby d8_9 rfl ?_
  change Go p e below _ (T6.setTop (mkF m 10 #[.val (.ref a)] [(.int (0 : Int32))]))
  exact Go.retI X8 hx hby hlk hret d8_10 (by decide) (by decide) ⟨rfl, rfl, e4⟩
set_option maxRecDepth 65536 in
set_option maxHeartbeats 40000000 in
theorem rmLE1_0 (l : Launch) (Z : State) (a0 : Array Value) (hw : ∀ d ∈ tables_1, d.before a0 Z = true) (a : Addr) (h0 : Heap) (n0 : Nat) (kk : Int32) (sf : Value) (b : Addr) (f0 : Int → Value) (O0 : Old Z n0 h0) (SS : own_S Z kk sf) (E0 : Exa Z h0 a "java/lang/String") (F1 : Fld Z h0 a "java/lang/String" "value" "[B" (.ref b)) (F2 : Fld Z h0 a "java/lang/String" "coder" "B" (.int 0)) (A0 : Ar Z h0 b .byte 1 f0) :
    Con l Z (⟨"java/lang/String", "length", "()I"⟩ : MethodName) jdk_42_method_54_code 1 (some .int) [] ({ frames := 1, cells := 0, slots := 0, locals := 13 } : Room) #[(.ref a)] h0 (PQ (some (.int 1)) h0) := by
  refine Con.of (plainFor_of_name pn_String) ?_
  intro p e s m below meth c s₁ hx hby hml hown hnm hret hlk hZ X0 e0
  refine Go.cast (ef_8 m a) ?_
  replace hown : s.vm.findClass "java/lang/String" = some m.cls := hown
  refine Go.aloadN (pc' := 1) X0 hx hby d8_0 rfl rfl rfl ?_
  refine Go.getF (pc' := 4) X0 hx hby hZ hown (hw _ (List.mem_of_getElem? (i := 21) rfl)) Via.refl e0 F1 d8_1 rfl ?_
  intro T1 X2 e3
  refine Go.alen (pc' := 5) (zv := (1 : Int32)) X2 hx hby hZ e3 A0 d8_4 rfl (by decide) ?_
  refine Go.aloadN (pc' := 6) X2 hx hby d8_5 rfl rfl rfl ?_
  refine Go.callV (C := "java/lang/String") (pc' := 9) (a := a) (W := 1) (argsL := []) (rest := [(.int (1 : Int32))]) X2 hx hby hZ hown (hw _ (List.mem_of_getElem? (i := 48) rfl)) (hw _ (List.mem_of_getElem? (i := 49) rfl)) (notFace_of_selects (args := #[]) (mvT hZ (hw _ (List.mem_of_getElem? (i := 51) rfl)))) (hw _ (List.mem_of_getElem? (i := 51) rfl)) (hw _ (List.mem_of_getElem? (i := 50) rfl)) (hw _ (List.mem_of_getElem? (i := 4) rfl)) (hw _ (List.mem_of_getElem? (i := 52) rfl)) (by decide) (rmCO0 l Z a0 hw a h0 n0 kk sf O0 SS F2) e3 E0 (by decide) (by decide) (by rw [hml]; rfl) pd_0 rfl rfl rfl (Nat.le_of_eq rfl) d8_6 rfl (by decide) (by decide) ?_
  rintro r5 T6 L7 X8 ⟨rfl, rfl, e4⟩
  rw [List.append_nil] at X8
  show Go p e below _ (T6.setTop (mkF m 9 #[.val (.ref a)] [(.int (0 : Int32)), (.int (1 : Int32))]))
  refine Go.ishr (pc' := 10) X8 hx hby d8_9 rfl ?_
  change Go p e below _ (T6.setTop (mkF m 10 #[.val (.ref a)] [(.int (1 : Int32))]))
  exact Go.retI X8 hx hby hlk hret d8_10 (by decide) (by decide) ⟨rfl, rfl, e4⟩
set_option maxRecDepth 65536 in
set_option maxHeartbeats 40000000 in
theorem rmLE1_1 (l : Launch) (Z : State) (a0 : Array Value) (hw : ∀ d ∈ tables_1, d.before a0 Z = true) (a : Addr) (h0 : Heap) (n0 : Nat) (kk : Int32) (sf : Value) (b : Addr) (f0 : Int → Value) (O0 : Old Z n0 h0) (SS : own_S Z kk sf) (E0 : Exa Z h0 a "java/lang/String") (F1 : Fld Z h0 a "java/lang/String" "value" "[B" (.ref b)) (F2 : Fld Z h0 a "java/lang/String" "coder" "B" (.int 1)) (A0 : Ar Z h0 b .byte 2 f0) :
    Con l Z (⟨"java/lang/String", "length", "()I"⟩ : MethodName) jdk_42_method_54_code 1 (some .int) [] ({ frames := 1, cells := 0, slots := 0, locals := 13 } : Room) #[(.ref a)] h0 (PQ (some (.int 1)) h0) := by
  refine Con.of (plainFor_of_name pn_String) ?_
  intro p e s m below meth c s₁ hx hby hml hown hnm hret hlk hZ X0 e0
  refine Go.cast (ef_8 m a) ?_
  replace hown : s.vm.findClass "java/lang/String" = some m.cls := hown
  refine Go.aloadN (pc' := 1) X0 hx hby d8_0 rfl rfl rfl ?_
  refine Go.getF (pc' := 4) X0 hx hby hZ hown (hw _ (List.mem_of_getElem? (i := 21) rfl)) Via.refl e0 F1 d8_1 rfl ?_
  intro T1 X2 e3
  refine Go.alen (pc' := 5) (zv := (2 : Int32)) X2 hx hby hZ e3 A0 d8_4 rfl (by decide) ?_
  refine Go.aloadN (pc' := 6) X2 hx hby d8_5 rfl rfl rfl ?_
  refine Go.callV (C := "java/lang/String") (pc' := 9) (a := a) (W := 1) (argsL := []) (rest := [(.int (2 : Int32))]) X2 hx hby hZ hown (hw _ (List.mem_of_getElem? (i := 48) rfl)) (hw _ (List.mem_of_getElem? (i := 49) rfl)) (notFace_of_selects (args := #[]) (mvT hZ (hw _ (List.mem_of_getElem? (i := 51) rfl)))) (hw _ (List.mem_of_getElem? (i := 51) rfl)) (hw _ (List.mem_of_getElem? (i := 50) rfl)) (hw _ (List.mem_of_getElem? (i := 4) rfl)) (hw _ (List.mem_of_getElem? (i := 52) rfl)) (by decide) (rmCO1 l Z a0 hw a h0 n0 kk sf O0 SS F2) e3 E0 (by decide) (by decide) (by rw [hml]; rfl) pd_0 rfl rfl rfl (Nat.le_of_eq rfl) d8_6 rfl (by decide) (by decide) ?_
  rintro r5 T6 L7 X8 ⟨rfl, rfl, e4⟩
  rw [List.append_nil] at X8
  show Go p e below _ (T6.setTop (mkF m 9 #[.val (.ref a)] [(.int (1 : Int32)), (.int (2 : Int32))]))
  refine Go.ishr (pc' := 10) X8 hx hby d8_9 rfl ?_
  change Go p e below _ (T6.setTop (mkF m 10 #[.val (.ref a)] [(.int (1 : Int32))]))
  exact Go.retI X8 hx hby hlk hret d8_10 (by decide) (by decide) ⟨rfl, rfl, e4⟩
set_option maxRecDepth 65536 in
set_option maxHeartbeats 40000000 in
theorem rmLE2_0 (l : Launch) (Z : State) (a0 : Array Value) (hw : ∀ d ∈ tables_1, d.before a0 Z = true) (a : Addr) (h0 : Heap) (n0 : Nat) (kk : Int32) (sf : Value) (b : Addr) (f0 : Int → Value) (O0 : Old Z n0 h0) (SS : own_S Z kk sf) (E0 : Exa Z h0 a "java/lang/String") (F1 : Fld Z h0 a "java/lang/String" "value" "[B" (.ref b)) (F2 : Fld Z h0 a "java/lang/String" "coder" "B" (.int 0)) (A0 : Ar Z h0 b .byte 2 f0) :
    Con l Z (⟨"java/lang/String", "length", "()I"⟩ : MethodName) jdk_42_method_54_code 1 (some .int) [] ({ frames := 1, cells := 0, slots := 0, locals := 13 } : Room) #[(.ref a)] h0 (PQ (some (.int 2)) h0) := by
  refine Con.of (plainFor_of_name pn_String) ?_
  intro p e s m below meth c s₁ hx hby hml hown hnm hret hlk hZ X0 e0
  refine Go.cast (ef_8 m a) ?_
  replace hown : s.vm.findClass "java/lang/String" = some m.cls := hown
  refine Go.aloadN (pc' := 1) X0 hx hby d8_0 rfl rfl rfl ?_
  refine Go.getF (pc' := 4) X0 hx hby hZ hown (hw _ (List.mem_of_getElem? (i := 21) rfl)) Via.refl e0 F1 d8_1 rfl ?_
  intro T1 X2 e3
  refine Go.alen (pc' := 5) (zv := (2 : Int32)) X2 hx hby hZ e3 A0 d8_4 rfl (by decide) ?_
  refine Go.aloadN (pc' := 6) X2 hx hby d8_5 rfl rfl rfl ?_
  refine Go.callV (C := "java/lang/String") (pc' := 9) (a := a) (W := 1) (argsL := []) (rest := [(.int (2 : Int32))]) X2 hx hby hZ hown (hw _ (List.mem_of_getElem? (i := 48) rfl)) (hw _ (List.mem_of_getElem? (i := 49) rfl)) (notFace_of_selects (args := #[]) (mvT hZ (hw _ (List.mem_of_getElem? (i := 51) rfl)))) (hw _ (List.mem_of_getElem? (i := 51) rfl)) (hw _ (List.mem_of_getElem? (i := 50) rfl)) (hw _ (List.mem_of_getElem? (i := 4) rfl)) (hw _ (List.mem_of_getElem? (i := 52) rfl)) (by decide) (rmCO0 l Z a0 hw a h0 n0 kk sf O0 SS F2) e3 E0 (by decide) (by decide) (by rw [hml]; rfl) pd_0 rfl rfl rfl (Nat.le_of_eq rfl) d8_6 rfl (by decide) (by decide) ?_
  rintro r5 T6 L7 X8 ⟨rfl, rfl, e4⟩
  rw [List.append_nil] at X8
  show Go p e below _ (T6.setTop (mkF m 9 #[.val (.ref a)] [(.int (0 : Int32)), (.int (2 : Int32))]))
  refine Go.ishr (pc' := 10) X8 hx hby d8_9 rfl ?_
  change Go p e below _ (T6.setTop (mkF m 10 #[.val (.ref a)] [(.int (2 : Int32))]))
  exact Go.retI X8 hx hby hlk hret d8_10 (by decide) (by decide) ⟨rfl, rfl, e4⟩
set_option maxRecDepth 65536 in
set_option maxHeartbeats 40000000 in
theorem rmLE2_1 (l : Launch) (Z : State) (a0 : Array Value) (hw : ∀ d ∈ tables_1, d.before a0 Z = true) (a : Addr) (h0 : Heap) (n0 : Nat) (kk : Int32) (sf : Value) (b : Addr) (f0 : Int → Value) (O0 : Old Z n0 h0) (SS : own_S Z kk sf) (E0 : Exa Z h0 a "java/lang/String") (F1 : Fld Z h0 a "java/lang/String" "value" "[B" (.ref b)) (F2 : Fld Z h0 a "java/lang/String" "coder" "B" (.int 1)) (A0 : Ar Z h0 b .byte 4 f0) :
    Con l Z (⟨"java/lang/String", "length", "()I"⟩ : MethodName) jdk_42_method_54_code 1 (some .int) [] ({ frames := 1, cells := 0, slots := 0, locals := 13 } : Room) #[(.ref a)] h0 (PQ (some (.int 2)) h0) := by
  refine Con.of (plainFor_of_name pn_String) ?_
  intro p e s m below meth c s₁ hx hby hml hown hnm hret hlk hZ X0 e0
  refine Go.cast (ef_8 m a) ?_
  replace hown : s.vm.findClass "java/lang/String" = some m.cls := hown
  refine Go.aloadN (pc' := 1) X0 hx hby d8_0 rfl rfl rfl ?_
  refine Go.getF (pc' := 4) X0 hx hby hZ hown (hw _ (List.mem_of_getElem? (i := 21) rfl)) Via.refl e0 F1 d8_1 rfl ?_
  intro T1 X2 e3
  refine Go.alen (pc' := 5) (zv := (4 : Int32)) X2 hx hby hZ e3 A0 d8_4 rfl (by decide) ?_
  refine Go.aloadN (pc' := 6) X2 hx hby d8_5 rfl rfl rfl ?_
  refine Go.callV (C := "java/lang/String") (pc' := 9) (a := a) (W := 1) (argsL := []) (rest := [(.int (4 : Int32))]) X2 hx hby hZ hown (hw _ (List.mem_of_getElem? (i := 48) rfl)) (hw _ (List.mem_of_getElem? (i := 49) rfl)) (notFace_of_selects (args := #[]) (mvT hZ (hw _ (List.mem_of_getElem? (i := 51) rfl)))) (hw _ (List.mem_of_getElem? (i := 51) rfl)) (hw _ (List.mem_of_getElem? (i := 50) rfl)) (hw _ (List.mem_of_getElem? (i := 4) rfl)) (hw _ (List.mem_of_getElem? (i := 52) rfl)) (by decide) (rmCO1 l Z a0 hw a h0 n0 kk sf O0 SS F2) e3 E0 (by decide) (by decide) (by rw [hml]; rfl) pd_0 rfl rfl rfl (Nat.le_of_eq rfl) d8_6 rfl (by decide) (by decide) ?_
  rintro r5 T6 L7 X8 ⟨rfl, rfl, e4⟩
  rw [List.append_nil] at X8
  show Go p e below _ (T6.setTop (mkF m 9 #[.val (.ref a)] [(.int (1 : Int32)), (.int (4 : Int32))]))
  refine Go.ishr (pc' := 10) X8 hx hby d8_9 rfl ?_
  change Go p e below _ (T6.setTop (mkF m 10 #[.val (.ref a)] [(.int (2 : Int32))]))
  exact Go.retI X8 hx hby hlk hret d8_10 (by decide) (by decide) ⟨rfl, rfl, e4⟩
set_option maxRecDepth 65536 in
set_option maxHeartbeats 40000000 in
theorem rmLE3_0 (l : Launch) (Z : State) (a0 : Array Value) (hw : ∀ d ∈ tables_1, d.before a0 Z = true) (a : Addr) (h0 : Heap) (n0 : Nat) (kk : Int32) (sf : Value) (b : Addr) (f0 : Int → Value) (O0 : Old Z n0 h0) (SS : own_S Z kk sf) (E0 : Exa Z h0 a "java/lang/String") (F1 : Fld Z h0 a "java/lang/String" "value" "[B" (.ref b)) (F2 : Fld Z h0 a "java/lang/String" "coder" "B" (.int 0)) (A0 : Ar Z h0 b .byte 3 f0) :
    Con l Z (⟨"java/lang/String", "length", "()I"⟩ : MethodName) jdk_42_method_54_code 1 (some .int) [] ({ frames := 1, cells := 0, slots := 0, locals := 13 } : Room) #[(.ref a)] h0 (PQ (some (.int 3)) h0) := by
  refine Con.of (plainFor_of_name pn_String) ?_
  intro p e s m below meth c s₁ hx hby hml hown hnm hret hlk hZ X0 e0
  refine Go.cast (ef_8 m a) ?_
  replace hown : s.vm.findClass "java/lang/String" = some m.cls := hown
  refine Go.aloadN (pc' := 1) X0 hx hby d8_0 rfl rfl rfl ?_
  refine Go.getF (pc' := 4) X0 hx hby hZ hown (hw _ (List.mem_of_getElem? (i := 21) rfl)) Via.refl e0 F1 d8_1 rfl ?_
  intro T1 X2 e3
  refine Go.alen (pc' := 5) (zv := (3 : Int32)) X2 hx hby hZ e3 A0 d8_4 rfl (by decide) ?_
  refine Go.aloadN (pc' := 6) X2 hx hby d8_5 rfl rfl rfl ?_
  refine Go.callV (C := "java/lang/String") (pc' := 9) (a := a) (W := 1) (argsL := []) (rest := [(.int (3 : Int32))]) X2 hx hby hZ hown (hw _ (List.mem_of_getElem? (i := 48) rfl)) (hw _ (List.mem_of_getElem? (i := 49) rfl)) (notFace_of_selects (args := #[]) (mvT hZ (hw _ (List.mem_of_getElem? (i := 51) rfl)))) (hw _ (List.mem_of_getElem? (i := 51) rfl)) (hw _ (List.mem_of_getElem? (i := 50) rfl)) (hw _ (List.mem_of_getElem? (i := 4) rfl)) (hw _ (List.mem_of_getElem? (i := 52) rfl)) (by decide) (rmCO0 l Z a0 hw a h0 n0 kk sf O0 SS F2) e3 E0 (by decide) (by decide) (by rw [hml]; rfl) pd_0 rfl rfl rfl (Nat.le_of_eq rfl) d8_6 rfl (by decide) (by decide) ?_
  rintro r5 T6 L7 X8 ⟨rfl, rfl, e4⟩
  rw [List.append_nil] at X8
  show Go p e below _ (T6.setTop (mkF m 9 #[.val (.ref a)] [(.int (0 : Int32)), (.int (3 : Int32))]))
  refine Go.ishr (pc' := 10) X8 hx hby d8_9 rfl ?_
  change Go p e below _ (T6.setTop (mkF m 10 #[.val (.ref a)] [(.int (3 : Int32))]))
  exact Go.retI X8 hx hby hlk hret d8_10 (by decide) (by decide) ⟨rfl, rfl, e4⟩
set_option maxRecDepth 65536 in
set_option maxHeartbeats 40000000 in
theorem rmLE3_1 (l : Launch) (Z : State) (a0 : Array Value) (hw : ∀ d ∈ tables_1, d.before a0 Z = true) (a : Addr) (h0 : Heap) (n0 : Nat) (kk : Int32) (sf : Value) (b : Addr) (f0 : Int → Value) (O0 : Old Z n0 h0) (SS : own_S Z kk sf) (E0 : Exa Z h0 a "java/lang/String") (F1 : Fld Z h0 a "java/lang/String" "value" "[B" (.ref b)) (F2 : Fld Z h0 a "java/lang/String" "coder" "B" (.int 1)) (A0 : Ar Z h0 b .byte 6 f0) :
    Con l Z (⟨"java/lang/String", "length", "()I"⟩ : MethodName) jdk_42_method_54_code 1 (some .int) [] ({ frames := 1, cells := 0, slots := 0, locals := 13 } : Room) #[(.ref a)] h0 (PQ (some (.int 3)) h0) := by
  refine Con.of (plainFor_of_name pn_String) ?_
  intro p e s m below meth c s₁ hx hby hml hown hnm hret hlk hZ X0 e0
  refine Go.cast (ef_8 m a) ?_
  replace hown : s.vm.findClass "java/lang/String" = some m.cls := hown
  refine Go.aloadN (pc' := 1) X0 hx hby d8_0 rfl rfl rfl ?_
  refine Go.getF (pc' := 4) X0 hx hby hZ hown (hw _ (List.mem_of_getElem? (i := 21) rfl)) Via.refl e0 F1 d8_1 rfl ?_
  intro T1 X2 e3
  refine Go.alen (pc' := 5) (zv := (6 : Int32)) X2 hx hby hZ e3 A0 d8_4 rfl (by decide) ?_
  refine Go.aloadN (pc' := 6) X2 hx hby d8_5 rfl rfl rfl ?_
  refine Go.callV (C := "java/lang/String") (pc' := 9) (a := a) (W := 1) (argsL := []) (rest := [(.int (6 : Int32))]) X2 hx hby hZ hown (hw _ (List.mem_of_getElem? (i := 48) rfl)) (hw _ (List.mem_of_getElem? (i := 49) rfl)) (notFace_of_selects (args := #[]) (mvT hZ (hw _ (List.mem_of_getElem? (i := 51) rfl)))) (hw _ (List.mem_of_getElem? (i := 51) rfl)) (hw _ (List.mem_of_getElem? (i := 50) rfl)) (hw _ (List.mem_of_getElem? (i := 4) rfl)) (hw _ (List.mem_of_getElem? (i := 52) rfl)) (by decide) (rmCO1 l Z a0 hw a h0 n0 kk sf O0 SS F2) e3 E0 (by decide) (by decide) (by rw [hml]; rfl) pd_0 rfl rfl rfl (Nat.le_of_eq rfl) d8_6 rfl (by decide) (by decide) ?_
  rintro r5 T6 L7 X8 ⟨rfl, rfl, e4⟩
  rw [List.append_nil] at X8
  show Go p e below _ (T6.setTop (mkF m 9 #[.val (.ref a)] [(.int (1 : Int32)), (.int (6 : Int32))]))
  refine Go.ishr (pc' := 10) X8 hx hby d8_9 rfl ?_
  change Go p e below _ (T6.setTop (mkF m 10 #[.val (.ref a)] [(.int (3 : Int32))]))
  exact Go.retI X8 hx hby hlk hret d8_10 (by decide) (by decide) ⟨rfl, rfl, e4⟩
theorem d18_0 : decode jdk_43_method_23_code 0 = .ok (.iload_n 1, 1) := by decide +kernel
theorem d18_1 : decode jdk_43_method_23_code 1 = .ok (.i2b, 1) := by decide +kernel
theorem d18_2 : decode jdk_43_method_23_code 2 = .ok (.istore 4, 2) := by decide +kernel
theorem d18_4 : decode jdk_43_method_23_code 4 = .ok (.iload_n 2, 1) := by decide +kernel
theorem d18_5 : decode jdk_43_method_23_code 5 = .ok (.istore 5, 2) := by decide +kernel
theorem d18_7 : decode jdk_43_method_23_code 7 = .ok (.iload 5, 2) := by decide +kernel
theorem d18_9 : decode jdk_43_method_23_code 9 = .ok (.iload_n 3, 1) := by decide +kernel
theorem d18_10 : decode jdk_43_method_23_code 10 = .ok (.if_icmp .ge 21, 3) := by decide +kernel
theorem d18_13 : decode jdk_43_method_23_code 13 = .ok (.aload_n 0, 1) := by decide +kernel
theorem d18_14 : decode jdk_43_method_23_code 14 = .ok (.iload 5, 2) := by decide +kernel
theorem d18_16 : decode jdk_43_method_23_code 16 = .ok (.baload, 1) := by decide +kernel
theorem d18_17 : decode jdk_43_method_23_code 17 = .ok (.iload 4, 2) := by decide +kernel
theorem d18_19 : decode jdk_43_method_23_code 19 = .ok (.if_icmp .ne 6, 3) := by decide +kernel
theorem d18_22 : decode jdk_43_method_23_code 22 = .ok (.iload 5, 2) := by decide +kernel
theorem d18_24 : decode jdk_43_method_23_code 24 = .ok (.ireturn, 1) := by decide +kernel
theorem d18_25 : decode jdk_43_method_23_code 25 = .ok (.iinc 5 1, 3) := by decide +kernel
theorem d18_28 : decode jdk_43_method_23_code 28 = .ok (.goto (-21), 3) := by decide +kernel
theorem d18_31 : decode jdk_43_method_23_code 31 = .ok (.iconst (-1), 1) := by decide +kernel
theorem d18_32 : decode jdk_43_method_23_code 32 = .ok (.ireturn, 1) := by decide +kernel
theorem d10_0 : decode jdk_43_method_22_code 0 = .ok (.iload_n 1, 1) := by decide +kernel
theorem d10_1 : decode jdk_43_method_22_code 1 = .ok (.invokestatic 88, 3) := by decide +kernel
theorem d10_4 : decode jdk_43_method_22_code 4 = .ok (.ifCond .ne 5, 3) := by decide +kernel
theorem d10_7 : decode jdk_43_method_22_code 7 = .ok (.iconst (-1), 1) := by decide +kernel
theorem d10_8 : decode jdk_43_method_22_code 8 = .ok (.ireturn, 1) := by decide +kernel
theorem d10_9 : decode jdk_43_method_22_code 9 = .ok (.iload_n 2, 1) := by decide +kernel
theorem d10_10 : decode jdk_43_method_22_code 10 = .ok (.iconst 0, 1) := by decide +kernel
theorem d10_11 : decode jdk_43_method_22_code 11 = .ok (.invokestatic 92, 3) := by decide +kernel
theorem d10_14 : decode jdk_43_method_22_code 14 = .ok (.istore_n 2, 1) := by decide +kernel
theorem d10_15 : decode jdk_43_method_22_code 15 = .ok (.iload_n 3, 1) := by decide +kernel
theorem d10_16 : decode jdk_43_method_22_code 16 = .ok (.aload_n 0, 1) := by decide +kernel
theorem d10_17 : decode jdk_43_method_22_code 17 = .ok (.arraylength, 1) := by decide +kernel
theorem d10_18 : decode jdk_43_method_22_code 18 = .ok (.invokestatic 38, 3) := by decide +kernel
theorem d10_21 : decode jdk_43_method_22_code 21 = .ok (.istore_n 3, 1) := by decide +kernel
theorem d10_22 : decode jdk_43_method_22_code 22 = .ok (.iload_n 2, 1) := by decide +kernel
theorem d10_23 : decode jdk_43_method_22_code 23 = .ok (.iload_n 3, 1) := by decide +kernel
theorem d10_24 : decode jdk_43_method_22_code 24 = .ok (.if_icmp .lt 5, 3) := by decide +kernel
theorem d10_27 : decode jdk_43_method_22_code 27 = .ok (.iconst (-1), 1) := by decide +kernel
theorem d10_28 : decode jdk_43_method_22_code 28 = .ok (.ireturn, 1) := by decide +kernel
theorem d10_29 : decode jdk_43_method_22_code 29 = .ok (.aload_n 0, 1) := by decide +kernel
theorem d10_30 : decode jdk_43_method_22_code 30 = .ok (.iload_n 1, 1) := by decide +kernel
theorem d10_31 : decode jdk_43_method_22_code 31 = .ok (.iload_n 2, 1) := by decide +kernel
theorem d10_32 : decode jdk_43_method_22_code 32 = .ok (.iload_n 3, 1) := by decide +kernel
theorem d10_33 : decode jdk_43_method_22_code 33 = .ok (.invokestatic 95, 3) := by decide +kernel
theorem d10_36 : decode jdk_43_method_22_code 36 = .ok (.ireturn, 1) := by decide +kernel
theorem ef_18 (m : MethodId) (x0 : Addr) (x1 : Int32) (x2 : Int32) (x3 : Int32) : entryFrame m #[(.ref x0), (.int x1), (.int x2), (.int x3)] 6 = mkF m 0 #[.val (.ref x0), .val (.int x1), .val (.int x2), .val (.int x3), .unset, .unset] [] := by first | (simp [entryFrame, mkF, argsToLocals, Value.category]; done) | rfl
set_option maxRecDepth 65536 in
set_option maxHeartbeats 40000000 in
theorem rmLC1 (l : Launch) (Z : State) (a0 : Array Value) (hw : ∀ d ∈ tables_1, d.before a0 Z = true) (b : Addr) (ch : Int32) (x2 : Int32) (x3 : Int32) (h0 : Heap) (u0 u1 u2 : Int32) (B0 : 0 ≤ u0.toInt ∧ u0.toInt ≤ 65535) (B1 : 0 ≤ u1.toInt ∧ u1.toInt ≤ 65535) (B2 : 0 ≤ u2.toInt ∧ u2.toInt ≤ 65535) (hch : ch = 9 ∨ ch = 10) (h2 : x2 = 0) (h3 : x3 = 1) (l0 : u0 ≤ (255 : Int32)) (A0 : Ar Z h0 b .byte 1 (fun q => .int (own_lat (own_c u0 u1 u2 q)))) :
    Con l Z (⟨"java/lang/StringLatin1", "indexOfChar", "([BIII)I"⟩ : MethodName) jdk_43_method_23_code 6 (some .int) [] ({ frames := 0, cells := 0, slots := 0, locals := 0 } : Room) #[(.ref b), (.int ch), (.int x2), (.int x3)] h0 (PQ (some (.int (own_ix1 ch u0))) h0) := by
  refine Con.of (plainFor_of_name pn_StringLatin1) ?_
  intro p e s m below meth c s₁ hx hby hml hown hnm hret hlk hZ X0 e0
  refine Go.cast (ef_18 m b ch x2 x3) ?_
  replace hown : s.vm.findClass "java/lang/StringLatin1" = some m.cls := hown
  subst h2 h3
  show Go p e below _ (s₁.setTop (mkF m 0 #[.val (.ref b), .val (.int ch), .val (.int (0 : Int32)), .val (.int (1 : Int32)), .unset, .unset] []))
  refine Go.iloadN (pc' := 1) X0 hx hby d18_0 rfl rfl ?_
  refine Go.i2b (pc' := 2) X0 hx hby d18_1 rfl ?_
  refine Go.istore (Ls' := #[.val (.ref b), .val (.int ch), .val (.int (0 : Int32)), .val (.int (1 : Int32)), .val (.int ch.toInt8.toInt32), .unset]) (pc' := 4) X0 hx hby d18_2 rfl rfl ?_
  refine Go.iloadN (pc' := 5) X0 hx hby d18_4 rfl rfl ?_
  refine Go.istore (Ls' := #[.val (.ref b), .val (.int ch), .val (.int (0 : Int32)), .val (.int (1 : Int32)), .val (.int ch.toInt8.toInt32), .val (.int (0 : Int32))]) (pc' := 7) X0 hx hby d18_5 rfl rfl ?_
  refine Go.iload (pc' := 9) X0 hx hby d18_7 rfl rfl ?_
  refine Go.iloadN (pc' := 10) X0 hx hby d18_9 rfl rfl ?_
  refine Go.icmpN (pc' := 13) X0 hx hby d18_10 rfl (show ¬ ((1 : Int32) ≤ (0 : Int32)) from by decide) ?_
  refine Go.aloadN (pc' := 14) X0 hx hby d18_13 rfl rfl rfl ?_
  refine Go.iload (pc' := 16) X0 hx hby d18_14 rfl rfl ?_
  refine Go.baload (pc' := 17) (i := 0) (v := (.int (own_lat u0))) X0 hx hby hZ e0 A0 d18_16 rfl (by decide) (by decide) (by decide) rfl ?_
  refine Go.iload (pc' := 19) X0 hx hby d18_17 rfl rfl ?_
  refine Go.icmp (pc' := 25) (pn := 22) X0 hx hby d18_19 (by decide) (by decide) rfl (fun (t0_ : (own_lat u0) ≠ ch.toInt8.toInt32) => ?_) (fun (t0_ : ¬ ((own_lat u0) ≠ ch.toInt8.toInt32)) => ?_)
  rotate_left
  ·
    rw [ne_eq, own_lq B0 l0 hch, Decidable.not_not] at t0_
    refine Go.iload (pc' := 24) X0 hx hby d18_22 rfl rfl ?_
    exact Go.retI X0 hx hby hlk hret d18_24 (by decide) (by decide) ⟨by simp [own_ix1, t0_], rfl, e0⟩
  rw [ne_eq, own_lq B0 l0 hch] at t0_
  refine Go.iinc (w := (0 : Int32) + (1 : Int32)) (Ls' := #[.val (.ref b), .val (.int ch), .val (.int (0 : Int32)), .val (.int (1 : Int32)), .val (.int ch.toInt8.toInt32), .val (.int ((0 : Int32) + (1 : Int32)))]) (pc' := 28) X0 hx hby d18_25 rfl rfl rfl rfl ?_
  change Go p e below _ (s₁.setTop (mkF m 28 #[.val (.ref b), .val (.int ch), .val (.int (0 : Int32)), .val (.int (1 : Int32)), .val (.int ch.toInt8.toInt32), .val (.int (1 : Int32))] []))
  refine Go.goto (pc' := 7) X0 hx hby d18_28 (by decide) (by decide) ?_
  refine Go.iload (pc' := 9) X0 hx hby d18_7 rfl rfl ?_
  refine Go.iloadN (pc' := 10) X0 hx hby d18_9 rfl rfl ?_
  refine Go.icmpY (pc' := 31) X0 hx hby d18_10 (by decide) (by decide) (show (1 : Int32) ≤ (1 : Int32) from by decide) ?_
  refine Go.iconst (pc' := 32) X0 hx hby d18_31 rfl (v := (-1 : Int32)) (by decide) ?_
  exact Go.retI X0 hx hby hlk hret d18_32 (by decide) (by decide) ⟨by simp [own_ix1, t0_], rfl, e0⟩
set_option maxRecDepth 65536 in
set_option maxHeartbeats 40000000 in
theorem rmLC2 (l : Launch) (Z : State) (a0 : Array Value) (hw : ∀ d ∈ tables_1, d.before a0 Z = true) (b : Addr) (ch : Int32) (x2 : Int32) (x3 : Int32) (h0 : Heap) (u0 u1 u2 : Int32) (B0 : 0 ≤ u0.toInt ∧ u0.toInt ≤ 65535) (B1 : 0 ≤ u1.toInt ∧ u1.toInt ≤ 65535) (B2 : 0 ≤ u2.toInt ∧ u2.toInt ≤ 65535) (hch : ch = 9 ∨ ch = 10) (h2 : x2 = 0) (h3 : x3 = 2) (l0 : u0 ≤ (255 : Int32)) (l1 : u1 ≤ (255 : Int32)) (A0 : Ar Z h0 b .byte 2 (fun q => .int (own_lat (own_c u0 u1 u2 q)))) :
    Con l Z (⟨"java/lang/StringLatin1", "indexOfChar", "([BIII)I"⟩ : MethodName) jdk_43_method_23_code 6 (some .int) [] ({ frames := 0, cells := 0, slots := 0, locals := 0 } : Room) #[(.ref b), (.int ch), (.int x2), (.int x3)] h0 (PQ (some (.int (own_ix2 ch u0 u1))) h0) := by
  refine Con.of (plainFor_of_name pn_StringLatin1) ?_
  intro p e s m below meth c s₁ hx hby hml hown hnm hret hlk hZ X0 e0
  refine Go.cast (ef_18 m b ch x2 x3) ?_
  replace hown : s.vm.findClass "java/lang/StringLatin1" = some m.cls := hown
  subst h2 h3
  show Go p e below _ (s₁.setTop (mkF m 0 #[.val (.ref b), .val (.int ch), .val (.int (0 : Int32)), .val (.int (2 : Int32)), .unset, .unset] []))
  refine Go.iloadN (pc' := 1) X0 hx hby d18_0 rfl rfl ?_
  refine Go.i2b (pc' := 2) X0 hx hby d18_1 rfl ?_
  refine Go.istore (Ls' := #[.val (.ref b), .val (.int ch), .val (.int (0 : Int32)), .val (.int (2 : Int32)), .val (.int ch.toInt8.toInt32), .unset]) (pc' := 4) X0 hx hby d18_2 rfl rfl ?_
  refine Go.iloadN (pc' := 5) X0 hx hby d18_4 rfl rfl ?_
  refine Go.istore (Ls' := #[.val (.ref b), .val (.int ch), .val (.int (0 : Int32)), .val (.int (2 : Int32)), .val (.int ch.toInt8.toInt32), .val (.int (0 : Int32))]) (pc' := 7) X0 hx hby d18_5 rfl rfl ?_
  refine Go.iload (pc' := 9) X0 hx hby d18_7 rfl rfl ?_
  refine Go.iloadN (pc' := 10) X0 hx hby d18_9 rfl rfl ?_
  refine Go.icmpN (pc' := 13) X0 hx hby d18_10 rfl (show ¬ ((2 : Int32) ≤ (0 : Int32)) from by decide) ?_
  refine Go.aloadN (pc' := 14) X0 hx hby d18_13 rfl rfl rfl ?_
  refine Go.iload (pc' := 16) X0 hx hby d18_14 rfl rfl ?_
  refine Go.baload (pc' := 17) (i := 0) (v := (.int (own_lat u0))) X0 hx hby hZ e0 A0 d18_16 rfl (by decide) (by decide) (by decide) rfl ?_
  refine Go.iload (pc' := 19) X0 hx hby d18_17 rfl rfl ?_
  refine Go.icmp (pc' := 25) (pn := 22) X0 hx hby d18_19 (by decide) (by decide) rfl (fun (t0_ : (own_lat u0) ≠ ch.toInt8.toInt32) => ?_) (fun (t0_ : ¬ ((own_lat u0) ≠ ch.toInt8.toInt32)) => ?_)
  rotate_left
  ·
    rw [ne_eq, own_lq B0 l0 hch, Decidable.not_not] at t0_
    refine Go.iload (pc' := 24) X0 hx hby d18_22 rfl rfl ?_
    exact Go.retI X0 hx hby hlk hret d18_24 (by decide) (by decide) ⟨by simp [own_ix2, t0_], rfl, e0⟩
  rw [ne_eq, own_lq B0 l0 hch] at t0_
  refine Go.iinc (w := (0 : Int32) + (1 : Int32)) (Ls' := #[.val (.ref b), .val (.int ch), .val (.int (0 : Int32)), .val (.int (2 : Int32)), .val (.int ch.toInt8.toInt32), .val (.int ((0 : Int32) + (1 : Int32)))]) (pc' := 28) X0 hx hby d18_25 rfl rfl rfl rfl ?_
  change Go p e below _ (s₁.setTop (mkF m 28 #[.val (.ref b), .val (.int ch), .val (.int (0 : Int32)), .val (.int (2 : Int32)), .val (.int ch.toInt8.toInt32), .val (.int (1 : Int32))] []))
  refine Go.goto (pc' := 7) X0 hx hby d18_28 (by decide) (by decide) ?_
  refine Go.iload (pc' := 9) X0 hx hby d18_7 rfl rfl ?_
  refine Go.iloadN (pc' := 10) X0 hx hby d18_9 rfl rfl ?_
  refine Go.icmpN (pc' := 13) X0 hx hby d18_10 rfl (show ¬ ((2 : Int32) ≤ (1 : Int32)) from by decide) ?_
  refine Go.aloadN (pc' := 14) X0 hx hby d18_13 rfl rfl rfl ?_
  refine Go.iload (pc' := 16) X0 hx hby d18_14 rfl rfl ?_
  refine Go.baload (pc' := 17) (i := 1) (v := (.int (own_lat u1))) X0 hx hby hZ e0 A0 d18_16 rfl (by decide) (by decide) (by decide) rfl ?_
  refine Go.iload (pc' := 19) X0 hx hby d18_17 rfl rfl ?_
  refine Go.icmp (pc' := 25) (pn := 22) X0 hx hby d18_19 (by decide) (by decide) rfl (fun (t1_ : (own_lat u1) ≠ ch.toInt8.toInt32) => ?_) (fun (t1_ : ¬ ((own_lat u1) ≠ ch.toInt8.toInt32)) => ?_)
  rotate_left
  ·
    rw [ne_eq, own_lq B1 l1 hch, Decidable.not_not] at t1_
    refine Go.iload (pc' := 24) X0 hx hby d18_22 rfl rfl ?_
    exact Go.retI X0 hx hby hlk hret d18_24 (by decide) (by decide) ⟨by simp [own_ix2, t0_, t1_], rfl, e0⟩
  rw [ne_eq, own_lq B1 l1 hch] at t1_
  refine Go.iinc (w := (1 : Int32) + (1 : Int32)) (Ls' := #[.val (.ref b), .val (.int ch), .val (.int (0 : Int32)), .val (.int (2 : Int32)), .val (.int ch.toInt8.toInt32), .val (.int ((1 : Int32) + (1 : Int32)))]) (pc' := 28) X0 hx hby d18_25 rfl rfl rfl rfl ?_
  change Go p e below _ (s₁.setTop (mkF m 28 #[.val (.ref b), .val (.int ch), .val (.int (0 : Int32)), .val (.int (2 : Int32)), .val (.int ch.toInt8.toInt32), .val (.int (2 : Int32))] []))
  refine Go.goto (pc' := 7) X0 hx hby d18_28 (by decide) (by decide) ?_
  refine Go.iload (pc' := 9) X0 hx hby d18_7 rfl rfl ?_
  refine Go.iloadN (pc' := 10) X0 hx hby d18_9 rfl rfl ?_
  refine Go.icmpY (pc' := 31) X0 hx hby d18_10 (by decide) (by decide) (show (2 : Int32) ≤ (2 : Int32) from by decide) ?_
  refine Go.iconst (pc' := 32) X0 hx hby d18_31 rfl (v := (-1 : Int32)) (by decide) ?_
  exact Go.retI X0 hx hby hlk hret d18_32 (by decide) (by decide) ⟨by simp [own_ix2, t0_, t1_], rfl, e0⟩
set_option maxRecDepth 65536 in
set_option maxHeartbeats 40000000 in
theorem rmLC3 (l : Launch) (Z : State) (a0 : Array Value) (hw : ∀ d ∈ tables_1, d.before a0 Z = true) (b : Addr) (ch : Int32) (x2 : Int32) (x3 : Int32) (h0 : Heap) (u0 u1 u2 : Int32) (B0 : 0 ≤ u0.toInt ∧ u0.toInt ≤ 65535) (B1 : 0 ≤ u1.toInt ∧ u1.toInt ≤ 65535) (B2 : 0 ≤ u2.toInt ∧ u2.toInt ≤ 65535) (hch : ch = 9 ∨ ch = 10) (h2 : x2 = 0) (h3 : x3 = 3) (l0 : u0 ≤ (255 : Int32)) (l1 : u1 ≤ (255 : Int32)) (l2 : u2 ≤ (255 : Int32)) (A0 : Ar Z h0 b .byte 3 (fun q => .int (own_lat (own_c u0 u1 u2 q)))) :
    Con l Z (⟨"java/lang/StringLatin1", "indexOfChar", "([BIII)I"⟩ : MethodName) jdk_43_method_23_code 6 (some .int) [] ({ frames := 0, cells := 0, slots := 0, locals := 0 } : Room) #[(.ref b), (.int ch), (.int x2), (.int x3)] h0 (PQ (some (.int (own_ix3 ch u0 u1 u2))) h0) := by
  refine Con.of (plainFor_of_name pn_StringLatin1) ?_
  intro p e s m below meth c s₁ hx hby hml hown hnm hret hlk hZ X0 e0
  refine Go.cast (ef_18 m b ch x2 x3) ?_
  replace hown : s.vm.findClass "java/lang/StringLatin1" = some m.cls := hown
  subst h2 h3
  show Go p e below _ (s₁.setTop (mkF m 0 #[.val (.ref b), .val (.int ch), .val (.int (0 : Int32)), .val (.int (3 : Int32)), .unset, .unset] []))
  refine Go.iloadN (pc' := 1) X0 hx hby d18_0 rfl rfl ?_
  refine Go.i2b (pc' := 2) X0 hx hby d18_1 rfl ?_
  refine Go.istore (Ls' := #[.val (.ref b), .val (.int ch), .val (.int (0 : Int32)), .val (.int (3 : Int32)), .val (.int ch.toInt8.toInt32), .unset]) (pc' := 4) X0 hx hby d18_2 rfl rfl ?_
  refine Go.iloadN (pc' := 5) X0 hx hby d18_4 rfl rfl ?_
  refine Go.istore (Ls' := #[.val (.ref b), .val (.int ch), .val (.int (0 : Int32)), .val (.int (3 : Int32)), .val (.int ch.toInt8.toInt32), .val (.int (0 : Int32))]) (pc' := 7) X0 hx hby d18_5 rfl rfl ?_
  refine Go.iload (pc' := 9) X0 hx hby d18_7 rfl rfl ?_
  refine Go.iloadN (pc' := 10) X0 hx hby d18_9 rfl rfl ?_
  refine Go.icmpN (pc' := 13) X0 hx hby d18_10 rfl (show ¬ ((3 : Int32) ≤ (0 : Int32)) from by decide) ?_
  refine Go.aloadN (pc' := 14) X0 hx hby d18_13 rfl rfl rfl ?_
  refine Go.iload (pc' := 16) X0 hx hby d18_14 rfl rfl ?_
  refine Go.baload (pc' := 17) (i := 0) (v := (.int (own_lat u0))) X0 hx hby hZ e0 A0 d18_16 rfl (by decide) (by decide) (by decide) rfl ?_
  refine Go.iload (pc' := 19) X0 hx hby d18_17 rfl rfl ?_
  refine Go.icmp (pc' := 25) (pn := 22) X0 hx hby d18_19 (by decide) (by decide) rfl (fun (t0_ : (own_lat u0) ≠ ch.toInt8.toInt32) => ?_) (fun (t0_ : ¬ ((own_lat u0) ≠ ch.toInt8.toInt32)) => ?_)
  rotate_left
  ·
    rw [ne_eq, own_lq B0 l0 hch, Decidable.not_not] at t0_
    refine Go.iload (pc' := 24) X0 hx hby d18_22 rfl rfl ?_
    exact Go.retI X0 hx hby hlk hret d18_24 (by decide) (by decide) ⟨by simp [own_ix3, t0_], rfl, e0⟩
  rw [ne_eq, own_lq B0 l0 hch] at t0_
  refine Go.iinc (w := (0 : Int32) + (1 : Int32)) (Ls' := #[.val (.ref b), .val (.int ch), .val (.int (0 : Int32)), .val (.int (3 : Int32)), .val (.int ch.toInt8.toInt32), .val (.int ((0 : Int32) + (1 : Int32)))]) (pc' := 28) X0 hx hby d18_25 rfl rfl rfl rfl ?_
  change Go p e below _ (s₁.setTop (mkF m 28 #[.val (.ref b), .val (.int ch), .val (.int (0 : Int32)), .val (.int (3 : Int32)), .val (.int ch.toInt8.toInt32), .val (.int (1 : Int32))] []))
  refine Go.goto (pc' := 7) X0 hx hby d18_28 (by decide) (by decide) ?_
  refine Go.iload (pc' := 9) X0 hx hby d18_7 rfl rfl ?_
  refine Go.iloadN (pc' := 10) X0 hx hby d18_9 rfl rfl ?_
  refine Go.icmpN (pc' := 13) X0 hx hby d18_10 rfl (show ¬ ((3 : Int32) ≤ (1 : Int32)) from by decide) ?_
  refine Go.aloadN (pc' := 14) X0 hx hby d18_13 rfl rfl rfl ?_
  refine Go.iload (pc' := 16) X0 hx hby d18_14 rfl rfl ?_
  refine Go.baload (pc' := 17) (i := 1) (v := (.int (own_lat u1))) X0 hx hby hZ e0 A0 d18_16 rfl (by decide) (by decide) (by decide) rfl ?_
  refine Go.iload (pc' := 19) X0 hx hby d18_17 rfl rfl ?_
  refine Go.icmp (pc' := 25) (pn := 22) X0 hx hby d18_19 (by decide) (by decide) rfl (fun (t1_ : (own_lat u1) ≠ ch.toInt8.toInt32) => ?_) (fun (t1_ : ¬ ((own_lat u1) ≠ ch.toInt8.toInt32)) => ?_)
  rotate_left
  ·
    rw [ne_eq, own_lq B1 l1 hch, Decidable.not_not] at t1_
    refine Go.iload (pc' := 24) X0 hx hby d18_22 rfl rfl ?_
    exact Go.retI X0 hx hby hlk hret d18_24 (by decide) (by decide) ⟨by simp [own_ix3, t0_, t1_], rfl, e0⟩
  rw [ne_eq, own_lq B1 l1 hch] at t1_
  refine Go.iinc (w := (1 : Int32) + (1 : Int32)) (Ls' := #[.val (.ref b), .val (.int ch), .val (.int (0 : Int32)), .val (.int (3 : Int32)), .val (.int ch.toInt8.toInt32), .val (.int ((1 : Int32) + (1 : Int32)))]) (pc' := 28) X0 hx hby d18_25 rfl rfl rfl rfl ?_
  change Go p e below _ (s₁.setTop (mkF m 28 #[.val (.ref b), .val (.int ch), .val (.int (0 : Int32)), .val (.int (3 : Int32)), .val (.int ch.toInt8.toInt32), .val (.int (2 : Int32))] []))
  refine Go.goto (pc' := 7) X0 hx hby d18_28 (by decide) (by decide) ?_
  refine Go.iload (pc' := 9) X0 hx hby d18_7 rfl rfl ?_
  refine Go.iloadN (pc' := 10) X0 hx hby d18_9 rfl rfl ?_
  refine Go.icmpN (pc' := 13) X0 hx hby d18_10 rfl (show ¬ ((3 : Int32) ≤ (2 : Int32)) from by decide) ?_
  refine Go.aloadN (pc' := 14) X0 hx hby d18_13 rfl rfl rfl ?_
  refine Go.iload (pc' := 16) X0 hx hby d18_14 rfl rfl ?_
  refine Go.baload (pc' := 17) (i := 2) (v := (.int (own_lat u2))) X0 hx hby hZ e0 A0 d18_16 rfl (by decide) (by decide) (by decide) rfl ?_
  refine Go.iload (pc' := 19) X0 hx hby d18_17 rfl rfl ?_
  refine Go.icmp (pc' := 25) (pn := 22) X0 hx hby d18_19 (by decide) (by decide) rfl (fun (t2_ : (own_lat u2) ≠ ch.toInt8.toInt32) => ?_) (fun (t2_ : ¬ ((own_lat u2) ≠ ch.toInt8.toInt32)) => ?_)
  rotate_left
  ·
    rw [ne_eq, own_lq B2 l2 hch, Decidable.not_not] at t2_
    refine Go.iload (pc' := 24) X0 hx hby d18_22 rfl rfl ?_
    exact Go.retI X0 hx hby hlk hret d18_24 (by decide) (by decide) ⟨by simp [own_ix3, t0_, t1_, t2_], rfl, e0⟩
  rw [ne_eq, own_lq B2 l2 hch] at t2_
  refine Go.iinc (w := (2 : Int32) + (1 : Int32)) (Ls' := #[.val (.ref b), .val (.int ch), .val (.int (0 : Int32)), .val (.int (3 : Int32)), .val (.int ch.toInt8.toInt32), .val (.int ((2 : Int32) + (1 : Int32)))]) (pc' := 28) X0 hx hby d18_25 rfl rfl rfl rfl ?_
  change Go p e below _ (s₁.setTop (mkF m 28 #[.val (.ref b), .val (.int ch), .val (.int (0 : Int32)), .val (.int (3 : Int32)), .val (.int ch.toInt8.toInt32), .val (.int (3 : Int32))] []))
  refine Go.goto (pc' := 7) X0 hx hby d18_28 (by decide) (by decide) ?_
  refine Go.iload (pc' := 9) X0 hx hby d18_7 rfl rfl ?_
  refine Go.iloadN (pc' := 10) X0 hx hby d18_9 rfl rfl ?_
  refine Go.icmpY (pc' := 31) X0 hx hby d18_10 (by decide) (by decide) (show (3 : Int32) ≤ (3 : Int32) from by decide) ?_
  refine Go.iconst (pc' := 32) X0 hx hby d18_31 rfl (v := (-1 : Int32)) (by decide) ?_
  exact Go.retI X0 hx hby hlk hret d18_32 (by decide) (by decide) ⟨by simp [own_ix3, t0_, t1_, t2_], rfl, e0⟩
theorem ef_10 (m : MethodId) (x0 : Addr) (x1 : Int32) (x2 : Int32) (x3 : Int32) : entryFrame m #[(.ref x0), (.int x1), (.int x2), (.int x3)] 4 = mkF m 0 #[.val (.ref x0), .val (.int x1), .val (.int x2), .val (.int x3)] [] := by first | (simp [entryFrame, mkF, argsToLocals, Value.category]; done) | rfl
set_option maxRecDepth 65536 in
set_option maxHeartbeats 40000000 in
theorem rmLI0 (l : Launch) (Z : State) (a0 : Array Value) (hw : ∀ d ∈ tables_1, d.before a0 Z = true) (b : Addr) (ch : Int32) (x2 : Int32) (x3 : Int32) (h0 : Heap) (f0 : Int → Value)  (hch : ch = 9 ∨ ch = 10) (h2 : x2 = 0) (h3 : x3 = 0)  (A0 : Ar Z h0 b .byte 0 f0) :
    Con l Z (⟨"java/lang/StringLatin1", "indexOf", "([BIII)I"⟩ : MethodName) jdk_43_method_22_code 4 (some .int) [] ({ frames := 1, cells := 0, slots := 0, locals := 13 } : Room) #[(.ref b), (.int ch), (.int x2), (.int x3)] h0 (PQ (some (.int (own_ix0 ch))) h0) := by
  refine Con.of (plainFor_of_name pn_StringLatin1) ?_
  intro p e s m below meth c s₁ hx hby hml hown hnm hret hlk hZ X0 e0
  refine Go.cast (ef_10 m b ch x2 x3) ?_
  replace hown : s.vm.findClass "java/lang/StringLatin1" = some m.cls := hown
  subst h2 h3
  show Go p e below _ (s₁.setTop (mkF m 0 #[.val (.ref b), .val (.int ch), .val (.int (0 : Int32)), .val (.int (0 : Int32))] []))
  refine Go.iloadN (pc' := 1) X0 hx hby d10_0 rfl rfl ?_
  refine Go.callS (pc' := 4) (W := 0) (argsL := [(.int ch)]) (rest := []) X0 hx hby hZ hown (hw _ (List.mem_of_getElem? (i := 57) rfl)) (hw _ (List.mem_of_getElem? (i := 58) rfl)) (hw _ (List.mem_of_getElem? (i := 55) rfl)) (hw _ (List.mem_of_getElem? (i := 59) rfl)) (by decide) (rmEnc l Z a0 hw ch h0 hch) e0 (by decide) (by decide) (by rw [hml]; rfl) pd_6 rfl rfl rfl (Nat.le_of_eq rfl) d10_1 rfl (by decide) (by decide) ?_
  rintro r2 T3 L4 X5 ⟨rfl, rfl, e1⟩
  rw [List.append_nil] at X5
  show Go p e below _ (T3.setTop (mkF m 4 #[.val (.ref b), .val (.int ch), .val (.int (0 : Int32)), .val (.int (0 : Int32))] [(.int (1 : Int32))]))
  refine Go.ifY (pc' := 9) X5 hx hby d10_4 (by decide) (by decide) (show (1 : Int32) ≠ 0 from by decide) ?_
  refine Go.iloadN (pc' := 10) X5 hx hby d10_9 rfl rfl ?_
  refine Go.iconst (pc' := 11) X5 hx hby d10_10 rfl (v := (0 : Int32)) (by decide) ?_
  refine Go.callS (pc' := 14) (W := 0) (argsL := [(.int (0 : Int32)), (.int (0 : Int32))]) (rest := []) X5 hx hby hZ hown (hw _ (List.mem_of_getElem? (i := 60) rfl)) (hw _ (List.mem_of_getElem? (i := 61) rfl)) (hw _ (List.mem_of_getElem? (i := 62) rfl)) (hw _ (List.mem_of_getElem? (i := 63) rfl)) (by decide) (rmMax l Z a0 hw 0 0 h0 rfl) e1 (by decide) (by decide) (by rw [hml]; rfl) pd_8 rfl rfl rfl (Nat.le_of_eq rfl) d10_11 rfl (by decide) (by decide) ?_
  rintro r7 T8 L9 X10 ⟨rfl, rfl, e6⟩
  rw [List.append_nil] at X10
  show Go p e below _ (T8.setTop (mkF m 14 #[.val (.ref b), .val (.int ch), .val (.int (0 : Int32)), .val (.int (0 : Int32))] [(.int (0 : Int32))]))
  refine Go.istoreN (Ls' := #[.val (.ref b), .val (.int ch), .val (.int (0 : Int32)), .val (.int (0 : Int32))]) (pc' := 15) X10 hx hby d10_14 rfl rfl ?_
  refine Go.iloadN (pc' := 16) X10 hx hby d10_15 rfl rfl ?_
  refine Go.aloadN (pc' := 17) X10 hx hby d10_16 rfl rfl rfl ?_
  refine Go.alen (pc' := 18) (zv := (0 : Int32)) X10 hx hby hZ e6 A0 d10_17 rfl (by decide) ?_
  refine Go.callS (pc' := 21) (W := 0) (argsL := [(.int (0 : Int32)), (.int (0 : Int32))]) (rest := []) X10 hx hby hZ hown (hw _ (List.mem_of_getElem? (i := 64) rfl)) (hw _ (List.mem_of_getElem? (i := 65) rfl)) (hw _ (List.mem_of_getElem? (i := 62) rfl)) (hw _ (List.mem_of_getElem? (i := 66) rfl)) (by decide) (rmMin l Z a0 hw 0 0 h0 rfl) e6 (by decide) (by decide) (by rw [hml]; rfl) pd_8 rfl rfl rfl (Nat.le_of_eq rfl) d10_18 rfl (by decide) (by decide) ?_
  rintro r12 T13 L14 X15 ⟨rfl, rfl, e11⟩
  rw [List.append_nil] at X15
  show Go p e below _ (T13.setTop (mkF m 21 #[.val (.ref b), .val (.int ch), .val (.int (0 : Int32)), .val (.int (0 : Int32))] [(.int (0 : Int32))]))
  refine Go.istoreN (Ls' := #[.val (.ref b), .val (.int ch), .val (.int (0 : Int32)), .val (.int (0 : Int32))]) (pc' := 22) X15 hx hby d10_21 rfl rfl ?_
  refine Go.iloadN (pc' := 23) X15 hx hby d10_22 rfl rfl ?_
  refine Go.iloadN (pc' := 24) X15 hx hby d10_23 rfl rfl ?_
  refine Go.icmpN (pc' := 27) X15 hx hby d10_24 rfl (show ¬ ((0 : Int32) < (0 : Int32)) from by decide) ?_
  refine Go.iconst (pc' := 28) X15 hx hby d10_27 rfl (v := (-1 : Int32)) (by decide) ?_
  exact Go.retI X15 hx hby hlk hret d10_28 (by decide) (by decide) ⟨rfl, rfl, e11⟩
set_option maxRecDepth 65536 in
set_option maxHeartbeats 40000000 in
theorem rmLI1 (l : Launch) (Z : State) (a0 : Array Value) (hw : ∀ d ∈ tables_1, d.before a0 Z = true) (b : Addr) (ch : Int32) (x2 : Int32) (x3 : Int32) (h0 : Heap) (u0 u1 u2 : Int32) (B0 : 0 ≤ u0.toInt ∧ u0.toInt ≤ 65535) (B1 : 0 ≤ u1.toInt ∧ u1.toInt ≤ 65535) (B2 : 0 ≤ u2.toInt ∧ u2.toInt ≤ 65535) (hch : ch = 9 ∨ ch = 10) (h2 : x2 = 0) (h3 : x3 = 1) (l0 : u0 ≤ (255 : Int32)) (A0 : Ar Z h0 b .byte 1 (fun q => .int (own_lat (own_c u0 u1 u2 q)))) :
    Con l Z (⟨"java/lang/StringLatin1", "indexOf", "([BIII)I"⟩ : MethodName) jdk_43_method_22_code 4 (some .int) [] ({ frames := 1, cells := 0, slots := 0, locals := 17 } : Room) #[(.ref b), (.int ch), (.int x2), (.int x3)] h0 (PQ (some (.int (own_ix1 ch u0))) h0) := by
  refine Con.of (plainFor_of_name pn_StringLatin1) ?_
  intro p e s m below meth c s₁ hx hby hml hown hnm hret hlk hZ X0 e0
  refine Go.cast (ef_10 m b ch x2 x3) ?_
  replace hown : s.vm.findClass "java/lang/StringLatin1" = some m.cls := hown
  subst h2 h3
  show Go p e below _ (s₁.setTop (mkF m 0 #[.val (.ref b), .val (.int ch), .val (.int (0 : Int32)), .val (.int (1 : Int32))] []))
  refine Go.iloadN (pc' := 1) X0 hx hby d10_0 rfl rfl ?_
  refine Go.callS (pc' := 4) (W := 0) (argsL := [(.int ch)]) (rest := []) X0 hx hby hZ hown (hw _ (List.mem_of_getElem? (i := 57) rfl)) (hw _ (List.mem_of_getElem? (i := 58) rfl)) (hw _ (List.mem_of_getElem? (i := 55) rfl)) (hw _ (List.mem_of_getElem? (i := 59) rfl)) (by decide) (rmEnc l Z a0 hw ch h0 hch) e0 (by decide) (by decide) (by rw [hml]; rfl) pd_6 rfl rfl rfl (Nat.le_of_eq rfl) d10_1 rfl (by decide) (by decide) ?_
  rintro r2 T3 L4 X5 ⟨rfl, rfl, e1⟩
  rw [List.append_nil] at X5
  show Go p e below _ (T3.setTop (mkF m 4 #[.val (.ref b), .val (.int ch), .val (.int (0 : Int32)), .val (.int (1 : Int32))] [(.int (1 : Int32))]))
  refine Go.ifY (pc' := 9) X5 hx hby d10_4 (by decide) (by decide) (show (1 : Int32) ≠ 0 from by decide) ?_
  refine Go.iloadN (pc' := 10) X5 hx hby d10_9 rfl rfl ?_
  refine Go.iconst (pc' := 11) X5 hx hby d10_10 rfl (v := (0 : Int32)) (by decide) ?_
  refine Go.callS (pc' := 14) (W := 0) (argsL := [(.int (0 : Int32)), (.int (0 : Int32))]) (rest := []) X5 hx hby hZ hown (hw _ (List.mem_of_getElem? (i := 60) rfl)) (hw _ (List.mem_of_getElem? (i := 61) rfl)) (hw _ (List.mem_of_getElem? (i := 62) rfl)) (hw _ (List.mem_of_getElem? (i := 63) rfl)) (by decide) (rmMax l Z a0 hw 0 0 h0 rfl) e1 (by decide) (by decide) (by rw [hml]; rfl) pd_8 rfl rfl rfl (Nat.le_of_eq rfl) d10_11 rfl (by decide) (by decide) ?_
  rintro r7 T8 L9 X10 ⟨rfl, rfl, e6⟩
  rw [List.append_nil] at X10
  show Go p e below _ (T8.setTop (mkF m 14 #[.val (.ref b), .val (.int ch), .val (.int (0 : Int32)), .val (.int (1 : Int32))] [(.int (0 : Int32))]))
  refine Go.istoreN (Ls' := #[.val (.ref b), .val (.int ch), .val (.int (0 : Int32)), .val (.int (1 : Int32))]) (pc' := 15) X10 hx hby d10_14 rfl rfl ?_
  refine Go.iloadN (pc' := 16) X10 hx hby d10_15 rfl rfl ?_
  refine Go.aloadN (pc' := 17) X10 hx hby d10_16 rfl rfl rfl ?_
  refine Go.alen (pc' := 18) (zv := (1 : Int32)) X10 hx hby hZ e6 A0 d10_17 rfl (by decide) ?_
  refine Go.callS (pc' := 21) (W := 0) (argsL := [(.int (1 : Int32)), (.int (1 : Int32))]) (rest := []) X10 hx hby hZ hown (hw _ (List.mem_of_getElem? (i := 64) rfl)) (hw _ (List.mem_of_getElem? (i := 65) rfl)) (hw _ (List.mem_of_getElem? (i := 62) rfl)) (hw _ (List.mem_of_getElem? (i := 66) rfl)) (by decide) (rmMin l Z a0 hw 1 1 h0 rfl) e6 (by decide) (by decide) (by rw [hml]; rfl) pd_8 rfl rfl rfl (Nat.le_of_eq rfl) d10_18 rfl (by decide) (by decide) ?_
  rintro r12 T13 L14 X15 ⟨rfl, rfl, e11⟩
  rw [List.append_nil] at X15
  show Go p e below _ (T13.setTop (mkF m 21 #[.val (.ref b), .val (.int ch), .val (.int (0 : Int32)), .val (.int (1 : Int32))] [(.int (1 : Int32))]))
  refine Go.istoreN (Ls' := #[.val (.ref b), .val (.int ch), .val (.int (0 : Int32)), .val (.int (1 : Int32))]) (pc' := 22) X15 hx hby d10_21 rfl rfl ?_
  refine Go.iloadN (pc' := 23) X15 hx hby d10_22 rfl rfl ?_
  refine Go.iloadN (pc' := 24) X15 hx hby d10_23 rfl rfl ?_
  refine Go.icmpY (pc' := 29) X15 hx hby d10_24 (by decide) (by decide) (show (0 : Int32) < (1 : Int32) from by decide) ?_
  refine Go.aloadN (pc' := 30) X15 hx hby d10_29 rfl rfl rfl ?_
  refine Go.iloadN (pc' := 31) X15 hx hby d10_30 rfl rfl ?_
  refine Go.iloadN (pc' := 32) X15 hx hby d10_31 rfl rfl ?_
  refine Go.iloadN (pc' := 33) X15 hx hby d10_32 rfl rfl ?_
  refine Go.callS (pc' := 36) (W := 0) (argsL := [(.ref b), (.int ch), (.int (0 : Int32)), (.int (1 : Int32))]) (rest := []) X15 hx hby hZ hown (hw _ (List.mem_of_getElem? (i := 81) rfl)) (hw _ (List.mem_of_getElem? (i := 82) rfl)) (hw _ (List.mem_of_getElem? (i := 55) rfl)) (hw _ (List.mem_of_getElem? (i := 83) rfl)) (by decide) (rmLC1 l Z a0 hw b ch 0 1 h0 u0 u1 u2 B0 B1 B2 hch rfl rfl l0 A0) e11 (by decide) (by decide) (by rw [hml]; rfl) pd_17 rfl rfl rfl (Nat.le_of_eq rfl) d10_33 rfl (by decide) (by decide) ?_
  rintro r17 T18 L19 X20 ⟨rfl, rfl, e16⟩
  rw [List.append_nil] at X20
  show Go p e below _ (T18.setTop (mkF m 36 #[.val (.ref b), .val (.int ch), .val (.int (0 : Int32)), .val (.int (1 : Int32))] [(.int (own_ix1 ch u0))]))
  exact Go.retI X20 hx hby hlk hret d10_36 (by decide) (by decide) ⟨rfl, rfl, e16⟩
set_option maxRecDepth 65536 in
set_option maxHeartbeats 40000000 in
theorem rmLI2 (l : Launch) (Z : State) (a0 : Array Value) (hw : ∀ d ∈ tables_1, d.before a0 Z = true) (b : Addr) (ch : Int32) (x2 : Int32) (x3 : Int32) (h0 : Heap) (u0 u1 u2 : Int32) (B0 : 0 ≤ u0.toInt ∧ u0.toInt ≤ 65535) (B1 : 0 ≤ u1.toInt ∧ u1.toInt ≤ 65535) (B2 : 0 ≤ u2.toInt ∧ u2.toInt ≤ 65535) (hch : ch = 9 ∨ ch = 10) (h2 : x2 = 0) (h3 : x3 = 2) (l0 : u0 ≤ (255 : Int32)) (l1 : u1 ≤ (255 : Int32)) (A0 : Ar Z h0 b .byte 2 (fun q => .int (own_lat (own_c u0 u1 u2 q)))) :
    Con l Z (⟨"java/lang/StringLatin1", "indexOf", "([BIII)I"⟩ : MethodName) jdk_43_method_22_code 4 (some .int) [] ({ frames := 1, cells := 0, slots := 0, locals := 17 } : Room) #[(.ref b), (.int ch), (.int x2), (.int x3)] h0 (PQ (some (.int (own_ix2 ch u0 u1))) h0) := by
  refine Con.of (plainFor_of_name pn_StringLatin1) ?_
  intro p e s m below meth c s₁ hx hby hml hown hnm hret hlk hZ X0 e0
  refine Go.cast (ef_10 m b ch x2 x3) ?_
  replace hown : s.vm.findClass "java/lang/StringLatin1" = some m.cls := hown
  subst h2 h3
  show Go p e below _ (s₁.setTop (mkF m 0 #[.val (.ref b), .val (.int ch), .val (.int (0 : Int32)), .val (.int (2 : Int32))] []))
  refine Go.iloadN (pc' := 1) X0 hx hby d10_0 rfl rfl ?_
  refine Go.callS (pc' := 4) (W := 0) (argsL := [(.int ch)]) (rest := []) X0 hx hby hZ hown (hw _ (List.mem_of_getElem? (i := 57) rfl)) (hw _ (List.mem_of_getElem? (i := 58) rfl)) (hw _ (List.mem_of_getElem? (i := 55) rfl)) (hw _ (List.mem_of_getElem? (i := 59) rfl)) (by decide) (rmEnc l Z a0 hw ch h0 hch) e0 (by decide) (by decide) (by rw [hml]; rfl) pd_6 rfl rfl rfl (Nat.le_of_eq rfl) d10_1 rfl (by decide) (by decide) ?_
  rintro r2 T3 L4 X5 ⟨rfl, rfl, e1⟩
  rw [List.append_nil] at X5
  show Go p e below _ (T3.setTop (mkF m 4 #[.val (.ref b), .val (.int ch), .val (.int (0 : Int32)), .val (.int (2 : Int32))] [(.int (1 : Int32))]))
  refine Go.ifY (pc' := 9) X5 hx hby d10_4 (by decide) (by decide) (show (1 : Int32) ≠ 0 from by decide) ?_
  refine Go.iloadN (pc' := 10) X5 hx hby d10_9 rfl rfl ?_
  refine Go.iconst (pc' := 11) X5 hx hby d10_10 rfl (v := (0 : Int32)) (by decide) ?_
  refine Go.callS (pc' := 14) (W := 0) (argsL := [(.int (0 : Int32)), (.int (0 : Int32))]) (rest := []) X5 hx hby hZ hown (hw _ (List.mem_of_getElem? (i := 60) rfl)) (hw _ (List.mem_of_getElem? (i := 61) rfl)) (hw _ (List.mem_of_getElem? (i := 62) rfl)) (hw _ (List.mem_of_getElem? (i := 63) rfl)) (by decide) (rmMax l Z a0 hw 0 0 h0 rfl) e1 (by decide) (by decide) (by rw [hml]; rfl) pd_8 rfl rfl rfl (Nat.le_of_eq rfl) d10_11 rfl (by decide) (by decide) ?_
  rintro r7 T8 L9 X10 ⟨rfl, rfl, e6⟩
  rw [List.append_nil] at X10
  show Go p e below _ (T8.setTop (mkF m 14 #[.val (.ref b), .val (.int ch), .val (.int (0 : Int32)), .val (.int (2 : Int32))] [(.int (0 : Int32))]))
  refine Go.istoreN (Ls' := #[.val (.ref b), .val (.int ch), .val (.int (0 : Int32)), .val (.int (2 : Int32))]) (pc' := 15) X10 hx hby d10_14 rfl rfl ?_
  refine Go.iloadN (pc' := 16) X10 hx hby d10_15 rfl rfl ?_
  refine Go.aloadN (pc' := 17) X10 hx hby d10_16 rfl rfl rfl ?_
  refine Go.alen (pc' := 18) (zv := (2 : Int32)) X10 hx hby hZ e6 A0 d10_17 rfl (by decide) ?_
  refine Go.callS (pc' := 21) (W := 0) (argsL := [(.int (2 : Int32)), (.int (2 : Int32))]) (rest := []) X10 hx hby hZ hown (hw _ (List.mem_of_getElem? (i := 64) rfl)) (hw _ (List.mem_of_getElem? (i := 65) rfl)) (hw _ (List.mem_of_getElem? (i := 62) rfl)) (hw _ (List.mem_of_getElem? (i := 66) rfl)) (by decide) (rmMin l Z a0 hw 2 2 h0 rfl) e6 (by decide) (by decide) (by rw [hml]; rfl) pd_8 rfl rfl rfl (Nat.le_of_eq rfl) d10_18 rfl (by decide) (by decide) ?_
  rintro r12 T13 L14 X15 ⟨rfl, rfl, e11⟩
  rw [List.append_nil] at X15
  show Go p e below _ (T13.setTop (mkF m 21 #[.val (.ref b), .val (.int ch), .val (.int (0 : Int32)), .val (.int (2 : Int32))] [(.int (2 : Int32))]))
  refine Go.istoreN (Ls' := #[.val (.ref b), .val (.int ch), .val (.int (0 : Int32)), .val (.int (2 : Int32))]) (pc' := 22) X15 hx hby d10_21 rfl rfl ?_
  refine Go.iloadN (pc' := 23) X15 hx hby d10_22 rfl rfl ?_
  refine Go.iloadN (pc' := 24) X15 hx hby d10_23 rfl rfl ?_
  refine Go.icmpY (pc' := 29) X15 hx hby d10_24 (by decide) (by decide) (show (0 : Int32) < (2 : Int32) from by decide) ?_
  refine Go.aloadN (pc' := 30) X15 hx hby d10_29 rfl rfl rfl ?_
  refine Go.iloadN (pc' := 31) X15 hx hby d10_30 rfl rfl ?_
  refine Go.iloadN (pc' := 32) X15 hx hby d10_31 rfl rfl ?_
  refine Go.iloadN (pc' := 33) X15 hx hby d10_32 rfl rfl ?_
  refine Go.callS (pc' := 36) (W := 0) (argsL := [(.ref b), (.int ch), (.int (0 : Int32)), (.int (2 : Int32))]) (rest := []) X15 hx hby hZ hown (hw _ (List.mem_of_getElem? (i := 81) rfl)) (hw _ (List.mem_of_getElem? (i := 82) rfl)) (hw _ (List.mem_of_getElem? (i := 55) rfl)) (hw _ (List.mem_of_getElem? (i := 83) rfl)) (by decide) (rmLC2 l Z a0 hw b ch 0 2 h0 u0 u1 u2 B0 B1 B2 hch rfl rfl l0 l1 A0) e11 (by decide) (by decide) (by rw [hml]; rfl) pd_17 rfl rfl rfl (Nat.le_of_eq rfl) d10_33 rfl (by decide) (by decide) ?_
  rintro r17 T18 L19 X20 ⟨rfl, rfl, e16⟩
  rw [List.append_nil] at X20
  show Go p e below _ (T18.setTop (mkF m 36 #[.val (.ref b), .val (.int ch), .val (.int (0 : Int32)), .val (.int (2 : Int32))] [(.int (own_ix2 ch u0 u1))]))
  exact Go.retI X20 hx hby hlk hret d10_36 (by decide) (by decide) ⟨rfl, rfl, e16⟩
set_option maxRecDepth 65536 in
set_option maxHeartbeats 40000000 in
theorem rmLI3 (l : Launch) (Z : State) (a0 : Array Value) (hw : ∀ d ∈ tables_1, d.before a0 Z = true) (b : Addr) (ch : Int32) (x2 : Int32) (x3 : Int32) (h0 : Heap) (u0 u1 u2 : Int32) (B0 : 0 ≤ u0.toInt ∧ u0.toInt ≤ 65535) (B1 : 0 ≤ u1.toInt ∧ u1.toInt ≤ 65535) (B2 : 0 ≤ u2.toInt ∧ u2.toInt ≤ 65535) (hch : ch = 9 ∨ ch = 10) (h2 : x2 = 0) (h3 : x3 = 3) (l0 : u0 ≤ (255 : Int32)) (l1 : u1 ≤ (255 : Int32)) (l2 : u2 ≤ (255 : Int32)) (A0 : Ar Z h0 b .byte 3 (fun q => .int (own_lat (own_c u0 u1 u2 q)))) :
    Con l Z (⟨"java/lang/StringLatin1", "indexOf", "([BIII)I"⟩ : MethodName) jdk_43_method_22_code 4 (some .int) [] ({ frames := 1, cells := 0, slots := 0, locals := 17 } : Room) #[(.ref b), (.int ch), (.int x2), (.int x3)] h0 (PQ (some (.int (own_ix3 ch u0 u1 u2))) h0) := by
  refine Con.of (plainFor_of_name pn_StringLatin1) ?_
  intro p e s m below meth c s₁ hx hby hml hown hnm hret hlk hZ X0 e0
  refine Go.cast (ef_10 m b ch x2 x3) ?_
  replace hown : s.vm.findClass "java/lang/StringLatin1" = some m.cls := hown
  subst h2 h3
  show Go p e below _ (s₁.setTop (mkF m 0 #[.val (.ref b), .val (.int ch), .val (.int (0 : Int32)), .val (.int (3 : Int32))] []))
  refine Go.iloadN (pc' := 1) X0 hx hby d10_0 rfl rfl ?_
  refine Go.callS (pc' := 4) (W := 0) (argsL := [(.int ch)]) (rest := []) X0 hx hby hZ hown (hw _ (List.mem_of_getElem? (i := 57) rfl)) (hw _ (List.mem_of_getElem? (i := 58) rfl)) (hw _ (List.mem_of_getElem? (i := 55) rfl)) (hw _ (List.mem_of_getElem? (i := 59) rfl)) (by decide) (rmEnc l Z a0 hw ch h0 hch) e0 (by decide) (by decide) (by rw [hml]; rfl) pd_6 rfl rfl rfl (Nat.le_of_eq rfl) d10_1 rfl (by decide) (by decide) ?_
  rintro r2 T3 L4 X5 ⟨rfl, rfl, e1⟩
  rw [List.append_nil] at X5
  show Go p e below _ (T3.setTop (mkF m 4 #[.val (.ref b), .val (.int ch), .val (.int (0 : Int32)), .val (.int (3 : Int32))] [(.int (1 : Int32))]))
  refine Go.ifY (pc' := 9) X5 hx hby d10_4 (by decide) (by decide) (show (1 : Int32) ≠ 0 from by decide) ?_
  refine Go.iloadN (pc' := 10) X5 hx hby d10_9 rfl rfl ?_
  refine Go.iconst (pc' := 11) X5 hx hby d10_10 rfl (v := (0 : Int32)) (by decide) ?_
  refine Go.callS (pc' := 14) (W := 0) (argsL := [(.int (0 : Int32)), (.int (0 : Int32))]) (rest := []) X5 hx hby hZ hown (hw _ (List.mem_of_getElem? (i := 60) rfl)) (hw _ (List.mem_of_getElem? (i := 61) rfl)) (hw _ (List.mem_of_getElem? (i := 62) rfl)) (hw _ (List.mem_of_getElem? (i := 63) rfl)) (by decide) (rmMax l Z a0 hw 0 0 h0 rfl) e1 (by decide) (by decide) (by rw [hml]; rfl) pd_8 rfl rfl rfl (Nat.le_of_eq rfl) d10_11 rfl (by decide) (by decide) ?_
  rintro r7 T8 L9 X10 ⟨rfl, rfl, e6⟩
  rw [List.append_nil] at X10
  show Go p e below _ (T8.setTop (mkF m 14 #[.val (.ref b), .val (.int ch), .val (.int (0 : Int32)), .val (.int (3 : Int32))] [(.int (0 : Int32))]))
  refine Go.istoreN (Ls' := #[.val (.ref b), .val (.int ch), .val (.int (0 : Int32)), .val (.int (3 : Int32))]) (pc' := 15) X10 hx hby d10_14 rfl rfl ?_
  refine Go.iloadN (pc' := 16) X10 hx hby d10_15 rfl rfl ?_
  refine Go.aloadN (pc' := 17) X10 hx hby d10_16 rfl rfl rfl ?_
  refine Go.alen (pc' := 18) (zv := (3 : Int32)) X10 hx hby hZ e6 A0 d10_17 rfl (by decide) ?_
  refine Go.callS (pc' := 21) (W := 0) (argsL := [(.int (3 : Int32)), (.int (3 : Int32))]) (rest := []) X10 hx hby hZ hown (hw _ (List.mem_of_getElem? (i := 64) rfl)) (hw _ (List.mem_of_getElem? (i := 65) rfl)) (hw _ (List.mem_of_getElem? (i := 62) rfl)) (hw _ (List.mem_of_getElem? (i := 66) rfl)) (by decide) (rmMin l Z a0 hw 3 3 h0 rfl) e6 (by decide) (by decide) (by rw [hml]; rfl) pd_8 rfl rfl rfl (Nat.le_of_eq rfl) d10_18 rfl (by decide) (by decide) ?_
  rintro r12 T13 L14 X15 ⟨rfl, rfl, e11⟩
  rw [List.append_nil] at X15
  show Go p e below _ (T13.setTop (mkF m 21 #[.val (.ref b), .val (.int ch), .val (.int (0 : Int32)), .val (.int (3 : Int32))] [(.int (3 : Int32))]))
  refine Go.istoreN (Ls' := #[.val (.ref b), .val (.int ch), .val (.int (0 : Int32)), .val (.int (3 : Int32))]) (pc' := 22) X15 hx hby d10_21 rfl rfl ?_
  refine Go.iloadN (pc' := 23) X15 hx hby d10_22 rfl rfl ?_
  refine Go.iloadN (pc' := 24) X15 hx hby d10_23 rfl rfl ?_
  refine Go.icmpY (pc' := 29) X15 hx hby d10_24 (by decide) (by decide) (show (0 : Int32) < (3 : Int32) from by decide) ?_
  refine Go.aloadN (pc' := 30) X15 hx hby d10_29 rfl rfl rfl ?_
  refine Go.iloadN (pc' := 31) X15 hx hby d10_30 rfl rfl ?_
  refine Go.iloadN (pc' := 32) X15 hx hby d10_31 rfl rfl ?_
  refine Go.iloadN (pc' := 33) X15 hx hby d10_32 rfl rfl ?_
  refine Go.callS (pc' := 36) (W := 0) (argsL := [(.ref b), (.int ch), (.int (0 : Int32)), (.int (3 : Int32))]) (rest := []) X15 hx hby hZ hown (hw _ (List.mem_of_getElem? (i := 81) rfl)) (hw _ (List.mem_of_getElem? (i := 82) rfl)) (hw _ (List.mem_of_getElem? (i := 55) rfl)) (hw _ (List.mem_of_getElem? (i := 83) rfl)) (by decide) (rmLC3 l Z a0 hw b ch 0 3 h0 u0 u1 u2 B0 B1 B2 hch rfl rfl l0 l1 l2 A0) e11 (by decide) (by decide) (by rw [hml]; rfl) pd_17 rfl rfl rfl (Nat.le_of_eq rfl) d10_33 rfl (by decide) (by decide) ?_
  rintro r17 T18 L19 X20 ⟨rfl, rfl, e16⟩
  rw [List.append_nil] at X20
  show Go p e below _ (T18.setTop (mkF m 36 #[.val (.ref b), .val (.int ch), .val (.int (0 : Int32)), .val (.int (3 : Int32))] [(.int (own_ix3 ch u0 u1 u2))]))
  exact Go.retI X20 hx hby hlk hret d10_36 (by decide) (by decide) ⟨rfl, rfl, e16⟩
theorem d27_0 : decode jdk_52_method_6_code 0 = .ok (.aload_n 0, 1) := by decide +kernel
theorem d27_1 : decode jdk_52_method_6_code 1 = .ok (.arraylength, 1) := by decide +kernel
theorem d27_2 : decode jdk_52_method_6_code 2 = .ok (.iconst 1, 1) := by decide +kernel
theorem d27_3 : decode jdk_52_method_6_code 3 = .ok (.ishr, 1) := by decide +kernel
theorem d27_4 : decode jdk_52_method_6_code 4 = .ok (.ireturn, 1) := by decide +kernel
theorem d29_0 : decode jdk_41_method_12_code 0 = .ok (.iload_n 0, 1) := by decide +kernel
theorem d29_1 : decode jdk_41_method_12_code 1 = .ok (.ifCond .lt 13, 3) := by decide +kernel
theorem d29_4 : decode jdk_41_method_12_code 4 = .ok (.iload_n 0, 1) := by decide +kernel
theorem d29_5 : decode jdk_41_method_12_code 5 = .ok (.iload_n 1, 1) := by decide +kernel
theorem d29_6 : decode jdk_41_method_12_code 6 = .ok (.if_icmp .gt 8, 3) := by decide +kernel
theorem d29_9 : decode jdk_41_method_12_code 9 = .ok (.iload_n 1, 1) := by decide +kernel
theorem d29_10 : decode jdk_41_method_12_code 10 = .ok (.iload_n 2, 1) := by decide +kernel
theorem d29_11 : decode jdk_41_method_12_code 11 = .ok (.if_icmp .le 11, 3) := by decide +kernel
theorem d29_14 : decode jdk_41_method_12_code 14 = .ok (.aload_n 3, 1) := by decide +kernel
theorem d29_15 : decode jdk_41_method_12_code 15 = .ok (.iload_n 0, 1) := by decide +kernel
theorem d29_16 : decode jdk_41_method_12_code 16 = .ok (.iload_n 1, 1) := by decide +kernel
theorem d29_17 : decode jdk_41_method_12_code 17 = .ok (.iload_n 2, 1) := by decide +kernel
theorem d29_18 : decode jdk_41_method_12_code 18 = .ok (.invokestatic 99, 3) := by decide +kernel
theorem d29_21 : decode jdk_41_method_12_code 21 = .ok (.athrow, 1) := by decide +kernel
theorem d29_22 : decode jdk_41_method_12_code 22 = .ok (.iload_n 0, 1) := by decide +kernel
theorem d29_23 : decode jdk_41_method_12_code 23 = .ok (.ireturn, 1) := by decide +kernel
theorem d28_0 : decode jdk_42_method_158_code 0 = .ok (.iload_n 0, 1) := by decide +kernel
theorem d28_1 : decode jdk_42_method_158_code 1 = .ok (.iload_n 1, 1) := by decide +kernel
theorem d28_2 : decode jdk_42_method_158_code 2 = .ok (.iload_n 2, 1) := by decide +kernel
theorem d28_3 : decode jdk_42_method_158_code 3 = .ok (.getstatic 1053, 3) := by decide +kernel
theorem d28_6 : decode jdk_42_method_158_code 6 = .ok (.invokestatic 1062, 3) := by decide +kernel
theorem d28_9 : decode jdk_42_method_158_code 9 = .ok (.pop, 1) := by decide +kernel
theorem d28_10 : decode jdk_42_method_158_code 10 = .ok (.return_, 1) := by decide +kernel
theorem d26_0 : decode jdk_52_method_93_code 0 = .ok (.iload_n 0, 1) := by decide +kernel
theorem d26_1 : decode jdk_52_method_93_code 1 = .ok (.iload_n 1, 1) := by decide +kernel
theorem d26_2 : decode jdk_52_method_93_code 2 = .ok (.aload_n 2, 1) := by decide +kernel
theorem d26_3 : decode jdk_52_method_93_code 3 = .ok (.invokestatic 48, 3) := by decide +kernel
theorem d26_6 : decode jdk_52_method_93_code 6 = .ok (.invokestatic 241, 3) := by decide +kernel
theorem d26_9 : decode jdk_52_method_93_code 9 = .ok (.return_, 1) := by decide +kernel
theorem d30_0 : decode jdk_52_method_48_code 0 = .ok (.iload_n 2, 1) := by decide +kernel
theorem d30_1 : decode jdk_52_method_48_code 1 = .ok (.istore 4, 2) := by decide +kernel
theorem d30_3 : decode jdk_52_method_48_code 3 = .ok (.iload 4, 2) := by decide +kernel
theorem d30_5 : decode jdk_52_method_48_code 5 = .ok (.iload_n 3, 1) := by decide +kernel
theorem d30_6 : decode jdk_52_method_48_code 6 = .ok (.if_icmp .ge 22, 3) := by decide +kernel
theorem d30_9 : decode jdk_52_method_48_code 9 = .ok (.aload_n 0, 1) := by decide +kernel
theorem d30_10 : decode jdk_52_method_48_code 10 = .ok (.iload 4, 2) := by decide +kernel
theorem d30_12 : decode jdk_52_method_48_code 12 = .ok (.invokestatic 71, 3) := by decide +kernel
theorem d30_15 : decode jdk_52_method_48_code 15 = .ok (.iload_n 1, 1) := by decide +kernel
theorem d30_16 : decode jdk_52_method_48_code 16 = .ok (.if_icmp .ne 6, 3) := by decide +kernel
theorem d30_19 : decode jdk_52_method_48_code 19 = .ok (.iload 4, 2) := by decide +kernel
theorem d30_21 : decode jdk_52_method_48_code 21 = .ok (.ireturn, 1) := by decide +kernel
theorem d30_22 : decode jdk_52_method_48_code 22 = .ok (.iinc 4 1, 3) := by decide +kernel
theorem d30_25 : decode jdk_52_method_48_code 25 = .ok (.goto (-22), 3) := by decide +kernel
theorem d30_28 : decode jdk_52_method_48_code 28 = .ok (.iconst (-1), 1) := by decide +kernel
theorem d30_29 : decode jdk_52_method_48_code 29 = .ok (.ireturn, 1) := by decide +kernel
theorem d25_0 : decode jdk_52_method_47_code 0 = .ok (.iload_n 2, 1) := by decide +kernel
theorem d25_1 : decode jdk_52_method_47_code 1 = .ok (.iload_n 3, 1) := by decide +kernel
theorem d25_2 : decode jdk_52_method_47_code 2 = .ok (.aload_n 0, 1) := by decide +kernel
theorem d25_3 : decode jdk_52_method_47_code 3 = .ok (.invokestatic 96, 3) := by decide +kernel
theorem d25_6 : decode jdk_52_method_47_code 6 = .ok (.aload_n 0, 1) := by decide +kernel
theorem d25_7 : decode jdk_52_method_47_code 7 = .ok (.iload_n 1, 1) := by decide +kernel
theorem d25_8 : decode jdk_52_method_47_code 8 = .ok (.iload_n 2, 1) := by decide +kernel
theorem d25_9 : decode jdk_52_method_47_code 9 = .ok (.iload_n 3, 1) := by decide +kernel
theorem d25_10 : decode jdk_52_method_47_code 10 = .ok (.invokestatic 244, 3) := by decide +kernel
theorem d25_13 : decode jdk_52_method_47_code 13 = .ok (.ireturn, 1) := by decide +kernel
theorem d24_0 : decode jdk_52_method_40_code 0 = .ok (.iload_n 2, 1) := by decide +kernel
theorem d24_1 : decode jdk_52_method_40_code 1 = .ok (.iconst 0, 1) := by decide +kernel
theorem d24_2 : decode jdk_52_method_40_code 2 = .ok (.invokestatic 224, 3) := by decide +kernel
theorem d24_5 : decode jdk_52_method_40_code 5 = .ok (.istore_n 2, 1) := by decide +kernel
theorem d24_6 : decode jdk_52_method_40_code 6 = .ok (.iload_n 3, 1) := by decide +kernel
theorem d24_7 : decode jdk_52_method_40_code 7 = .ok (.aload_n 0, 1) := by decide +kernel
theorem d24_8 : decode jdk_52_method_40_code 8 = .ok (.arraylength, 1) := by decide +kernel
theorem d24_9 : decode jdk_52_method_40_code 9 = .ok (.iconst 1, 1) := by decide +kernel
theorem d24_10 : decode jdk_52_method_40_code 10 = .ok (.ishr, 1) := by decide +kernel
theorem d24_11 : decode jdk_52_method_40_code 11 = .ok (.invokestatic 183, 3) := by decide +kernel
theorem d24_14 : decode jdk_52_method_40_code 14 = .ok (.istore_n 3, 1) := by decide +kernel
theorem d24_15 : decode jdk_52_method_40_code 15 = .ok (.iload_n 2, 1) := by decide +kernel
theorem d24_16 : decode jdk_52_method_40_code 16 = .ok (.iload_n 3, 1) := by decide +kernel
theorem d24_17 : decode jdk_52_method_40_code 17 = .ok (.if_icmp .lt 5, 3) := by decide +kernel
theorem d24_20 : decode jdk_52_method_40_code 20 = .ok (.iconst (-1), 1) := by decide +kernel
theorem d24_21 : decode jdk_52_method_40_code 21 = .ok (.ireturn, 1) := by decide +kernel
theorem d24_22 : decode jdk_52_method_40_code 22 = .ok (.iload_n 1, 1) := by decide +kernel
theorem d24_23 : decode jdk_52_method_40_code 23 = .ok (.ldc 227, 2) := by decide +kernel
theorem d24_25 : decode jdk_52_method_40_code 25 = .ok (.if_icmp .ge 11, 3) := by decide +kernel
theorem d24_28 : decode jdk_52_method_40_code 28 = .ok (.aload_n 0, 1) := by decide +kernel
theorem d24_29 : decode jdk_52_method_40_code 29 = .ok (.iload_n 1, 1) := by decide +kernel
theorem d24_30 : decode jdk_52_method_40_code 30 = .ok (.iload_n 2, 1) := by decide +kernel
theorem d24_31 : decode jdk_52_method_40_code 31 = .ok (.iload_n 3, 1) := by decide +kernel
theorem d24_32 : decode jdk_52_method_40_code 32 = .ok (.invokestatic 228, 3) := by decide +kernel
theorem d24_35 : decode jdk_52_method_40_code 35 = .ok (.ireturn, 1) := by decide +kernel
theorem d24_36 : decode jdk_52_method_40_code 36 = .ok (.aload_n 0, 1) := by decide +kernel
theorem d24_37 : decode jdk_52_method_40_code 37 = .ok (.iload_n 1, 1) := by decide +kernel
theorem d24_38 : decode jdk_52_method_40_code 38 = .ok (.iload_n 2, 1) := by decide +kernel
theorem d24_39 : decode jdk_52_method_40_code 39 = .ok (.iload_n 3, 1) := by decide +kernel
theorem d24_40 : decode jdk_52_method_40_code 40 = .ok (.invokestatic 232, 3) := by decide +kernel
theorem d24_43 : decode jdk_52_method_40_code 43 = .ok (.ireturn, 1) := by decide +kernel
theorem ef_27 (m : MethodId) (x0 : Addr) : entryFrame m #[(.ref x0)] 1 = mkF m 0 #[.val (.ref x0)] [] := by first | (simp [entryFrame, mkF, argsToLocals, Value.category]; done) | rfl
set_option maxRecDepth 65536 in
set_option maxHeartbeats 40000000 in
theorem rmUL1 (l : Launch) (Z : State) (a0 : Array Value) (hw : ∀ d ∈ tables_1, d.before a0 Z = true) (b : Addr) (h0 : Heap) (f0 : Int → Value) (A0 : Ar Z h0 b .byte 2 f0) :
    Con l Z (⟨"java/lang/StringUTF16", "length", "([B)I"⟩ : MethodName) jdk_52_method_6_code 1 (some .int) [] ({ frames := 0, cells := 0, slots := 0, locals := 0 } : Room) #[(.ref b)] h0 (PQ (some (.int 1)) h0) := by
  refine Con.of (plainFor_of_name pn_StringUTF16) ?_
  intro p e s m below meth c s₁ hx hby hml hown hnm hret hlk hZ X0 e0
  refine Go.cast (ef_27 m b) ?_
  replace hown : s.vm.findClass "java/lang/StringUTF16" = some m.cls := hown
  refine Go.aloadN (pc' := 1) X0 hx hby d27_0 rfl rfl rfl ?_
  refine Go.alen (pc' := 2) (zv := (2 : Int32)) X0 hx hby hZ e0 A0 d27_1 rfl (by decide) ?_
  refine Go.iconst (pc' := 3) X0 hx hby d27_2 rfl (v := (1 : Int32)) (by decide) ?_
  refine Go.ishr (pc' := 4) X0 hx hby d27_3 rfl ?_
  change Go p e below _ (s₁.setTop (mkF m 4 #[.val (.ref b)] [(.int (1 : Int32))]))
  exact Go.retI X0 hx hby hlk hret d27_4 (by decide) (by decide) ⟨rfl, rfl, e0⟩
theorem ef_29n (m : MethodId) (x0 : Int32) (x1 : Int32) (x2 : Int32) : entryFrame m #[(.int x0), (.int x1), (.int x2), .null] 4 = mkF m 0 #[.val (.int x0), .val (.int x1), .val (.int x2), .val .null] [] := by first | (simp [entryFrame, mkF, argsToLocals, Value.category]; done) | rfl
theorem pn_Preconditions : plainName "jdk/internal/util/Preconditions" = true := by first | (simp [plainName, overriddenIn]; done) | decide +kernel
set_option maxRecDepth 65536 in
set_option maxHeartbeats 40000000 in
theorem rmPX1n (l : Launch) (Z : State) (a0 : Array Value) (hw : ∀ d ∈ tables_1, d.before a0 Z = true) (x0 : Int32) (x1 : Int32) (x2 : Int32) (h0 : Heap) (h0' : x0 = 0) (h1 : x1 = 1) (h2 : x2 = 1) :
    Con l Z (⟨"jdk/internal/util/Preconditions", "checkFromToIndex", "(IIILjava/util/function/BiFunction;)I"⟩ : MethodName) jdk_41_method_12_code 4 (some .int) [] ({ frames := 0, cells := 0, slots := 0, locals := 0 } : Room) #[(.int x0), (.int x1), (.int x2), .null] h0 (PQ (some (.int 0)) h0) := by
  refine Con.of (plainFor_of_name pn_Preconditions) ?_
  intro p e s m below meth c s₁ hx hby hml hown hnm hret hlk hZ X0 e0
  refine Go.cast (ef_29n m x0 x1 x2) ?_
  replace hown : s.vm.findClass "jdk/internal/util/Preconditions" = some m.cls := hown
  subst h0' h1 h2
  show Go p e below _ (s₁.setTop (mkF m 0 #[.val (.int (0 : Int32)), .val (.int (1 : Int32)), .val (.int (1 : Int32)), .val .null] []))
  refine Go.iloadN (pc' := 1) X0 hx hby d29_0 rfl rfl ?_
  refine Go.ifN (pc' := 4) X0 hx hby d29_1 rfl (show ¬ ((0 : Int32) < 0) from by decide) ?_
  refine Go.iloadN (pc' := 5) X0 hx hby d29_4 rfl rfl ?_
  refine Go.iloadN (pc' := 6) X0 hx hby d29_5 rfl rfl ?_
  refine Go.icmpN (pc' := 9) X0 hx hby d29_6 rfl (show ¬ ((1 : Int32) < (0 : Int32)) from by decide) ?_
  refine Go.iloadN (pc' := 10) X0 hx hby d29_9 rfl rfl ?_
  refine Go.iloadN (pc' := 11) X0 hx hby d29_10 rfl rfl ?_
  refine Go.icmpY (pc' := 22) X0 hx hby d29_11 (by decide) (by decide) (show (1 : Int32) ≤ (1 : Int32) from by decide) ?_
  refine Go.iloadN (pc' := 23) X0 hx hby d29_22 rfl rfl ?_
  exact Go.retI X0 hx hby hlk hret d29_23 (by decide) (by decide) ⟨rfl, rfl, e0⟩
theorem ef_29r (m : MethodId) (x0 : Int32) (x1 : Int32) (x2 : Int32) (x3 : Addr) : entryFrame m #[(.int x0), (.int x1), (.int x2), (.ref x3)] 4 = mkF m 0 #[.val (.int x0), .val (.int x1), .val (.int x2), .val (.ref x3)] [] := by first | (simp [entryFrame, mkF, argsToLocals, Value.category]; done) | rfl
set_option maxRecDepth 65536 in
set_option maxHeartbeats 40000000 in
theorem rmPX1r (l : Launch) (Z : State) (a0 : Array Value) (hw : ∀ d ∈ tables_1, d.before a0 Z = true) (x0 : Int32) (x1 : Int32) (x2 : Int32) (sr : Addr) (h0 : Heap) (h0' : x0 = 0) (h1 : x1 = 1) (h2 : x2 = 1) :
    Con l Z (⟨"jdk/internal/util/Preconditions", "checkFromToIndex", "(IIILjava/util/function/BiFunction;)I"⟩ : MethodName) jdk_41_method_12_code 4 (some .int) [] ({ frames := 0, cells := 0, slots := 0, locals := 0 } : Room) #[(.int x0), (.int x1), (.int x2), (.ref sr)] h0 (PQ (some (.int 0)) h0) := by
  refine Con.of (plainFor_of_name pn_Preconditions) ?_
  intro p e s m below meth c s₁ hx hby hml hown hnm hret hlk hZ X0 e0
  refine Go.cast (ef_29r m x0 x1 x2 sr) ?_
  replace hown : s.vm.findClass "jdk/internal/util/Preconditions" = some m.cls := hown
  subst h0' h1 h2
  show Go p e below _ (s₁.setTop (mkF m 0 #[.val (.int (0 : Int32)), .val (.int (1 : Int32)), .val (.int (1 : Int32)), .val (.ref sr)] []))
  refine Go.iloadN (pc' := 1) X0 hx hby d29_0 rfl rfl ?_
  refine Go.ifN (pc' := 4) X0 hx hby d29_1 rfl (show ¬ ((0 : Int32) < 0) from by decide) ?_
  refine Go.iloadN (pc' := 5) X0 hx hby d29_4 rfl rfl ?_
  refine Go.iloadN (pc' := 6) X0 hx hby d29_5 rfl rfl ?_
  refine Go.icmpN (pc' := 9) X0 hx hby d29_6 rfl (show ¬ ((1 : Int32) < (0 : Int32)) from by decide) ?_
  refine Go.iloadN (pc' := 10) X0 hx hby d29_9 rfl rfl ?_
  refine Go.iloadN (pc' := 11) X0 hx hby d29_10 rfl rfl ?_
  refine Go.icmpY (pc' := 22) X0 hx hby d29_11 (by decide) (by decide) (show (1 : Int32) ≤ (1 : Int32) from by decide) ?_
  refine Go.iloadN (pc' := 23) X0 hx hby d29_22 rfl rfl ?_
  exact Go.retI X0 hx hby hlk hret d29_23 (by decide) (by decide) ⟨rfl, rfl, e0⟩
theorem ef_28 (m : MethodId) (x0 : Int32) (x1 : Int32) (x2 : Int32) : entryFrame m #[(.int x0), (.int x1), (.int x2)] 3 = mkF m 0 #[.val (.int x0), .val (.int x1), .val (.int x2)] [] := by first | (simp [entryFrame, mkF, argsToLocals, Value.category]; done) | rfl
set_option maxRecDepth 65536 in
set_option maxHeartbeats 40000000 in
theorem rmSB1 (l : Launch) (Z : State) (a0 : Array Value) (hw : ∀ d ∈ tables_1, d.before a0 Z = true) (x0 : Int32) (x1 : Int32) (x2 : Int32) (h0 : Heap) (n0 : Nat) (kk : Int32) (sf : Value) (O0 : Old Z n0 h0) (SS : own_S Z kk sf) (h0' : x0 = 0) (h1 : x1 = 1) (h2 : x2 = 1) :
    Con l Z (⟨"java/lang/String", "checkBoundsBeginEnd", "(III)V"⟩ : MethodName) jdk_42_method_158_code 3 none [] ({ frames := 1, cells := 0, slots := 0, locals := 15 } : Room) #[(.int x0), (.int x1), (.int x2)] h0 (PQ none h0) := by
  refine Con.of (plainFor_of_name pn_String) ?_
  intro p e s m below meth c s₁ hx hby hml hown hnm hret hlk hZ X0 e0
  refine Go.cast (ef_28 m x0 x1 x2) ?_
  replace hown : s.vm.findClass "java/lang/String" = some m.cls := hown
  subst h0' h1 h2
  show Go p e below _ (s₁.setTop (mkF m 0 #[.val (.int (0 : Int32)), .val (.int (1 : Int32)), .val (.int (1 : Int32))] []))
  rcases SS.2.2.2.2.2.2 with rfl | ⟨sr, rfl⟩
  ·
    have S4_ : Sta Z h0 "jdk/internal/util/Preconditions" "SIOOBE_FORMATTER" "Ljava/util/function/BiFunction;" .null := Sta.ext O0.2 SS.2.2.2.2.2.1
    refine Go.iloadN (pc' := 1) X0 hx hby d28_0 rfl rfl ?_
    refine Go.iloadN (pc' := 2) X0 hx hby d28_1 rfl rfl ?_
    refine Go.iloadN (pc' := 3) X0 hx hby d28_2 rfl rfl ?_
    refine Go.getSt (pc' := 6) X0 hx hby hZ hown (hw _ (List.mem_of_getElem? (i := 121) rfl)) Via.refl e0 S4_ d28_3 rfl ?_
    intro T1 X2 e3
    refine Go.callS (pc' := 9) (W := 0) (argsL := [(.int (0 : Int32)), (.int (1 : Int32)), (.int (1 : Int32)), .null]) (rest := []) X2 hx hby hZ hown (hw _ (List.mem_of_getElem? (i := 123) rfl)) (hw _ (List.mem_of_getElem? (i := 124) rfl)) (hw _ (List.mem_of_getElem? (i := 122) rfl)) (hw _ (List.mem_of_getElem? (i := 125) rfl)) (by decide) (rmPX1n l Z a0 hw 0 1 1 h0 rfl rfl rfl) e3 (by decide) (by decide) (by rw [hml]; rfl) pd_10 rfl rfl rfl (Nat.le_of_eq rfl) d28_6 rfl (by decide) (by decide) ?_
    rintro r5 T6 L7 X8 ⟨rfl, rfl, e4⟩
    rw [List.append_nil] at X8
    show Go p e below _ (T6.setTop (mkF m 9 #[.val (.int (0 : Int32)), .val (.int (1 : Int32)), .val (.int (1 : Int32))] [(.int (0 : Int32))]))
    refine Go.pop (pc' := 10) X8 hx hby d28_9 rfl rfl ?_
    exact Go.ret0 X8 hx hby hlk hret d28_10 (by decide) (by decide) ⟨rfl, rfl, e4⟩
  ·
    have S4_ : Sta Z h0 "jdk/internal/util/Preconditions" "SIOOBE_FORMATTER" "Ljava/util/function/BiFunction;" (.ref sr) := Sta.ext O0.2 SS.2.2.2.2.2.1
    refine Go.iloadN (pc' := 1) X0 hx hby d28_0 rfl rfl ?_
    refine Go.iloadN (pc' := 2) X0 hx hby d28_1 rfl rfl ?_
    refine Go.iloadN (pc' := 3) X0 hx hby d28_2 rfl rfl ?_
    refine Go.getSt (pc' := 6) X0 hx hby hZ hown (hw _ (List.mem_of_getElem? (i := 121) rfl)) Via.refl e0 S4_ d28_3 rfl ?_
    intro T9 X10 e11
    refine Go.callS (pc' := 9) (W := 0) (argsL := [(.int (0 : Int32)), (.int (1 : Int32)), (.int (1 : Int32)), (.ref sr)]) (rest := []) X10 hx hby hZ hown (hw _ (List.mem_of_getElem? (i := 123) rfl)) (hw _ (List.mem_of_getElem? (i := 124) rfl)) (hw _ (List.mem_of_getElem? (i := 122) rfl)) (hw _ (List.mem_of_getElem? (i := 125) rfl)) (by decide) (rmPX1r l Z a0 hw 0 1 1 sr h0 rfl rfl rfl) e11 (by decide) (by decide) (by rw [hml]; rfl) pd_10 rfl rfl rfl (Nat.le_of_eq rfl) d28_6 rfl (by decide) (by decide) ?_
    rintro r13 T14 L15 X16 ⟨rfl, rfl, e12⟩
    rw [List.append_nil] at X16
    show Go p e below _ (T14.setTop (mkF m 9 #[.val (.int (0 : Int32)), .val (.int (1 : Int32)), .val (.int (1 : Int32))] [(.int (0 : Int32))]))
    refine Go.pop (pc' := 10) X16 hx hby d28_9 rfl rfl ?_
    exact Go.ret0 X16 hx hby hlk hret d28_10 (by decide) (by decide) ⟨rfl, rfl, e12⟩
theorem ef_26 (m : MethodId) (x0 : Int32) (x1 : Int32) (x2 : Addr) : entryFrame m #[(.int x0), (.int x1), (.ref x2)] 3 = mkF m 0 #[.val (.int x0), .val (.int x1), .val (.ref x2)] [] := by first | (simp [entryFrame, mkF, argsToLocals, Value.category]; done) | rfl
set_option maxRecDepth 65536 in
set_option maxHeartbeats 40000000 in
theorem rmUB1 (l : Launch) (Z : State) (a0 : Array Value) (hw : ∀ d ∈ tables_1, d.before a0 Z = true) (x0 : Int32) (x1 : Int32) (b : Addr) (h0 : Heap) (n0 : Nat) (kk : Int32) (sf : Value) (f0 : Int → Value) (O0 : Old Z n0 h0) (SS : own_S Z kk sf) (h0' : x0 = 0) (h1 : x1 = 1) (A0 : Ar Z h0 b .byte 2 f0) :
    Con l Z (⟨"java/lang/StringUTF16", "checkBoundsBeginEnd", "(II[B)V"⟩ : MethodName) jdk_52_method_93_code 3 none [] ({ frames := 2, cells := 0, slots := 0, locals := 29 } : Room) #[(.int x0), (.int x1), (.ref b)] h0 (PQ none h0) := by
  refine Con.of (plainFor_of_name pn_StringUTF16) ?_
  intro p e s m below meth c s₁ hx hby hml hown hnm hret hlk hZ X0 e0
  refine Go.cast (ef_26 m x0 x1 b) ?_
  replace hown : s.vm.findClass "java/lang/StringUTF16" = some m.cls := hown
  subst h0' h1
  show Go p e below _ (s₁.setTop (mkF m 0 #[.val (.int (0 : Int32)), .val (.int (1 : Int32)), .val (.ref b)] []))
  refine Go.iloadN (pc' := 1) X0 hx hby d26_0 rfl rfl ?_
  refine Go.iloadN (pc' := 2) X0 hx hby d26_1 rfl rfl ?_
  refine Go.aloadN (pc' := 3) X0 hx hby d26_2 rfl rfl rfl ?_
  refine Go.callS (pc' := 6) (W := 2) (argsL := [(.ref b)]) (rest := [(.int (1 : Int32)), (.int (0 : Int32))]) X0 hx hby hZ hown (hw _ (List.mem_of_getElem? (i := 115) rfl)) (hw _ (List.mem_of_getElem? (i := 116) rfl)) (hw _ (List.mem_of_getElem? (i := 69) rfl)) (hw _ (List.mem_of_getElem? (i := 117) rfl)) (by decide) (rmUL1 l Z a0 hw b h0 f0 A0) e0 (by decide) (by decide) (by rw [hml]; rfl) pd_13 rfl rfl rfl (Nat.le_of_eq rfl) d26_3 rfl (by decide) (by decide) ?_
  rintro r2 T3 L4 X5 ⟨rfl, rfl, e1⟩
  rw [List.append_nil] at X5
  show Go p e below _ (T3.setTop (mkF m 6 #[.val (.int (0 : Int32)), .val (.int (1 : Int32)), .val (.ref b)] [(.int (1 : Int32)), (.int (1 : Int32)), (.int (0 : Int32))]))
  refine Go.callS (pc' := 9) (W := 0) (argsL := [(.int (0 : Int32)), (.int (1 : Int32)), (.int (1 : Int32))]) (rest := []) X5 hx hby hZ hown (hw _ (List.mem_of_getElem? (i := 118) rfl)) (hw _ (List.mem_of_getElem? (i := 119) rfl)) (hw _ (List.mem_of_getElem? (i := 4) rfl)) (hw _ (List.mem_of_getElem? (i := 120) rfl)) (by decide) (rmSB1 l Z a0 hw 0 1 1 h0 n0 kk sf O0 SS rfl rfl rfl) e1 (by decide) (by decide) (by rw [hml]; rfl) pd_9 rfl rfl rfl (Nat.le_of_eq rfl) d26_6 rfl (by decide) (by decide) ?_
  rintro r7 T8 L9 X10 ⟨rfl, rfl, e6⟩
  rw [List.append_nil] at X10
  show Go p e below _ (T8.setTop (mkF m 9 #[.val (.int (0 : Int32)), .val (.int (1 : Int32)), .val (.ref b)] []))
  exact Go.ret0 X10 hx hby hlk hret d26_9 (by decide) (by decide) ⟨rfl, rfl, e6⟩
theorem ef_30 (m : MethodId) (x0 : Addr) (x1 : Int32) (x2 : Int32) (x3 : Int32) : entryFrame m #[(.ref x0), (.int x1), (.int x2), (.int x3)] 5 = mkF m 0 #[.val (.ref x0), .val (.int x1), .val (.int x2), .val (.int x3), .unset] [] := by first | (simp [entryFrame, mkF, argsToLocals, Value.category]; done) | rfl
set_option maxRecDepth 65536 in
set_option maxHeartbeats 40000000 in
theorem rmUU1 (l : Launch) (Z : State) (a0 : Array Value) (hw : ∀ d ∈ tables_1, d.before a0 Z = true) (b : Addr) (ch : Int32) (x2 : Int32) (x3 : Int32) (h0 : Heap) (n0 : Nat) (kk : Int32) (sf : Value) (u0 u1 u2 : Int32) (O0 : Old Z n0 h0) (SS : own_S Z kk sf) (B0 : 0 ≤ u0.toInt ∧ u0.toInt ≤ 65535) (B1 : 0 ≤ u1.toInt ∧ u1.toInt ≤ 65535) (B2 : 0 ≤ u2.toInt ∧ u2.toInt ≤ 65535) (h2 : x2 = 0) (h3 : x3 = 1) (A0 : Ar Z h0 b .byte 2 (fun q => .int (own_u u0 u1 u2 q))) :
    Con l Z (⟨"java/lang/StringUTF16", "indexOfCharUnsafe", "([BIII)I"⟩ : MethodName) jdk_52_method_48_code 5 (some .int) [] ({ frames := 1, cells := 0, slots := 0, locals := 13 } : Room) #[(.ref b), (.int ch), (.int x2), (.int x3)] h0 (PQ (some (.int (own_ix1 ch u0))) h0) := by
  refine Con.of (plainFor_of_name pn_StringUTF16) ?_
  intro p e s m below meth c s₁ hx hby hml hown hnm hret hlk hZ X0 e0
  refine Go.cast (ef_30 m b ch x2 x3) ?_
  replace hown : s.vm.findClass "java/lang/StringUTF16" = some m.cls := hown
  subst h2 h3
  show Go p e below _ (s₁.setTop (mkF m 0 #[.val (.ref b), .val (.int ch), .val (.int (0 : Int32)), .val (.int (1 : Int32)), .unset] []))
  refine Go.iloadN (pc' := 1) X0 hx hby d30_0 rfl rfl ?_
  refine Go.istore (Ls' := #[.val (.ref b), .val (.int ch), .val (.int (0 : Int32)), .val (.int (1 : Int32)), .val (.int (0 : Int32))]) (pc' := 3) X0 hx hby d30_1 rfl rfl ?_
  refine Go.iload (pc' := 5) X0 hx hby d30_3 rfl rfl ?_
  refine Go.iloadN (pc' := 6) X0 hx hby d30_5 rfl rfl ?_
  refine Go.icmpN (pc' := 9) X0 hx hby d30_6 rfl (show ¬ ((1 : Int32) ≤ (0 : Int32)) from by decide) ?_
  refine Go.aloadN (pc' := 10) X0 hx hby d30_9 rfl rfl rfl ?_
  refine Go.iload (pc' := 12) X0 hx hby d30_10 rfl rfl ?_
  refine Go.callS (pc' := 15) (W := 0) (argsL := [(.ref b), (.int (0 : Int32))]) (rest := []) X0 hx hby hZ hown (hw _ (List.mem_of_getElem? (i := 100) rfl)) (hw _ (List.mem_of_getElem? (i := 101) rfl)) (hw _ (List.mem_of_getElem? (i := 69) rfl)) (hw _ (List.mem_of_getElem? (i := 102) rfl)) (by decide) (rmGC1_0 l Z a0 hw b 0 h0 n0 kk sf (fun q => .int (own_u u0 u1 u2 q)) (own_lo u0) (own_hi u0) u0 O0 SS rfl A0 rfl rfl (own_gcc u0 B0)) e0 (by decide) (by decide) (by rw [hml]; rfl) pd_15 rfl rfl rfl (Nat.le_of_eq rfl) d30_12 rfl (by decide) (by decide) ?_
  rintro r2 T3 L4 X5 ⟨rfl, rfl, e1⟩
  rw [List.append_nil] at X5
  show Go p e below _ (T3.setTop (mkF m 15 #[.val (.ref b), .val (.int ch), .val (.int (0 : Int32)), .val (.int (1 : Int32)), .val (.int (0 : Int32))] [(.int u0)]))
  refine Go.iloadN (pc' := 16) X5 hx hby d30_15 rfl rfl ?_
  refine Go.icmp (pc' := 22) (pn := 19) X5 hx hby d30_16 (by decide) (by decide) rfl (fun (t0_ : u0 ≠ ch) => ?_) (fun (t0_ : ¬ (u0 ≠ ch)) => ?_)
  rotate_left
  ·
    rw [ne_eq, Decidable.not_not] at t0_
    refine Go.iload (pc' := 21) X5 hx hby d30_19 rfl rfl ?_
    exact Go.retI X5 hx hby hlk hret d30_21 (by decide) (by decide) ⟨by simp [own_ix1, t0_], rfl, e1⟩
  refine Go.iinc (w := (0 : Int32) + (1 : Int32)) (Ls' := #[.val (.ref b), .val (.int ch), .val (.int (0 : Int32)), .val (.int (1 : Int32)), .val (.int ((0 : Int32) + (1 : Int32)))]) (pc' := 25) X5 hx hby d30_22 rfl rfl rfl rfl ?_
  change Go p e below _ (T3.setTop (mkF m 25 #[.val (.ref b), .val (.int ch), .val (.int (0 : Int32)), .val (.int (1 : Int32)), .val (.int (1 : Int32))] []))
  refine Go.goto (pc' := 3) X5 hx hby d30_25 (by decide) (by decide) ?_
  refine Go.iload (pc' := 5) X5 hx hby d30_3 rfl rfl ?_
  refine Go.iloadN (pc' := 6) X5 hx hby d30_5 rfl rfl ?_
  refine Go.icmpY (pc' := 28) X5 hx hby d30_6 (by decide) (by decide) (show (1 : Int32) ≤ (1 : Int32) from by decide) ?_
  refine Go.iconst (pc' := 29) X5 hx hby d30_28 rfl (v := (-1 : Int32)) (by decide) ?_
  exact Go.retI X5 hx hby hlk hret d30_29 (by decide) (by decide) ⟨by simp [own_ix1, t0_], rfl, e1⟩
theorem ef_25 (m : MethodId) (x0 : Addr) (x1 : Int32) (x2 : Int32) (x3 : Int32) : entryFrame m #[(.ref x0), (.int x1), (.int x2), (.int x3)] 4 = mkF m 0 #[.val (.ref x0), .val (.int x1), .val (.int x2), .val (.int x3)] [] := by first | (simp [entryFrame, mkF, argsToLocals, Value.category]; done) | rfl
set_option maxRecDepth 65536 in
set_option maxHeartbeats 40000000 in
theorem rmUC1 (l : Launch) (Z : State) (a0 : Array Value) (hw : ∀ d ∈ tables_1, d.before a0 Z = true) (b : Addr) (ch : Int32) (x2 : Int32) (x3 : Int32) (h0 : Heap) (n0 : Nat) (kk : Int32) (sf : Value) (u0 u1 u2 : Int32) (O0 : Old Z n0 h0) (SS : own_S Z kk sf) (B0 : 0 ≤ u0.toInt ∧ u0.toInt ≤ 65535) (B1 : 0 ≤ u1.toInt ∧ u1.toInt ≤ 65535) (B2 : 0 ≤ u2.toInt ∧ u2.toInt ≤ 65535) (h2 : x2 = 0) (h3 : x3 = 1) (A0 : Ar Z h0 b .byte 2 (fun q => .int (own_u u0 u1 u2 q))) :
    Con l Z (⟨"java/lang/StringUTF16", "indexOfChar", "([BIII)I"⟩ : MethodName) jdk_52_method_47_code 4 (some .int) [] ({ frames := 3, cells := 0, slots := 0, locals := 43 } : Room) #[(.ref b), (.int ch), (.int x2), (.int x3)] h0 (PQ (some (.int (own_ix1 ch u0))) h0) := by
  refine Con.of (plainFor_of_name pn_StringUTF16) ?_
  intro p e s m below meth c s₁ hx hby hml hown hnm hret hlk hZ X0 e0
  refine Go.cast (ef_25 m b ch x2 x3) ?_
  replace hown : s.vm.findClass "java/lang/StringUTF16" = some m.cls := hown
  subst h2 h3
  show Go p e below _ (s₁.setTop (mkF m 0 #[.val (.ref b), .val (.int ch), .val (.int (0 : Int32)), .val (.int (1 : Int32))] []))
  refine Go.iloadN (pc' := 1) X0 hx hby d25_0 rfl rfl ?_
  refine Go.iloadN (pc' := 2) X0 hx hby d25_1 rfl rfl ?_
  refine Go.aloadN (pc' := 3) X0 hx hby d25_2 rfl rfl rfl ?_
  refine Go.callS (pc' := 6) (W := 0) (argsL := [(.int (0 : Int32)), (.int (1 : Int32)), (.ref b)]) (rest := []) X0 hx hby hZ hown (hw _ (List.mem_of_getElem? (i := 112) rfl)) (hw _ (List.mem_of_getElem? (i := 113) rfl)) (hw _ (List.mem_of_getElem? (i := 69) rfl)) (hw _ (List.mem_of_getElem? (i := 114) rfl)) (by decide) (rmUB1 l Z a0 hw 0 1 b h0 n0 kk sf _ O0 SS rfl rfl A0) e0 (by decide) (by decide) (by rw [hml]; rfl) pd_11 rfl rfl rfl (Nat.le_of_eq rfl) d25_3 rfl (by decide) (by decide) ?_
  rintro r2 T3 L4 X5 ⟨rfl, rfl, e1⟩
  rw [List.append_nil] at X5
  show Go p e below _ (T3.setTop (mkF m 6 #[.val (.ref b), .val (.int ch), .val (.int (0 : Int32)), .val (.int (1 : Int32))] []))
  refine Go.aloadN (pc' := 7) X5 hx hby d25_6 rfl rfl rfl ?_
  refine Go.iloadN (pc' := 8) X5 hx hby d25_7 rfl rfl ?_
  refine Go.iloadN (pc' := 9) X5 hx hby d25_8 rfl rfl ?_
  refine Go.iloadN (pc' := 10) X5 hx hby d25_9 rfl rfl ?_
  refine Go.callS (pc' := 13) (W := 0) (argsL := [(.ref b), (.int ch), (.int (0 : Int32)), (.int (1 : Int32))]) (rest := []) X5 hx hby hZ hown (hw _ (List.mem_of_getElem? (i := 126) rfl)) (hw _ (List.mem_of_getElem? (i := 127) rfl)) (hw _ (List.mem_of_getElem? (i := 69) rfl)) (hw _ (List.mem_of_getElem? (i := 128) rfl)) (by decide) (rmUU1 l Z a0 hw b ch 0 1 h0 n0 kk sf u0 u1 u2 O0 SS B0 B1 B2 rfl rfl A0) e1 (by decide) (by decide) (by rw [hml]; rfl) pd_17 rfl rfl rfl (Nat.le_of_eq rfl) d25_10 rfl (by decide) (by decide) ?_
  rintro r7 T8 L9 X10 ⟨rfl, rfl, e6⟩
  rw [List.append_nil] at X10
  show Go p e below _ (T8.setTop (mkF m 13 #[.val (.ref b), .val (.int ch), .val (.int (0 : Int32)), .val (.int (1 : Int32))] [(.int (own_ix1 ch u0))]))
  exact Go.retI X10 hx hby hlk hret d25_13 (by decide) (by decide) ⟨rfl, rfl, e6⟩
theorem ef_24 (m : MethodId) (x0 : Addr) (x1 : Int32) (x2 : Int32) (x3 : Int32) : entryFrame m #[(.ref x0), (.int x1), (.int x2), (.int x3)] 4 = mkF m 0 #[.val (.ref x0), .val (.int x1), .val (.int x2), .val (.int x3)] [] := by first | (simp [entryFrame, mkF, argsToLocals, Value.category]; done) | rfl
set_option maxRecDepth 65536 in
set_option maxHeartbeats 40000000 in
theorem rmUI1 (l : Launch) (Z : State) (a0 : Array Value) (hw : ∀ d ∈ tables_1, d.before a0 Z = true) (b : Addr) (ch : Int32) (x2 : Int32) (x3 : Int32) (h0 : Heap) (n0 : Nat) (kk : Int32) (sf : Value) (u0 u1 u2 : Int32) (hch : ch = 9 ∨ ch = 10) (O0 : Old Z n0 h0) (SS : own_S Z kk sf) (B0 : 0 ≤ u0.toInt ∧ u0.toInt ≤ 65535) (B1 : 0 ≤ u1.toInt ∧ u1.toInt ≤ 65535) (B2 : 0 ≤ u2.toInt ∧ u2.toInt ≤ 65535) (h2 : x2 = 0) (h3 : x3 = 1) (A0 : Ar Z h0 b .byte 2 (fun q => .int (own_u u0 u1 u2 q))) :
    Con l Z (⟨"java/lang/StringUTF16", "indexOf", "([BIII)I"⟩ : MethodName) jdk_52_method_40_code 4 (some .int) [] ({ frames := 4, cells := 0, slots := 0, locals := 58 } : Room) #[(.ref b), (.int ch), (.int x2), (.int x3)] h0 (PQ (some (.int (own_ix1 ch u0))) h0) := by
  refine Con.of (plainFor_of_name pn_StringUTF16) ?_
  intro p e s m below meth c s₁ hx hby hml hown hnm hret hlk hZ X0 e0
  refine Go.cast (ef_24 m b ch x2 x3) ?_
  replace hown : s.vm.findClass "java/lang/StringUTF16" = some m.cls := hown
  subst h2 h3
  show Go p e below _ (s₁.setTop (mkF m 0 #[.val (.ref b), .val (.int ch), .val (.int (0 : Int32)), .val (.int (1 : Int32))] []))
  refine Go.iloadN (pc' := 1) X0 hx hby d24_0 rfl rfl ?_
  refine Go.iconst (pc' := 2) X0 hx hby d24_1 rfl (v := (0 : Int32)) (by decide) ?_
  refine Go.callS (pc' := 5) (W := 0) (argsL := [(.int (0 : Int32)), (.int (0 : Int32))]) (rest := []) X0 hx hby hZ hown (hw _ (List.mem_of_getElem? (i := 106) rfl)) (hw _ (List.mem_of_getElem? (i := 61) rfl)) (hw _ (List.mem_of_getElem? (i := 62) rfl)) (hw _ (List.mem_of_getElem? (i := 63) rfl)) (by decide) (rmMax l Z a0 hw 0 0 h0 rfl) e0 (by decide) (by decide) (by rw [hml]; rfl) pd_8 rfl rfl rfl (Nat.le_of_eq rfl) d24_2 rfl (by decide) (by decide) ?_
  rintro r2 T3 L4 X5 ⟨rfl, rfl, e1⟩
  rw [List.append_nil] at X5
  show Go p e below _ (T3.setTop (mkF m 5 #[.val (.ref b), .val (.int ch), .val (.int (0 : Int32)), .val (.int (1 : Int32))] [(.int (0 : Int32))]))
  refine Go.istoreN (Ls' := #[.val (.ref b), .val (.int ch), .val (.int (0 : Int32)), .val (.int (1 : Int32))]) (pc' := 6) X5 hx hby d24_5 rfl rfl ?_
  refine Go.iloadN (pc' := 7) X5 hx hby d24_6 rfl rfl ?_
  refine Go.aloadN (pc' := 8) X5 hx hby d24_7 rfl rfl rfl ?_
  refine Go.alen (pc' := 9) (zv := (2 : Int32)) X5 hx hby hZ e1 A0 d24_8 rfl (by decide) ?_
  refine Go.iconst (pc' := 10) X5 hx hby d24_9 rfl (v := (1 : Int32)) (by decide) ?_
  refine Go.ishr (pc' := 11) X5 hx hby d24_10 rfl ?_
  change Go p e below _ (T3.setTop (mkF m 11 #[.val (.ref b), .val (.int ch), .val (.int (0 : Int32)), .val (.int (1 : Int32))] [(.int (1 : Int32)), (.int (1 : Int32))]))
  refine Go.callS (pc' := 14) (W := 0) (argsL := [(.int (1 : Int32)), (.int (1 : Int32))]) (rest := []) X5 hx hby hZ hown (hw _ (List.mem_of_getElem? (i := 107) rfl)) (hw _ (List.mem_of_getElem? (i := 65) rfl)) (hw _ (List.mem_of_getElem? (i := 62) rfl)) (hw _ (List.mem_of_getElem? (i := 66) rfl)) (by decide) (rmMin l Z a0 hw 1 1 h0 rfl) e1 (by decide) (by decide) (by rw [hml]; rfl) pd_8 rfl rfl rfl (Nat.le_of_eq rfl) d24_11 rfl (by decide) (by decide) ?_
  rintro r7 T8 L9 X10 ⟨rfl, rfl, e6⟩
  rw [List.append_nil] at X10
  show Go p e below _ (T8.setTop (mkF m 14 #[.val (.ref b), .val (.int ch), .val (.int (0 : Int32)), .val (.int (1 : Int32))] [(.int (1 : Int32))]))
  refine Go.istoreN (Ls' := #[.val (.ref b), .val (.int ch), .val (.int (0 : Int32)), .val (.int (1 : Int32))]) (pc' := 15) X10 hx hby d24_14 rfl rfl ?_
  refine Go.iloadN (pc' := 16) X10 hx hby d24_15 rfl rfl ?_
  refine Go.iloadN (pc' := 17) X10 hx hby d24_16 rfl rfl ?_
  refine Go.icmpY (pc' := 22) X10 hx hby d24_17 (by decide) (by decide) (show (0 : Int32) < (1 : Int32) from by decide) ?_
  refine Go.iloadN (pc' := 23) X10 hx hby d24_22 rfl rfl ?_
  refine Go.ldcI (pc' := 25) X10 hx hby d24_23 rfl hown (mvT hZ (hw _ (List.mem_of_getElem? (i := 108) rfl))) ?_
  refine Go.icmpN (pc' := 28) X10 hx hby d24_25 rfl (show ¬ ((65536 : Int32) ≤ ch) from by rcases hch with rfl | rfl <;> decide) ?_
  refine Go.aloadN (pc' := 29) X10 hx hby d24_28 rfl rfl rfl ?_
  refine Go.iloadN (pc' := 30) X10 hx hby d24_29 rfl rfl ?_
  refine Go.iloadN (pc' := 31) X10 hx hby d24_30 rfl rfl ?_
  refine Go.iloadN (pc' := 32) X10 hx hby d24_31 rfl rfl ?_
  refine Go.callS (pc' := 35) (W := 0) (argsL := [(.ref b), (.int ch), (.int (0 : Int32)), (.int (1 : Int32))]) (rest := []) X10 hx hby hZ hown (hw _ (List.mem_of_getElem? (i := 109) rfl)) (hw _ (List.mem_of_getElem? (i := 110) rfl)) (hw _ (List.mem_of_getElem? (i := 69) rfl)) (hw _ (List.mem_of_getElem? (i := 111) rfl)) (by decide) (rmUC1 l Z a0 hw b ch 0 1 h0 n0 kk sf u0 u1 u2 O0 SS B0 B1 B2 rfl rfl A0) e6 (by decide) (by decide) (by rw [hml]; rfl) pd_17 rfl rfl rfl (Nat.le_of_eq rfl) d24_32 rfl (by decide) (by decide) ?_
  rintro r12 T13 L14 X15 ⟨rfl, rfl, e11⟩
  rw [List.append_nil] at X15
  show Go p e below _ (T13.setTop (mkF m 35 #[.val (.ref b), .val (.int ch), .val (.int (0 : Int32)), .val (.int (1 : Int32))] [(.int (own_ix1 ch u0))]))
  exact Go.retI X15 hx hby hlk hret d24_35 (by decide) (by decide) ⟨rfl, rfl, e11⟩
set_option maxRecDepth 65536 in
set_option maxHeartbeats 40000000 in
theorem rmUL2 (l : Launch) (Z : State) (a0 : Array Value) (hw : ∀ d ∈ tables_1, d.before a0 Z = true) (b : Addr) (h0 : Heap) (f0 : Int → Value) (A0 : Ar Z h0 b .byte 4 f0) :
    Con l Z (⟨"java/lang/StringUTF16", "length", "([B)I"⟩ : MethodName) jdk_52_method_6_code 1 (some .int) [] ({ frames := 0, cells := 0, slots := 0, locals := 0 } : Room) #[(.ref b)] h0 (PQ (some (.int 2)) h0) := by
  refine Con.of (plainFor_of_name pn_StringUTF16) ?_
  intro p e s m below meth c s₁ hx hby hml hown hnm hret hlk hZ X0 e0
  refine Go.cast (ef_27 m b) ?_
  replace hown : s.vm.findClass "java/lang/StringUTF16" = some m.cls := hown
  refine Go.aloadN (pc' := 1) X0 hx hby d27_0 rfl rfl rfl ?_
  refine Go.alen (pc' := 2) (zv := (4 : Int32)) X0 hx hby hZ e0 A0 d27_1 rfl (by decide) ?_
  refine Go.iconst (pc' := 3) X0 hx hby d27_2 rfl (v := (1 : Int32)) (by decide) ?_
  refine Go.ishr (pc' := 4) X0 hx hby d27_3 rfl ?_
  change Go p e below _ (s₁.setTop (mkF m 4 #[.val (.ref b)] [(.int (2 : Int32))]))
  exact Go.retI X0 hx hby hlk hret d27_4 (by decide) (by decide) ⟨rfl, rfl, e0⟩
set_option maxRecDepth 65536 in
set_option maxHeartbeats 40000000 in
theorem rmPX2n (l : Launch) (Z : State) (a0 : Array Value) (hw : ∀ d ∈ tables_1, d.before a0 Z = true) (x0 : Int32) (x1 : Int32) (x2 : Int32) (h0 : Heap) (h0' : x0 = 0) (h1 : x1 = 2) (h2 : x2 = 2) :
    Con l Z (⟨"jdk/internal/util/Preconditions", "checkFromToIndex", "(IIILjava/util/function/BiFunction;)I"⟩ : MethodName) jdk_41_method_12_code 4 (some .int) [] ({ frames := 0, cells := 0, slots := 0, locals := 0 } : Room) #[(.int x0), (.int x1), (.int x2), .null] h0 (PQ (some (.int 0)) h0) := by
  refine Con.of (plainFor_of_name pn_Preconditions) ?_
  intro p e s m below meth c s₁ hx hby hml hown hnm hret hlk hZ X0 e0
  refine Go.cast (ef_29n m x0 x1 x2) ?_
  replace hown : s.vm.findClass "jdk/internal/util/Preconditions" = some m.cls := hown
  subst h0' h1 h2
  show Go p e below _ (s₁.setTop (mkF m 0 #[.val (.int (0 : Int32)), .val (.int (2 : Int32)), .val (.int (2 : Int32)), .val .null] []))
  refine Go.iloadN (pc' := 1) X0 hx hby d29_0 rfl rfl ?_
  refine Go.ifN (pc' := 4) X0 hx hby d29_1 rfl (show ¬ ((0 : Int32) < 0) from by decide) ?_
  refine Go.iloadN (pc' := 5) X0 hx hby d29_4 rfl rfl ?_
  refine Go.iloadN (pc' := 6) X0 hx hby d29_5 rfl rfl ?_
  refine Go.icmpN (pc' := 9) X0 hx hby d29_6 rfl (show ¬ ((2 : Int32) < (0 : Int32)) from by decide) ?_
  refine Go.iloadN (pc' := 10) X0 hx hby d29_9 rfl rfl ?_
  refine Go.iloadN (pc' := 11) X0 hx hby d29_10 rfl rfl ?_
  refine Go.icmpY (pc' := 22) X0 hx hby d29_11 (by decide) (by decide) (show (2 : Int32) ≤ (2 : Int32) from by decide) ?_
  refine Go.iloadN (pc' := 23) X0 hx hby d29_22 rfl rfl ?_
  exact Go.retI X0 hx hby hlk hret d29_23 (by decide) (by decide) ⟨rfl, rfl, e0⟩
set_option maxRecDepth 65536 in
set_option maxHeartbeats 40000000 in
theorem rmPX2r (l : Launch) (Z : State) (a0 : Array Value) (hw : ∀ d ∈ tables_1, d.before a0 Z = true) (x0 : Int32) (x1 : Int32) (x2 : Int32) (sr : Addr) (h0 : Heap) (h0' : x0 = 0) (h1 : x1 = 2) (h2 : x2 = 2) :
    Con l Z (⟨"jdk/internal/util/Preconditions", "checkFromToIndex", "(IIILjava/util/function/BiFunction;)I"⟩ : MethodName) jdk_41_method_12_code 4 (some .int) [] ({ frames := 0, cells := 0, slots := 0, locals := 0 } : Room) #[(.int x0), (.int x1), (.int x2), (.ref sr)] h0 (PQ (some (.int 0)) h0) := by
  refine Con.of (plainFor_of_name pn_Preconditions) ?_
  intro p e s m below meth c s₁ hx hby hml hown hnm hret hlk hZ X0 e0
  refine Go.cast (ef_29r m x0 x1 x2 sr) ?_
  replace hown : s.vm.findClass "jdk/internal/util/Preconditions" = some m.cls := hown
  subst h0' h1 h2
  show Go p e below _ (s₁.setTop (mkF m 0 #[.val (.int (0 : Int32)), .val (.int (2 : Int32)), .val (.int (2 : Int32)), .val (.ref sr)] []))
  refine Go.iloadN (pc' := 1) X0 hx hby d29_0 rfl rfl ?_
  refine Go.ifN (pc' := 4) X0 hx hby d29_1 rfl (show ¬ ((0 : Int32) < 0) from by decide) ?_
  refine Go.iloadN (pc' := 5) X0 hx hby d29_4 rfl rfl ?_
  refine Go.iloadN (pc' := 6) X0 hx hby d29_5 rfl rfl ?_
  refine Go.icmpN (pc' := 9) X0 hx hby d29_6 rfl (show ¬ ((2 : Int32) < (0 : Int32)) from by decide) ?_
  refine Go.iloadN (pc' := 10) X0 hx hby d29_9 rfl rfl ?_
  refine Go.iloadN (pc' := 11) X0 hx hby d29_10 rfl rfl ?_
  refine Go.icmpY (pc' := 22) X0 hx hby d29_11 (by decide) (by decide) (show (2 : Int32) ≤ (2 : Int32) from by decide) ?_
  refine Go.iloadN (pc' := 23) X0 hx hby d29_22 rfl rfl ?_
  exact Go.retI X0 hx hby hlk hret d29_23 (by decide) (by decide) ⟨rfl, rfl, e0⟩
set_option maxRecDepth 65536 in
set_option maxHeartbeats 40000000 in
theorem rmSB2 (l : Launch) (Z : State) (a0 : Array Value) (hw : ∀ d ∈ tables_1, d.before a0 Z = true) (x0 : Int32) (x1 : Int32) (x2 : Int32) (h0 : Heap) (n0 : Nat) (kk : Int32) (sf : Value) (O0 : Old Z n0 h0) (SS : own_S Z kk sf) (h0' : x0 = 0) (h1 : x1 = 2) (h2 : x2 = 2) :
    Con l Z (⟨"java/lang/String", "checkBoundsBeginEnd", "(III)V"⟩ : MethodName) jdk_42_method_158_code 3 none [] ({ frames := 1, cells := 0, slots := 0, locals := 15 } : Room) #[(.int x0), (.int x1), (.int x2)] h0 (PQ none h0) := by
  refine Con.of (plainFor_of_name pn_String) ?_
  intro p e s m below meth c s₁ hx hby hml hown hnm hret hlk hZ X0 e0
  refine Go.cast (ef_28 m x0 x1 x2) ?_
  replace hown : s.vm.findClass "java/lang/String" = some m.cls := hown
  subst h0' h1 h2
  show Go p e below _ (s₁.setTop (mkF m 0 #[.val (.int (0 : Int32)), .val (.int (2 : Int32)), .val (.int (2 : Int32))] []))
  rcases SS.2.2.2.2.2.2 with rfl | ⟨sr, rfl⟩
  ·
    have S4_ : Sta Z h0 "jdk/internal/util/Preconditions" "SIOOBE_FORMATTER" "Ljava/util/function/BiFunction;" .null := Sta.ext O0.2 SS.2.2.2.2.2.1
    refine Go.iloadN (pc' := 1) X0 hx hby d28_0 rfl rfl ?_
    refine Go.iloadN (pc' := 2) X0 hx hby d28_1 rfl rfl ?_
    refine Go.iloadN (pc' := 3) X0 hx hby d28_2 rfl rfl ?_
    refine Go.getSt (pc' := 6) X0 hx hby hZ hown (hw _ (List.mem_of_getElem? (i := 121) rfl)) Via.refl e0 S4_ d28_3 rfl ?_
    intro T1 X2 e3
    refine Go.callS (pc' := 9) (W := 0) (argsL := [(.int (0 : Int32)), (.int (2 : Int32)), (.int (2 : Int32)), .null]) (rest := []) X2 hx hby hZ hown (hw _ (List.mem_of_getElem? (i := 123) rfl)) (hw _ (List.mem_of_getElem? (i := 124) rfl)) (hw _ (List.mem_of_getElem? (i := 122) rfl)) (hw _ (List.mem_of_getElem? (i := 125) rfl)) (by decide) (rmPX2n l Z a0 hw 0 2 2 h0 rfl rfl rfl) e3 (by decide) (by decide) (by rw [hml]; rfl) pd_10 rfl rfl rfl (Nat.le_of_eq rfl) d28_6 rfl (by decide) (by decide) ?_
    rintro r5 T6 L7 X8 ⟨rfl, rfl, e4⟩
    rw [List.append_nil] at X8
    show Go p e below _ (T6.setTop (mkF m 9 #[.val (.int (0 : Int32)), .val (.int (2 : Int32)), .val (.int (2 : Int32))] [(.int (0 : Int32))]))
    refine Go.pop (pc' := 10) X8 hx hby d28_9 rfl rfl ?_
    exact Go.ret0 X8 hx hby hlk hret d28_10 (by decide) (by decide) ⟨rfl, rfl, e4⟩
  ·
    have S4_ : Sta Z h0 "jdk/internal/util/Preconditions" "SIOOBE_FORMATTER" "Ljava/util/function/BiFunction;" (.ref sr) := Sta.ext O0.2 SS.2.2.2.2.2.1
    refine Go.iloadN (pc' := 1) X0 hx hby d28_0 rfl rfl ?_
    refine Go.iloadN (pc' := 2) X0 hx hby d28_1 rfl rfl ?_
    refine Go.iloadN (pc' := 3) X0 hx hby d28_2 rfl rfl ?_
    refine Go.getSt (pc' := 6) X0 hx hby hZ hown (hw _ (List.mem_of_getElem? (i := 121) rfl)) Via.refl e0 S4_ d28_3 rfl ?_
    intro T9 X10 e11
    refine Go.callS (pc' := 9) (W := 0) (argsL := [(.int (0 : Int32)), (.int (2 : Int32)), (.int (2 : Int32)), (.ref sr)]) (rest := []) X10 hx hby hZ hown (hw _ (List.mem_of_getElem? (i := 123) rfl)) (hw _ (List.mem_of_getElem? (i := 124) rfl)) (hw _ (List.mem_of_getElem? (i := 122) rfl)) (hw _ (List.mem_of_getElem? (i := 125) rfl)) (by decide) (rmPX2r l Z a0 hw 0 2 2 sr h0 rfl rfl rfl) e11 (by decide) (by decide) (by rw [hml]; rfl) pd_10 rfl rfl rfl (Nat.le_of_eq rfl) d28_6 rfl (by decide) (by decide) ?_
    rintro r13 T14 L15 X16 ⟨rfl, rfl, e12⟩
    rw [List.append_nil] at X16
    show Go p e below _ (T14.setTop (mkF m 9 #[.val (.int (0 : Int32)), .val (.int (2 : Int32)), .val (.int (2 : Int32))] [(.int (0 : Int32))]))
    refine Go.pop (pc' := 10) X16 hx hby d28_9 rfl rfl ?_
    exact Go.ret0 X16 hx hby hlk hret d28_10 (by decide) (by decide) ⟨rfl, rfl, e12⟩
set_option maxRecDepth 65536 in
set_option maxHeartbeats 40000000 in
theorem rmUB2 (l : Launch) (Z : State) (a0 : Array Value) (hw : ∀ d ∈ tables_1, d.before a0 Z = true) (x0 : Int32) (x1 : Int32) (b : Addr) (h0 : Heap) (n0 : Nat) (kk : Int32) (sf : Value) (f0 : Int → Value) (O0 : Old Z n0 h0) (SS : own_S Z kk sf) (h0' : x0 = 0) (h1 : x1 = 2) (A0 : Ar Z h0 b .byte 4 f0) :
    Con l Z (⟨"java/lang/StringUTF16", "checkBoundsBeginEnd", "(II[B)V"⟩ : MethodName) jdk_52_method_93_code 3 none [] ({ frames := 2, cells := 0, slots := 0, locals := 29 } : Room) #[(.int x0), (.int x1), (.ref b)] h0 (PQ none h0) := by
  refine Con.of (plainFor_of_name pn_StringUTF16) ?_
  intro p e s m below meth c s₁ hx hby hml hown hnm hret hlk hZ X0 e0
  refine Go.cast (ef_26 m x0 x1 b) ?_
  replace hown : s.vm.findClass "java/lang/StringUTF16" = some m.cls := hown
  subst h0' h1
  show Go p e below _ (s₁.setTop (mkF m 0 #[.val (.int (0 : Int32)), .val (.int (2 : Int32)), .val (.ref b)] []))
  refine Go.iloadN (pc' := 1) X0 hx hby d26_0 rfl rfl ?_
  refine Go.iloadN (pc' := 2) X0 hx hby d26_1 rfl rfl ?_
  refine Go.aloadN (pc' := 3) X0 hx hby d26_2 rfl rfl rfl ?_
  refine Go.callS (pc' := 6) (W := 2) (argsL := [(.ref b)]) (rest := [(.int (2 : Int32)), (.int (0 : Int32))]) X0 hx hby hZ hown (hw _ (List.mem_of_getElem? (i := 115) rfl)) (hw _ (List.mem_of_getElem? (i := 116) rfl)) (hw _ (List.mem_of_getElem? (i := 69) rfl)) (hw _ (List.mem_of_getElem? (i := 117) rfl)) (by decide) (rmUL2 l Z a0 hw b h0 f0 A0) e0 (by decide) (by decide) (by rw [hml]; rfl) pd_13 rfl rfl rfl (Nat.le_of_eq rfl) d26_3 rfl (by decide) (by decide) ?_
  rintro r2 T3 L4 X5 ⟨rfl, rfl, e1⟩
  rw [List.append_nil] at X5
  show Go p e below _ (T3.setTop (mkF m 6 #[.val (.int (0 : Int32)), .val (.int (2 : Int32)), .val (.ref b)] [(.int (2 : Int32)), (.int (2 : Int32)), (.int (0 : Int32))]))
  refine Go.callS (pc' := 9) (W := 0) (argsL := [(.int (0 : Int32)), (.int (2 : Int32)), (.int (2 : Int32))]) (rest := []) X5 hx hby hZ hown (hw _ (List.mem_of_getElem? (i := 118) rfl)) (hw _ (List.mem_of_getElem? (i := 119) rfl)) (hw _ (List.mem_of_getElem? (i := 4) rfl)) (hw _ (List.mem_of_getElem? (i := 120) rfl)) (by decide) (rmSB2 l Z a0 hw 0 2 2 h0 n0 kk sf O0 SS rfl rfl rfl) e1 (by decide) (by decide) (by rw [hml]; rfl) pd_9 rfl rfl rfl (Nat.le_of_eq rfl) d26_6 rfl (by decide) (by decide) ?_
  rintro r7 T8 L9 X10 ⟨rfl, rfl, e6⟩
  rw [List.append_nil] at X10
  show Go p e below _ (T8.setTop (mkF m 9 #[.val (.int (0 : Int32)), .val (.int (2 : Int32)), .val (.ref b)] []))
  exact Go.ret0 X10 hx hby hlk hret d26_9 (by decide) (by decide) ⟨rfl, rfl, e6⟩
set_option maxRecDepth 65536 in
set_option maxHeartbeats 40000000 in
theorem rmUU2 (l : Launch) (Z : State) (a0 : Array Value) (hw : ∀ d ∈ tables_1, d.before a0 Z = true) (b : Addr) (ch : Int32) (x2 : Int32) (x3 : Int32) (h0 : Heap) (n0 : Nat) (kk : Int32) (sf : Value) (u0 u1 u2 : Int32) (O0 : Old Z n0 h0) (SS : own_S Z kk sf) (B0 : 0 ≤ u0.toInt ∧ u0.toInt ≤ 65535) (B1 : 0 ≤ u1.toInt ∧ u1.toInt ≤ 65535) (B2 : 0 ≤ u2.toInt ∧ u2.toInt ≤ 65535) (h2 : x2 = 0) (h3 : x3 = 2) (A0 : Ar Z h0 b .byte 4 (fun q => .int (own_u u0 u1 u2 q))) :
    Con l Z (⟨"java/lang/StringUTF16", "indexOfCharUnsafe", "([BIII)I"⟩ : MethodName) jdk_52_method_48_code 5 (some .int) [] ({ frames := 1, cells := 0, slots := 0, locals := 13 } : Room) #[(.ref b), (.int ch), (.int x2), (.int x3)] h0 (PQ (some (.int (own_ix2 ch u0 u1))) h0) := by
  refine Con.of (plainFor_of_name pn_StringUTF16) ?_
  intro p e s m below meth c s₁ hx hby hml hown hnm hret hlk hZ X0 e0
  refine Go.cast (ef_30 m b ch x2 x3) ?_
  replace hown : s.vm.findClass "java/lang/StringUTF16" = some m.cls := hown
  subst h2 h3
  show Go p e below _ (s₁.setTop (mkF m 0 #[.val (.ref b), .val (.int ch), .val (.int (0 : Int32)), .val (.int (2 : Int32)), .unset] []))
  refine Go.iloadN (pc' := 1) X0 hx hby d30_0 rfl rfl ?_
  refine Go.istore (Ls' := #[.val (.ref b), .val (.int ch), .val (.int (0 : Int32)), .val (.int (2 : Int32)), .val (.int (0 : Int32))]) (pc' := 3) X0 hx hby d30_1 rfl rfl ?_
  refine Go.iload (pc' := 5) X0 hx hby d30_3 rfl rfl ?_
  refine Go.iloadN (pc' := 6) X0 hx hby d30_5 rfl rfl ?_
  refine Go.icmpN (pc' := 9) X0 hx hby d30_6 rfl (show ¬ ((2 : Int32) ≤ (0 : Int32)) from by decide) ?_
  refine Go.aloadN (pc' := 10) X0 hx hby d30_9 rfl rfl rfl ?_
  refine Go.iload (pc' := 12) X0 hx hby d30_10 rfl rfl ?_
  refine Go.callS (pc' := 15) (W := 0) (argsL := [(.ref b), (.int (0 : Int32))]) (rest := []) X0 hx hby hZ hown (hw _ (List.mem_of_getElem? (i := 100) rfl)) (hw _ (List.mem_of_getElem? (i := 101) rfl)) (hw _ (List.mem_of_getElem? (i := 69) rfl)) (hw _ (List.mem_of_getElem? (i := 102) rfl)) (by decide) (rmGC2_0 l Z a0 hw b 0 h0 n0 kk sf (fun q => .int (own_u u0 u1 u2 q)) (own_lo u0) (own_hi u0) u0 O0 SS rfl A0 rfl rfl (own_gcc u0 B0)) e0 (by decide) (by decide) (by rw [hml]; rfl) pd_15 rfl rfl rfl (Nat.le_of_eq rfl) d30_12 rfl (by decide) (by decide) ?_
  rintro r2 T3 L4 X5 ⟨rfl, rfl, e1⟩
  rw [List.append_nil] at X5
  show Go p e below _ (T3.setTop (mkF m 15 #[.val (.ref b), .val (.int ch), .val (.int (0 : Int32)), .val (.int (2 : Int32)), .val (.int (0 : Int32))] [(.int u0)]))
  refine Go.iloadN (pc' := 16) X5 hx hby d30_15 rfl rfl ?_
  refine Go.icmp (pc' := 22) (pn := 19) X5 hx hby d30_16 (by decide) (by decide) rfl (fun (t0_ : u0 ≠ ch) => ?_) (fun (t0_ : ¬ (u0 ≠ ch)) => ?_)
  rotate_left
  ·
    rw [ne_eq, Decidable.not_not] at t0_
    refine Go.iload (pc' := 21) X5 hx hby d30_19 rfl rfl ?_
    exact Go.retI X5 hx hby hlk hret d30_21 (by decide) (by decide) ⟨by simp [own_ix2, t0_], rfl, e1⟩
  refine Go.iinc (w := (0 : Int32) + (1 : Int32)) (Ls' := #[.val (.ref b), .val (.int ch), .val (.int (0 : Int32)), .val (.int (2 : Int32)), .val (.int ((0 : Int32) + (1 : Int32)))]) (pc' := 25) X5 hx hby d30_22 rfl rfl rfl rfl ?_
  change Go p e below _ (T3.setTop (mkF m 25 #[.val (.ref b), .val (.int ch), .val (.int (0 : Int32)), .val (.int (2 : Int32)), .val (.int (1 : Int32))] []))
  refine Go.goto (pc' := 3) X5 hx hby d30_25 (by decide) (by decide) ?_
  refine Go.iload (pc' := 5) X5 hx hby d30_3 rfl rfl ?_
  refine Go.iloadN (pc' := 6) X5 hx hby d30_5 rfl rfl ?_
  refine Go.icmpN (pc' := 9) X5 hx hby d30_6 rfl (show ¬ ((2 : Int32) ≤ (1 : Int32)) from by decide) ?_
  refine Go.aloadN (pc' := 10) X5 hx hby d30_9 rfl rfl rfl ?_
  refine Go.iload (pc' := 12) X5 hx hby d30_10 rfl rfl ?_
  refine Go.callS (pc' := 15) (W := 0) (argsL := [(.ref b), (.int (1 : Int32))]) (rest := []) X5 hx hby hZ hown (hw _ (List.mem_of_getElem? (i := 100) rfl)) (hw _ (List.mem_of_getElem? (i := 101) rfl)) (hw _ (List.mem_of_getElem? (i := 69) rfl)) (hw _ (List.mem_of_getElem? (i := 102) rfl)) (by decide) (rmGC2_1 l Z a0 hw b 1 h0 n0 kk sf (fun q => .int (own_u u0 u1 u2 q)) (own_lo u1) (own_hi u1) u1 O0 SS rfl A0 rfl rfl (own_gcc u1 B1)) e1 (by decide) (by decide) (by rw [hml]; rfl) pd_15 rfl rfl rfl (Nat.le_of_eq rfl) d30_12 rfl (by decide) (by decide) ?_
  rintro r7 T8 L9 X10 ⟨rfl, rfl, e6⟩
  rw [List.append_nil] at X10
  show Go p e below _ (T8.setTop (mkF m 15 #[.val (.ref b), .val (.int ch), .val (.int (0 : Int32)), .val (.int (2 : Int32)), .val (.int (1 : Int32))] [(.int u1)]))
  refine Go.iloadN (pc' := 16) X10 hx hby d30_15 rfl rfl ?_
  refine Go.icmp (pc' := 22) (pn := 19) X10 hx hby d30_16 (by decide) (by decide) rfl (fun (t1_ : u1 ≠ ch) => ?_) (fun (t1_ : ¬ (u1 ≠ ch)) => ?_)
  rotate_left
  ·
    rw [ne_eq, Decidable.not_not] at t1_
    refine Go.iload (pc' := 21) X10 hx hby d30_19 rfl rfl ?_
    exact Go.retI X10 hx hby hlk hret d30_21 (by decide) (by decide) ⟨by simp [own_ix2, t0_, t1_], rfl, e6⟩
  refine Go.iinc (w := (1 : Int32) + (1 : Int32)) (Ls' := #[.val (.ref b), .val (.int ch), .val (.int (0 : Int32)), .val (.int (2 : Int32)), .val (.int ((1 : Int32) + (1 : Int32)))]) (pc' := 25) X10 hx hby d30_22 rfl rfl rfl rfl ?_
  change Go p e below _ (T8.setTop (mkF m 25 #[.val (.ref b), .val (.int ch), .val (.int (0 : Int32)), .val (.int (2 : Int32)), .val (.int (2 : Int32))] []))
  refine Go.goto (pc' := 3) X10 hx hby d30_25 (by decide) (by decide) ?_
  refine Go.iload (pc' := 5) X10 hx hby d30_3 rfl rfl ?_
  refine Go.iloadN (pc' := 6) X10 hx hby d30_5 rfl rfl ?_
  refine Go.icmpY (pc' := 28) X10 hx hby d30_6 (by decide) (by decide) (show (2 : Int32) ≤ (2 : Int32) from by decide) ?_
  refine Go.iconst (pc' := 29) X10 hx hby d30_28 rfl (v := (-1 : Int32)) (by decide) ?_
  exact Go.retI X10 hx hby hlk hret d30_29 (by decide) (by decide) ⟨by simp [own_ix2, t0_, t1_], rfl, e6⟩
set_option maxRecDepth 65536 in
set_option maxHeartbeats 40000000 in
theorem rmUC2 (l : Launch) (Z : State) (a0 : Array Value) (hw : ∀ d ∈ tables_1, d.before a0 Z = true) (b : Addr) (ch : Int32) (x2 : Int32) (x3 : Int32) (h0 : Heap) (n0 : Nat) (kk : Int32) (sf : Value) (u0 u1 u2 : Int32) (O0 : Old Z n0 h0) (SS : own_S Z kk sf) (B0 : 0 ≤ u0.toInt ∧ u0.toInt ≤ 65535) (B1 : 0 ≤ u1.toInt ∧ u1.toInt ≤ 65535) (B2 : 0 ≤ u2.toInt ∧ u2.toInt ≤ 65535) (h2 : x2 = 0) (h3 : x3 = 2) (A0 : Ar Z h0 b .byte 4 (fun q => .int (own_u u0 u1 u2 q))) :
    Con l Z (⟨"java/lang/StringUTF16", "indexOfChar", "([BIII)I"⟩ : MethodName) jdk_52_method_47_code 4 (some .int) [] ({ frames := 3, cells := 0, slots := 0, locals := 43 } : Room) #[(.ref b), (.int ch), (.int x2), (.int x3)] h0 (PQ (some (.int (own_ix2 ch u0 u1))) h0) := by
  refine Con.of (plainFor_of_name pn_StringUTF16) ?_
  intro p e s m below meth c s₁ hx hby hml hown hnm hret hlk hZ X0 e0
  refine Go.cast (ef_25 m b ch x2 x3) ?_
  replace hown : s.vm.findClass "java/lang/StringUTF16" = some m.cls := hown
  subst h2 h3
  show Go p e below _ (s₁.setTop (mkF m 0 #[.val (.ref b), .val (.int ch), .val (.int (0 : Int32)), .val (.int (2 : Int32))] []))
  refine Go.iloadN (pc' := 1) X0 hx hby d25_0 rfl rfl ?_
  refine Go.iloadN (pc' := 2) X0 hx hby d25_1 rfl rfl ?_
  refine Go.aloadN (pc' := 3) X0 hx hby d25_2 rfl rfl rfl ?_
  refine Go.callS (pc' := 6) (W := 0) (argsL := [(.int (0 : Int32)), (.int (2 : Int32)), (.ref b)]) (rest := []) X0 hx hby hZ hown (hw _ (List.mem_of_getElem? (i := 112) rfl)) (hw _ (List.mem_of_getElem? (i := 113) rfl)) (hw _ (List.mem_of_getElem? (i := 69) rfl)) (hw _ (List.mem_of_getElem? (i := 114) rfl)) (by decide) (rmUB2 l Z a0 hw 0 2 b h0 n0 kk sf _ O0 SS rfl rfl A0) e0 (by decide) (by decide) (by rw [hml]; rfl) pd_11 rfl rfl rfl (Nat.le_of_eq rfl) d25_3 rfl (by decide) (by decide) ?_
  rintro r2 T3 L4 X5 ⟨rfl, rfl, e1⟩
  rw [List.append_nil] at X5
  show Go p e below _ (T3.setTop (mkF m 6 #[.val (.ref b), .val (.int ch), .val (.int (0 : Int32)), .val (.int (2 : Int32))] []))
  refine Go.aloadN (pc' := 7) X5 hx hby d25_6 rfl rfl rfl ?_
  refine Go.iloadN (pc' := 8) X5 hx hby d25_7 rfl rfl ?_
  refine Go.iloadN (pc' := 9) X5 hx hby d25_8 rfl rfl ?_
  refine Go.iloadN (pc' := 10) X5 hx hby d25_9 rfl rfl ?_
  refine Go.callS (pc' := 13) (W := 0) (argsL := [(.ref b), (.int ch), (.int (0 : Int32)), (.int (2 : Int32))]) (rest := []) X5 hx hby hZ hown (hw _ (List.mem_of_getElem? (i := 126) rfl)) (hw _ (List.mem_of_getElem? (i := 127) rfl)) (hw _ (List.mem_of_getElem? (i := 69) rfl)) (hw _ (List.mem_of_getElem? (i := 128) rfl)) (by decide) (rmUU2 l Z a0 hw b ch 0 2 h0 n0 kk sf u0 u1 u2 O0 SS B0 B1 B2 rfl rfl A0) e1 (by decide) (by decide) (by rw [hml]; rfl) pd_17 rfl rfl rfl (Nat.le_of_eq rfl) d25_10 rfl (by decide) (by decide) ?_
  rintro r7 T8 L9 X10 ⟨rfl, rfl, e6⟩
  rw [List.append_nil] at X10
  show Go p e below _ (T8.setTop (mkF m 13 #[.val (.ref b), .val (.int ch), .val (.int (0 : Int32)), .val (.int (2 : Int32))] [(.int (own_ix2 ch u0 u1))]))
  exact Go.retI X10 hx hby hlk hret d25_13 (by decide) (by decide) ⟨rfl, rfl, e6⟩
set_option maxRecDepth 65536 in
set_option maxHeartbeats 40000000 in
theorem rmUI2 (l : Launch) (Z : State) (a0 : Array Value) (hw : ∀ d ∈ tables_1, d.before a0 Z = true) (b : Addr) (ch : Int32) (x2 : Int32) (x3 : Int32) (h0 : Heap) (n0 : Nat) (kk : Int32) (sf : Value) (u0 u1 u2 : Int32) (hch : ch = 9 ∨ ch = 10) (O0 : Old Z n0 h0) (SS : own_S Z kk sf) (B0 : 0 ≤ u0.toInt ∧ u0.toInt ≤ 65535) (B1 : 0 ≤ u1.toInt ∧ u1.toInt ≤ 65535) (B2 : 0 ≤ u2.toInt ∧ u2.toInt ≤ 65535) (h2 : x2 = 0) (h3 : x3 = 2) (A0 : Ar Z h0 b .byte 4 (fun q => .int (own_u u0 u1 u2 q))) :
    Con l Z (⟨"java/lang/StringUTF16", "indexOf", "([BIII)I"⟩ : MethodName) jdk_52_method_40_code 4 (some .int) [] ({ frames := 4, cells := 0, slots := 0, locals := 58 } : Room) #[(.ref b), (.int ch), (.int x2), (.int x3)] h0 (PQ (some (.int (own_ix2 ch u0 u1))) h0) := by
  refine Con.of (plainFor_of_name pn_StringUTF16) ?_
  intro p e s m below meth c s₁ hx hby hml hown hnm hret hlk hZ X0 e0
  refine Go.cast (ef_24 m b ch x2 x3) ?_
  replace hown : s.vm.findClass "java/lang/StringUTF16" = some m.cls := hown
  subst h2 h3
  show Go p e below _ (s₁.setTop (mkF m 0 #[.val (.ref b), .val (.int ch), .val (.int (0 : Int32)), .val (.int (2 : Int32))] []))
  refine Go.iloadN (pc' := 1) X0 hx hby d24_0 rfl rfl ?_
  refine Go.iconst (pc' := 2) X0 hx hby d24_1 rfl (v := (0 : Int32)) (by decide) ?_
  refine Go.callS (pc' := 5) (W := 0) (argsL := [(.int (0 : Int32)), (.int (0 : Int32))]) (rest := []) X0 hx hby hZ hown (hw _ (List.mem_of_getElem? (i := 106) rfl)) (hw _ (List.mem_of_getElem? (i := 61) rfl)) (hw _ (List.mem_of_getElem? (i := 62) rfl)) (hw _ (List.mem_of_getElem? (i := 63) rfl)) (by decide) (rmMax l Z a0 hw 0 0 h0 rfl) e0 (by decide) (by decide) (by rw [hml]; rfl) pd_8 rfl rfl rfl (Nat.le_of_eq rfl) d24_2 rfl (by decide) (by decide) ?_
  rintro r2 T3 L4 X5 ⟨rfl, rfl, e1⟩
  rw [List.append_nil] at X5
  show Go p e below _ (T3.setTop (mkF m 5 #[.val (.ref b), .val (.int ch), .val (.int (0 : Int32)), .val (.int (2 : Int32))] [(.int (0 : Int32))]))
  refine Go.istoreN (Ls' := #[.val (.ref b), .val (.int ch), .val (.int (0 : Int32)), .val (.int (2 : Int32))]) (pc' := 6) X5 hx hby d24_5 rfl rfl ?_
  refine Go.iloadN (pc' := 7) X5 hx hby d24_6 rfl rfl ?_
  refine Go.aloadN (pc' := 8) X5 hx hby d24_7 rfl rfl rfl ?_
  refine Go.alen (pc' := 9) (zv := (4 : Int32)) X5 hx hby hZ e1 A0 d24_8 rfl (by decide) ?_
  refine Go.iconst (pc' := 10) X5 hx hby d24_9 rfl (v := (1 : Int32)) (by decide) ?_
  refine Go.ishr (pc' := 11) X5 hx hby d24_10 rfl ?_
  change Go p e below _ (T3.setTop (mkF m 11 #[.val (.ref b), .val (.int ch), .val (.int (0 : Int32)), .val (.int (2 : Int32))] [(.int (2 : Int32)), (.int (2 : Int32))]))
  refine Go.callS (pc' := 14) (W := 0) (argsL := [(.int (2 : Int32)), (.int (2 : Int32))]) (rest := []) X5 hx hby hZ hown (hw _ (List.mem_of_getElem? (i := 107) rfl)) (hw _ (List.mem_of_getElem? (i := 65) rfl)) (hw _ (List.mem_of_getElem? (i := 62) rfl)) (hw _ (List.mem_of_getElem? (i := 66) rfl)) (by decide) (rmMin l Z a0 hw 2 2 h0 rfl) e1 (by decide) (by decide) (by rw [hml]; rfl) pd_8 rfl rfl rfl (Nat.le_of_eq rfl) d24_11 rfl (by decide) (by decide) ?_
  rintro r7 T8 L9 X10 ⟨rfl, rfl, e6⟩
  rw [List.append_nil] at X10
  show Go p e below _ (T8.setTop (mkF m 14 #[.val (.ref b), .val (.int ch), .val (.int (0 : Int32)), .val (.int (2 : Int32))] [(.int (2 : Int32))]))
  refine Go.istoreN (Ls' := #[.val (.ref b), .val (.int ch), .val (.int (0 : Int32)), .val (.int (2 : Int32))]) (pc' := 15) X10 hx hby d24_14 rfl rfl ?_
  refine Go.iloadN (pc' := 16) X10 hx hby d24_15 rfl rfl ?_
  refine Go.iloadN (pc' := 17) X10 hx hby d24_16 rfl rfl ?_
  refine Go.icmpY (pc' := 22) X10 hx hby d24_17 (by decide) (by decide) (show (0 : Int32) < (2 : Int32) from by decide) ?_
  refine Go.iloadN (pc' := 23) X10 hx hby d24_22 rfl rfl ?_
  refine Go.ldcI (pc' := 25) X10 hx hby d24_23 rfl hown (mvT hZ (hw _ (List.mem_of_getElem? (i := 108) rfl))) ?_
  refine Go.icmpN (pc' := 28) X10 hx hby d24_25 rfl (show ¬ ((65536 : Int32) ≤ ch) from by rcases hch with rfl | rfl <;> decide) ?_
  refine Go.aloadN (pc' := 29) X10 hx hby d24_28 rfl rfl rfl ?_
  refine Go.iloadN (pc' := 30) X10 hx hby d24_29 rfl rfl ?_
  refine Go.iloadN (pc' := 31) X10 hx hby d24_30 rfl rfl ?_
  refine Go.iloadN (pc' := 32) X10 hx hby d24_31 rfl rfl ?_
  refine Go.callS (pc' := 35) (W := 0) (argsL := [(.ref b), (.int ch), (.int (0 : Int32)), (.int (2 : Int32))]) (rest := []) X10 hx hby hZ hown (hw _ (List.mem_of_getElem? (i := 109) rfl)) (hw _ (List.mem_of_getElem? (i := 110) rfl)) (hw _ (List.mem_of_getElem? (i := 69) rfl)) (hw _ (List.mem_of_getElem? (i := 111) rfl)) (by decide) (rmUC2 l Z a0 hw b ch 0 2 h0 n0 kk sf u0 u1 u2 O0 SS B0 B1 B2 rfl rfl A0) e6 (by decide) (by decide) (by rw [hml]; rfl) pd_17 rfl rfl rfl (Nat.le_of_eq rfl) d24_32 rfl (by decide) (by decide) ?_
  rintro r12 T13 L14 X15 ⟨rfl, rfl, e11⟩
  rw [List.append_nil] at X15
  show Go p e below _ (T13.setTop (mkF m 35 #[.val (.ref b), .val (.int ch), .val (.int (0 : Int32)), .val (.int (2 : Int32))] [(.int (own_ix2 ch u0 u1))]))
  exact Go.retI X15 hx hby hlk hret d24_35 (by decide) (by decide) ⟨rfl, rfl, e11⟩
set_option maxRecDepth 65536 in
set_option maxHeartbeats 40000000 in
theorem rmUL3 (l : Launch) (Z : State) (a0 : Array Value) (hw : ∀ d ∈ tables_1, d.before a0 Z = true) (b : Addr) (h0 : Heap) (f0 : Int → Value) (A0 : Ar Z h0 b .byte 6 f0) :
    Con l Z (⟨"java/lang/StringUTF16", "length", "([B)I"⟩ : MethodName) jdk_52_method_6_code 1 (some .int) [] ({ frames := 0, cells := 0, slots := 0, locals := 0 } : Room) #[(.ref b)] h0 (PQ (some (.int 3)) h0) := by
  refine Con.of (plainFor_of_name pn_StringUTF16) ?_
  intro p e s m below meth c s₁ hx hby hml hown hnm hret hlk hZ X0 e0
  refine Go.cast (ef_27 m b) ?_
  replace hown : s.vm.findClass "java/lang/StringUTF16" = some m.cls := hown
  refine Go.aloadN (pc' := 1) X0 hx hby d27_0 rfl rfl rfl ?_
  refine Go.alen (pc' := 2) (zv := (6 : Int32)) X0 hx hby hZ e0 A0 d27_1 rfl (by decide) ?_
  refine Go.iconst (pc' := 3) X0 hx hby d27_2 rfl (v := (1 : Int32)) (by decide) ?_
  refine Go.ishr (pc' := 4) X0 hx hby d27_3 rfl ?_
  change Go p e below _ (s₁.setTop (mkF m 4 #[.val (.ref b)] [(.int (3 : Int32))]))
  exact Go.retI X0 hx hby hlk hret d27_4 (by decide) (by decide) ⟨rfl, rfl, e0⟩
set_option maxRecDepth 65536 in
set_option maxHeartbeats 40000000 in
theorem rmPX3n (l : Launch) (Z : State) (a0 : Array Value) (hw : ∀ d ∈ tables_1, d.before a0 Z = true) (x0 : Int32) (x1 : Int32) (x2 : Int32) (h0 : Heap) (h0' : x0 = 0) (h1 : x1 = 3) (h2 : x2 = 3) :
    Con l Z (⟨"jdk/internal/util/Preconditions", "checkFromToIndex", "(IIILjava/util/function/BiFunction;)I"⟩ : MethodName) jdk_41_method_12_code 4 (some .int) [] ({ frames := 0, cells := 0, slots := 0, locals := 0 } : Room) #[(.int x0), (.int x1), (.int x2), .null] h0 (PQ (some (.int 0)) h0) := by
  refine Con.of (plainFor_of_name pn_Preconditions) ?_
  intro p e s m below meth c s₁ hx hby hml hown hnm hret hlk hZ X0 e0
  refine Go.cast (ef_29n m x0 x1 x2) ?_
  replace hown : s.vm.findClass "jdk/internal/util/Preconditions" = some m.cls := hown
  subst h0' h1 h2
  show Go p e below _ (s₁.setTop (mkF m 0 #[.val (.int (0 : Int32)), .val (.int (3 : Int32)), .val (.int (3 : Int32)), .val .null] []))
  refine Go.iloadN (pc' := 1) X0 hx hby d29_0 rfl rfl ?_
  refine Go.ifN (pc' := 4) X0 hx hby d29_1 rfl (show ¬ ((0 : Int32) < 0) from by decide) ?_
  refine Go.iloadN (pc' := 5) X0 hx hby d29_4 rfl rfl ?_
  refine Go.iloadN (pc' := 6) X0 hx hby d29_5 rfl rfl ?_
  refine Go.icmpN (pc' := 9) X0 hx hby d29_6 rfl (show ¬ ((3 : Int32) < (0 : Int32)) from by decide) ?_
  refine Go.iloadN (pc' := 10) X0 hx hby d29_9 rfl rfl ?_
  refine Go.iloadN (pc' := 11) X0 hx hby d29_10 rfl rfl ?_
  refine Go.icmpY (pc' := 22) X0 hx hby d29_11 (by decide) (by decide) (show (3 : Int32) ≤ (3 : Int32) from by decide) ?_
  refine Go.iloadN (pc' := 23) X0 hx hby d29_22 rfl rfl ?_
  exact Go.retI X0 hx hby hlk hret d29_23 (by decide) (by decide) ⟨rfl, rfl, e0⟩
set_option maxRecDepth 65536 in
set_option maxHeartbeats 40000000 in
theorem rmPX3r (l : Launch) (Z : State) (a0 : Array Value) (hw : ∀ d ∈ tables_1, d.before a0 Z = true) (x0 : Int32) (x1 : Int32) (x2 : Int32) (sr : Addr) (h0 : Heap) (h0' : x0 = 0) (h1 : x1 = 3) (h2 : x2 = 3) :
    Con l Z (⟨"jdk/internal/util/Preconditions", "checkFromToIndex", "(IIILjava/util/function/BiFunction;)I"⟩ : MethodName) jdk_41_method_12_code 4 (some .int) [] ({ frames := 0, cells := 0, slots := 0, locals := 0 } : Room) #[(.int x0), (.int x1), (.int x2), (.ref sr)] h0 (PQ (some (.int 0)) h0) := by
  refine Con.of (plainFor_of_name pn_Preconditions) ?_
  intro p e s m below meth c s₁ hx hby hml hown hnm hret hlk hZ X0 e0
  refine Go.cast (ef_29r m x0 x1 x2 sr) ?_
  replace hown : s.vm.findClass "jdk/internal/util/Preconditions" = some m.cls := hown
  subst h0' h1 h2
  show Go p e below _ (s₁.setTop (mkF m 0 #[.val (.int (0 : Int32)), .val (.int (3 : Int32)), .val (.int (3 : Int32)), .val (.ref sr)] []))
  refine Go.iloadN (pc' := 1) X0 hx hby d29_0 rfl rfl ?_
  refine Go.ifN (pc' := 4) X0 hx hby d29_1 rfl (show ¬ ((0 : Int32) < 0) from by decide) ?_
  refine Go.iloadN (pc' := 5) X0 hx hby d29_4 rfl rfl ?_
  refine Go.iloadN (pc' := 6) X0 hx hby d29_5 rfl rfl ?_
  refine Go.icmpN (pc' := 9) X0 hx hby d29_6 rfl (show ¬ ((3 : Int32) < (0 : Int32)) from by decide) ?_
  refine Go.iloadN (pc' := 10) X0 hx hby d29_9 rfl rfl ?_
  refine Go.iloadN (pc' := 11) X0 hx hby d29_10 rfl rfl ?_
  refine Go.icmpY (pc' := 22) X0 hx hby d29_11 (by decide) (by decide) (show (3 : Int32) ≤ (3 : Int32) from by decide) ?_
  refine Go.iloadN (pc' := 23) X0 hx hby d29_22 rfl rfl ?_
  exact Go.retI X0 hx hby hlk hret d29_23 (by decide) (by decide) ⟨rfl, rfl, e0⟩
set_option maxRecDepth 65536 in
set_option maxHeartbeats 40000000 in
theorem rmSB3 (l : Launch) (Z : State) (a0 : Array Value) (hw : ∀ d ∈ tables_1, d.before a0 Z = true) (x0 : Int32) (x1 : Int32) (x2 : Int32) (h0 : Heap) (n0 : Nat) (kk : Int32) (sf : Value) (O0 : Old Z n0 h0) (SS : own_S Z kk sf) (h0' : x0 = 0) (h1 : x1 = 3) (h2 : x2 = 3) :
    Con l Z (⟨"java/lang/String", "checkBoundsBeginEnd", "(III)V"⟩ : MethodName) jdk_42_method_158_code 3 none [] ({ frames := 1, cells := 0, slots := 0, locals := 15 } : Room) #[(.int x0), (.int x1), (.int x2)] h0 (PQ none h0) := by
  refine Con.of (plainFor_of_name pn_String) ?_
  intro p e s m below meth c s₁ hx hby hml hown hnm hret hlk hZ X0 e0
  refine Go.cast (ef_28 m x0 x1 x2) ?_
  replace hown : s.vm.findClass "java/lang/String" = some m.cls := hown
  subst h0' h1 h2
  show Go p e below _ (s₁.setTop (mkF m 0 #[.val (.int (0 : Int32)), .val (.int (3 : Int32)), .val (.int (3 : Int32))] []))
  rcases SS.2.2.2.2.2.2 with rfl | ⟨sr, rfl⟩
  ·
    have S4_ : Sta Z h0 "jdk/internal/util/Preconditions" "SIOOBE_FORMATTER" "Ljava/util/function/BiFunction;" .null := Sta.ext O0.2 SS.2.2.2.2.2.1
    refine Go.iloadN (pc' := 1) X0 hx hby d28_0 rfl rfl ?_
    refine Go.iloadN (pc' := 2) X0 hx hby d28_1 rfl rfl ?_
    refine Go.iloadN (pc' := 3) X0 hx hby d28_2 rfl rfl ?_
    refine Go.getSt (pc' := 6) X0 hx hby hZ hown (hw _ (List.mem_of_getElem? (i := 121) rfl)) Via.refl e0 S4_ d28_3 rfl ?_
    intro T1 X2 e3
    refine Go.callS (pc' := 9) (W := 0) (argsL := [(.int (0 : Int32)), (.int (3 : Int32)), (.int (3 : Int32)), .null]) (rest := []) X2 hx hby hZ hown (hw _ (List.mem_of_getElem? (i := 123) rfl)) (hw _ (List.mem_of_getElem? (i := 124) rfl)) (hw _ (List.mem_of_getElem? (i := 122) rfl)) (hw _ (List.mem_of_getElem? (i := 125) rfl)) (by decide) (rmPX3n l Z a0 hw 0 3 3 h0 rfl rfl rfl) e3 (by decide) (by decide) (by rw [hml]; rfl) pd_10 rfl rfl rfl (Nat.le_of_eq rfl) d28_6 rfl (by decide) (by decide) ?_
    rintro r5 T6 L7 X8 ⟨rfl, rfl, e4⟩
    rw [List.append_nil] at X8
    show Go p e below _ (T6.setTop (mkF m 9 #[.val (.int (0 : Int32)), .val (.int (3 : Int32)), .val (.int (3 : Int32))] [(.int (0 : Int32))]))
    refine Go.pop (pc' := 10) X8 hx hby d28_9 rfl rfl ?_
    exact Go.ret0 X8 hx hby hlk hret d28_10 (by decide) (by decide) ⟨rfl, rfl, e4⟩
  ·
    have S4_ : Sta Z h0 "jdk/internal/util/Preconditions" "SIOOBE_FORMATTER" "Ljava/util/function/BiFunction;" (.ref sr) := Sta.ext O0.2 SS.2.2.2.2.2.1
    refine Go.iloadN (pc' := 1) X0 hx hby d28_0 rfl rfl ?_
    refine Go.iloadN (pc' := 2) X0 hx hby d28_1 rfl rfl ?_
    refine Go.iloadN (pc' := 3) X0 hx hby d28_2 rfl rfl ?_
    refine Go.getSt (pc' := 6) X0 hx hby hZ hown (hw _ (List.mem_of_getElem? (i := 121) rfl)) Via.refl e0 S4_ d28_3 rfl ?_
    intro T9 X10 e11
    refine Go.callS (pc' := 9) (W := 0) (argsL := [(.int (0 : Int32)), (.int (3 : Int32)), (.int (3 : Int32)), (.ref sr)]) (rest := []) X10 hx hby hZ hown (hw _ (List.mem_of_getElem? (i := 123) rfl)) (hw _ (List.mem_of_getElem? (i := 124) rfl)) (hw _ (List.mem_of_getElem? (i := 122) rfl)) (hw _ (List.mem_of_getElem? (i := 125) rfl)) (by decide) (rmPX3r l Z a0 hw 0 3 3 sr h0 rfl rfl rfl) e11 (by decide) (by decide) (by rw [hml]; rfl) pd_10 rfl rfl rfl (Nat.le_of_eq rfl) d28_6 rfl (by decide) (by decide) ?_
    rintro r13 T14 L15 X16 ⟨rfl, rfl, e12⟩
    rw [List.append_nil] at X16
    show Go p e below _ (T14.setTop (mkF m 9 #[.val (.int (0 : Int32)), .val (.int (3 : Int32)), .val (.int (3 : Int32))] [(.int (0 : Int32))]))
    refine Go.pop (pc' := 10) X16 hx hby d28_9 rfl rfl ?_
    exact Go.ret0 X16 hx hby hlk hret d28_10 (by decide) (by decide) ⟨rfl, rfl, e12⟩
set_option maxRecDepth 65536 in
set_option maxHeartbeats 40000000 in
theorem rmUB3 (l : Launch) (Z : State) (a0 : Array Value) (hw : ∀ d ∈ tables_1, d.before a0 Z = true) (x0 : Int32) (x1 : Int32) (b : Addr) (h0 : Heap) (n0 : Nat) (kk : Int32) (sf : Value) (f0 : Int → Value) (O0 : Old Z n0 h0) (SS : own_S Z kk sf) (h0' : x0 = 0) (h1 : x1 = 3) (A0 : Ar Z h0 b .byte 6 f0) :
    Con l Z (⟨"java/lang/StringUTF16", "checkBoundsBeginEnd", "(II[B)V"⟩ : MethodName) jdk_52_method_93_code 3 none [] ({ frames := 2, cells := 0, slots := 0, locals := 29 } : Room) #[(.int x0), (.int x1), (.ref b)] h0 (PQ none h0) := by
  refine Con.of (plainFor_of_name pn_StringUTF16) ?_
  intro p e s m below meth c s₁ hx hby hml hown hnm hret hlk hZ X0 e0
  refine Go.cast (ef_26 m x0 x1 b) ?_
  replace hown : s.vm.findClass "java/lang/StringUTF16" = some m.cls := hown
  subst h0' h1
  show Go p e below _ (s₁.setTop (mkF m 0 #[.val (.int (0 : Int32)), .val (.int (3 : Int32)), .val (.ref b)] []))
  refine Go.iloadN (pc' := 1) X0 hx hby d26_0 rfl rfl ?_
  refine Go.iloadN (pc' := 2) X0 hx hby d26_1 rfl rfl ?_
  refine Go.aloadN (pc' := 3) X0 hx hby d26_2 rfl rfl rfl ?_
  refine Go.callS (pc' := 6) (W := 2) (argsL := [(.ref b)]) (rest := [(.int (3 : Int32)), (.int (0 : Int32))]) X0 hx hby hZ hown (hw _ (List.mem_of_getElem? (i := 115) rfl)) (hw _ (List.mem_of_getElem? (i := 116) rfl)) (hw _ (List.mem_of_getElem? (i := 69) rfl)) (hw _ (List.mem_of_getElem? (i := 117) rfl)) (by decide) (rmUL3 l Z a0 hw b h0 f0 A0) e0 (by decide) (by decide) (by rw [hml]; rfl) pd_13 rfl rfl rfl (Nat.le_of_eq rfl) d26_3 rfl (by decide) (by decide) ?_
  rintro r2 T3 L4 X5 ⟨rfl, rfl, e1⟩
  rw [List.append_nil] at X5
  show Go p e below _ (T3.setTop (mkF m 6 #[.val (.int (0 : Int32)), .val (.int (3 : Int32)), .val (.ref b)] [(.int (3 : Int32)), (.int (3 : Int32)), (.int (0 : Int32))]))
  refine Go.callS (pc' := 9) (W := 0) (argsL := [(.int (0 : Int32)), (.int (3 : Int32)), (.int (3 : Int32))]) (rest := []) X5 hx hby hZ hown (hw _ (List.mem_of_getElem? (i := 118) rfl)) (hw _ (List.mem_of_getElem? (i := 119) rfl)) (hw _ (List.mem_of_getElem? (i := 4) rfl)) (hw _ (List.mem_of_getElem? (i := 120) rfl)) (by decide) (rmSB3 l Z a0 hw 0 3 3 h0 n0 kk sf O0 SS rfl rfl rfl) e1 (by decide) (by decide) (by rw [hml]; rfl) pd_9 rfl rfl rfl (Nat.le_of_eq rfl) d26_6 rfl (by decide) (by decide) ?_
  rintro r7 T8 L9 X10 ⟨rfl, rfl, e6⟩
  rw [List.append_nil] at X10
  show Go p e below _ (T8.setTop (mkF m 9 #[.val (.int (0 : Int32)), .val (.int (3 : Int32)), .val (.ref b)] []))
  exact Go.ret0 X10 hx hby hlk hret d26_9 (by decide) (by decide) ⟨rfl, rfl, e6⟩
set_option maxRecDepth 65536 in
set_option maxHeartbeats 40000000 in
theorem rmUU3 (l : Launch) (Z : State) (a0 : Array Value) (hw : ∀ d ∈ tables_1, d.before a0 Z = true) (b : Addr) (ch : Int32) (x2 : Int32) (x3 : Int32) (h0 : Heap) (n0 : Nat) (kk : Int32) (sf : Value) (u0 u1 u2 : Int32) (O0 : Old Z n0 h0) (SS : own_S Z kk sf) (B0 : 0 ≤ u0.toInt ∧ u0.toInt ≤ 65535) (B1 : 0 ≤ u1.toInt ∧ u1.toInt ≤ 65535) (B2 : 0 ≤ u2.toInt ∧ u2.toInt ≤ 65535) (h2 : x2 = 0) (h3 : x3 = 3) (A0 : Ar Z h0 b .byte 6 (fun q => .int (own_u u0 u1 u2 q))) :
    Con l Z (⟨"java/lang/StringUTF16", "indexOfCharUnsafe", "([BIII)I"⟩ : MethodName) jdk_52_method_48_code 5 (some .int) [] ({ frames := 1, cells := 0, slots := 0, locals := 13 } : Room) #[(.ref b), (.int ch), (.int x2), (.int x3)] h0 (PQ (some (.int (own_ix3 ch u0 u1 u2))) h0) := by
  refine Con.of (plainFor_of_name pn_StringUTF16) ?_
  intro p e s m below meth c s₁ hx hby hml hown hnm hret hlk hZ X0 e0
  refine Go.cast (ef_30 m b ch x2 x3) ?_
  replace hown : s.vm.findClass "java/lang/StringUTF16" = some m.cls := hown
  subst h2 h3
  show Go p e below _ (s₁.setTop (mkF m 0 #[.val (.ref b), .val (.int ch), .val (.int (0 : Int32)), .val (.int (3 : Int32)), .unset] []))
  refine Go.iloadN (pc' := 1) X0 hx hby d30_0 rfl rfl ?_
  refine Go.istore (Ls' := #[.val (.ref b), .val (.int ch), .val (.int (0 : Int32)), .val (.int (3 : Int32)), .val (.int (0 : Int32))]) (pc' := 3) X0 hx hby d30_1 rfl rfl ?_
  refine Go.iload (pc' := 5) X0 hx hby d30_3 rfl rfl ?_
  refine Go.iloadN (pc' := 6) X0 hx hby d30_5 rfl rfl ?_
  refine Go.icmpN (pc' := 9) X0 hx hby d30_6 rfl (show ¬ ((3 : Int32) ≤ (0 : Int32)) from by decide) ?_
  refine Go.aloadN (pc' := 10) X0 hx hby d30_9 rfl rfl rfl ?_
  refine Go.iload (pc' := 12) X0 hx hby d30_10 rfl rfl ?_
  refine Go.callS (pc' := 15) (W := 0) (argsL := [(.ref b), (.int (0 : Int32))]) (rest := []) X0 hx hby hZ hown (hw _ (List.mem_of_getElem? (i := 100) rfl)) (hw _ (List.mem_of_getElem? (i := 101) rfl)) (hw _ (List.mem_of_getElem? (i := 69) rfl)) (hw _ (List.mem_of_getElem? (i := 102) rfl)) (by decide) (rmGC3_0 l Z a0 hw b 0 h0 n0 kk sf (fun q => .int (own_u u0 u1 u2 q)) (own_lo u0) (own_hi u0) u0 O0 SS rfl A0 rfl rfl (own_gcc u0 B0)) e0 (by decide) (by decide) (by rw [hml]; rfl) pd_15 rfl rfl rfl (Nat.le_of_eq rfl) d30_12 rfl (by decide) (by decide) ?_
  rintro r2 T3 L4 X5 ⟨rfl, rfl, e1⟩
  rw [List.append_nil] at X5
  show Go p e below _ (T3.setTop (mkF m 15 #[.val (.ref b), .val (.int ch), .val (.int (0 : Int32)), .val (.int (3 : Int32)), .val (.int (0 : Int32))] [(.int u0)]))
  refine Go.iloadN (pc' := 16) X5 hx hby d30_15 rfl rfl ?_
  refine Go.icmp (pc' := 22) (pn := 19) X5 hx hby d30_16 (by decide) (by decide) rfl (fun (t0_ : u0 ≠ ch) => ?_) (fun (t0_ : ¬ (u0 ≠ ch)) => ?_)
  rotate_left
  ·
    rw [ne_eq, Decidable.not_not] at t0_
    refine Go.iload (pc' := 21) X5 hx hby d30_19 rfl rfl ?_
    exact Go.retI X5 hx hby hlk hret d30_21 (by decide) (by decide) ⟨by simp [own_ix3, t0_], rfl, e1⟩
  refine Go.iinc (w := (0 : Int32) + (1 : Int32)) (Ls' := #[.val (.ref b), .val (.int ch), .val (.int (0 : Int32)), .val (.int (3 : Int32)), .val (.int ((0 : Int32) + (1 : Int32)))]) (pc' := 25) X5 hx hby d30_22 rfl rfl rfl rfl ?_
  change Go p e below _ (T3.setTop (mkF m 25 #[.val (.ref b), .val (.int ch), .val (.int (0 : Int32)), .val (.int (3 : Int32)), .val (.int (1 : Int32))] []))
  refine Go.goto (pc' := 3) X5 hx hby d30_25 (by decide) (by decide) ?_
  refine Go.iload (pc' := 5) X5 hx hby d30_3 rfl rfl ?_
  refine Go.iloadN (pc' := 6) X5 hx hby d30_5 rfl rfl ?_
  refine Go.icmpN (pc' := 9) X5 hx hby d30_6 rfl (show ¬ ((3 : Int32) ≤ (1 : Int32)) from by decide) ?_
  refine Go.aloadN (pc' := 10) X5 hx hby d30_9 rfl rfl rfl ?_
  refine Go.iload (pc' := 12) X5 hx hby d30_10 rfl rfl ?_
  refine Go.callS (pc' := 15) (W := 0) (argsL := [(.ref b), (.int (1 : Int32))]) (rest := []) X5 hx hby hZ hown (hw _ (List.mem_of_getElem? (i := 100) rfl)) (hw _ (List.mem_of_getElem? (i := 101) rfl)) (hw _ (List.mem_of_getElem? (i := 69) rfl)) (hw _ (List.mem_of_getElem? (i := 102) rfl)) (by decide) (rmGC3_1 l Z a0 hw b 1 h0 n0 kk sf (fun q => .int (own_u u0 u1 u2 q)) (own_lo u1) (own_hi u1) u1 O0 SS rfl A0 rfl rfl (own_gcc u1 B1)) e1 (by decide) (by decide) (by rw [hml]; rfl) pd_15 rfl rfl rfl (Nat.le_of_eq rfl) d30_12 rfl (by decide) (by decide) ?_
  rintro r7 T8 L9 X10 ⟨rfl, rfl, e6⟩
  rw [List.append_nil] at X10
  show Go p e below _ (T8.setTop (mkF m 15 #[.val (.ref b), .val (.int ch), .val (.int (0 : Int32)), .val (.int (3 : Int32)), .val (.int (1 : Int32))] [(.int u1)]))
  refine Go.iloadN (pc' := 16) X10 hx hby d30_15 rfl rfl ?_
  refine Go.icmp (pc' := 22) (pn := 19) X10 hx hby d30_16 (by decide) (by decide) rfl (fun (t1_ : u1 ≠ ch) => ?_) (fun (t1_ : ¬ (u1 ≠ ch)) => ?_)
  rotate_left
  ·
    rw [ne_eq, Decidable.not_not] at t1_
    refine Go.iload (pc' := 21) X10 hx hby d30_19 rfl rfl ?_
    exact Go.retI X10 hx hby hlk hret d30_21 (by decide) (by decide) ⟨by simp [own_ix3, t0_, t1_], rfl, e6⟩
  refine Go.iinc (w := (1 : Int32) + (1 : Int32)) (Ls' := #[.val (.ref b), .val (.int ch), .val (.int (0 : Int32)), .val (.int (3 : Int32)), .val (.int ((1 : Int32) + (1 : Int32)))]) (pc' := 25) X10 hx hby d30_22 rfl rfl rfl rfl ?_
  change Go p e below _ (T8.setTop (mkF m 25 #[.val (.ref b), .val (.int ch), .val (.int (0 : Int32)), .val (.int (3 : Int32)), .val (.int (2 : Int32))] []))
  refine Go.goto (pc' := 3) X10 hx hby d30_25 (by decide) (by decide) ?_
  refine Go.iload (pc' := 5) X10 hx hby d30_3 rfl rfl ?_
  refine Go.iloadN (pc' := 6) X10 hx hby d30_5 rfl rfl ?_
  refine Go.icmpN (pc' := 9) X10 hx hby d30_6 rfl (show ¬ ((3 : Int32) ≤ (2 : Int32)) from by decide) ?_
  refine Go.aloadN (pc' := 10) X10 hx hby d30_9 rfl rfl rfl ?_
  refine Go.iload (pc' := 12) X10 hx hby d30_10 rfl rfl ?_
  refine Go.callS (pc' := 15) (W := 0) (argsL := [(.ref b), (.int (2 : Int32))]) (rest := []) X10 hx hby hZ hown (hw _ (List.mem_of_getElem? (i := 100) rfl)) (hw _ (List.mem_of_getElem? (i := 101) rfl)) (hw _ (List.mem_of_getElem? (i := 69) rfl)) (hw _ (List.mem_of_getElem? (i := 102) rfl)) (by decide) (rmGC3_2 l Z a0 hw b 2 h0 n0 kk sf (fun q => .int (own_u u0 u1 u2 q)) (own_lo u2) (own_hi u2) u2 O0 SS rfl A0 rfl rfl (own_gcc u2 B2)) e6 (by decide) (by decide) (by rw [hml]; rfl) pd_15 rfl rfl rfl (Nat.le_of_eq rfl) d30_12 rfl (by decide) (by decide) ?_
  rintro r12 T13 L14 X15 ⟨rfl, rfl, e11⟩
  rw [List.append_nil] at X15
  show Go p e below _ (T13.setTop (mkF m 15 #[.val (.ref b), .val (.int ch), .val (.int (0 : Int32)), .val (.int (3 : Int32)), .val (.int (2 : Int32))] [(.int u2)]))
  refine Go.iloadN (pc' := 16) X15 hx hby d30_15 rfl rfl ?_
  refine Go.icmp (pc' := 22) (pn := 19) X15 hx hby d30_16 (by decide) (by decide) rfl (fun (t2_ : u2 ≠ ch) => ?_) (fun (t2_ : ¬ (u2 ≠ ch)) => ?_)
  rotate_left
  ·
    rw [ne_eq, Decidable.not_not] at t2_
    refine Go.iload (pc' := 21) X15 hx hby d30_19 rfl rfl ?_
    exact Go.retI X15 hx hby hlk hret d30_21 (by decide) (by decide) ⟨by simp [own_ix3, t0_, t1_, t2_], rfl, e11⟩
  refine Go.iinc (w := (2 : Int32) + (1 : Int32)) (Ls' := #[.val (.ref b), .val (.int ch), .val (.int (0 : Int32)), .val (.int (3 : Int32)), .val (.int ((2 : Int32) + (1 : Int32)))]) (pc' := 25) X15 hx hby d30_22 rfl rfl rfl rfl ?_
  change Go p e below _ (T13.setTop (mkF m 25 #[.val (.ref b), .val (.int ch), .val (.int (0 : Int32)), .val (.int (3 : Int32)), .val (.int (3 : Int32))] []))
  refine Go.goto (pc' := 3) X15 hx hby d30_25 (by decide) (by decide) ?_
  refine Go.iload (pc' := 5) X15 hx hby d30_3 rfl rfl ?_
  refine Go.iloadN (pc' := 6) X15 hx hby d30_5 rfl rfl ?_
  refine Go.icmpY (pc' := 28) X15 hx hby d30_6 (by decide) (by decide) (show (3 : Int32) ≤ (3 : Int32) from by decide) ?_
  refine Go.iconst (pc' := 29) X15 hx hby d30_28 rfl (v := (-1 : Int32)) (by decide) ?_
  exact Go.retI X15 hx hby hlk hret d30_29 (by decide) (by decide) ⟨by simp [own_ix3, t0_, t1_, t2_], rfl, e11⟩
set_option maxRecDepth 65536 in
set_option maxHeartbeats 40000000 in
theorem rmUC3 (l : Launch) (Z : State) (a0 : Array Value) (hw : ∀ d ∈ tables_1, d.before a0 Z = true) (b : Addr) (ch : Int32) (x2 : Int32) (x3 : Int32) (h0 : Heap) (n0 : Nat) (kk : Int32) (sf : Value) (u0 u1 u2 : Int32) (O0 : Old Z n0 h0) (SS : own_S Z kk sf) (B0 : 0 ≤ u0.toInt ∧ u0.toInt ≤ 65535) (B1 : 0 ≤ u1.toInt ∧ u1.toInt ≤ 65535) (B2 : 0 ≤ u2.toInt ∧ u2.toInt ≤ 65535) (h2 : x2 = 0) (h3 : x3 = 3) (A0 : Ar Z h0 b .byte 6 (fun q => .int (own_u u0 u1 u2 q))) :
    Con l Z (⟨"java/lang/StringUTF16", "indexOfChar", "([BIII)I"⟩ : MethodName) jdk_52_method_47_code 4 (some .int) [] ({ frames := 3, cells := 0, slots := 0, locals := 43 } : Room) #[(.ref b), (.int ch), (.int x2), (.int x3)] h0 (PQ (some (.int (own_ix3 ch u0 u1 u2))) h0) := by
  refine Con.of (plainFor_of_name pn_StringUTF16) ?_
  intro p e s m below meth c s₁ hx hby hml hown hnm hret hlk hZ X0 e0
  refine Go.cast (ef_25 m b ch x2 x3) ?_
  replace hown : s.vm.findClass "java/lang/StringUTF16" = some m.cls := hown
  subst h2 h3
  show Go p e below _ (s₁.setTop (mkF m 0 #[.val (.ref b), .val (.int ch), .val (.int (0 : Int32)), .val (.int (3 : Int32))] []))
  refine Go.iloadN (pc' := 1) X0 hx hby d25_0 rfl rfl ?_
  refine Go.iloadN (pc' := 2) X0 hx hby d25_1 rfl rfl ?_
  refine Go.aloadN (pc' := 3) X0 hx hby d25_2 rfl rfl rfl ?_
  refine Go.callS (pc' := 6) (W := 0) (argsL := [(.int (0 : Int32)), (.int (3 : Int32)), (.ref b)]) (rest := []) X0 hx hby hZ hown (hw _ (List.mem_of_getElem? (i := 112) rfl)) (hw _ (List.mem_of_getElem? (i := 113) rfl)) (hw _ (List.mem_of_getElem? (i := 69) rfl)) (hw _ (List.mem_of_getElem? (i := 114) rfl)) (by decide) (rmUB3 l Z a0 hw 0 3 b h0 n0 kk sf _ O0 SS rfl rfl A0) e0 (by decide) (by decide) (by rw [hml]; rfl) pd_11 rfl rfl rfl (Nat.le_of_eq rfl) d25_3 rfl (by decide) (by decide) ?_
  rintro r2 T3 L4 X5 ⟨rfl, rfl, e1⟩
  rw [List.append_nil] at X5
  show Go p e below _ (T3.setTop (mkF m 6 #[.val (.ref b), .val (.int ch), .val (.int (0 : Int32)), .val (.int (3 : Int32))] []))
  refine Go.aloadN (pc' := 7) X5 hx hby d25_6 rfl rfl rfl ?_
  refine Go.iloadN (pc' := 8) X5 hx hby d25_7 rfl rfl ?_
  refine Go.iloadN (pc' := 9) X5 hx hby d25_8 rfl rfl ?_
  refine Go.iloadN (pc' := 10) X5 hx hby d25_9 rfl rfl ?_
  refine Go.callS (pc' := 13) (W := 0) (argsL := [(.ref b), (.int ch), (.int (0 : Int32)), (.int (3 : Int32))]) (rest := []) X5 hx hby hZ hown (hw _ (List.mem_of_getElem? (i := 126) rfl)) (hw _ (List.mem_of_getElem? (i := 127) rfl)) (hw _ (List.mem_of_getElem? (i := 69) rfl)) (hw _ (List.mem_of_getElem? (i := 128) rfl)) (by decide) (rmUU3 l Z a0 hw b ch 0 3 h0 n0 kk sf u0 u1 u2 O0 SS B0 B1 B2 rfl rfl A0) e1 (by decide) (by decide) (by rw [hml]; rfl) pd_17 rfl rfl rfl (Nat.le_of_eq rfl) d25_10 rfl (by decide) (by decide) ?_
  rintro r7 T8 L9 X10 ⟨rfl, rfl, e6⟩
  rw [List.append_nil] at X10
  show Go p e below _ (T8.setTop (mkF m 13 #[.val (.ref b), .val (.int ch), .val (.int (0 : Int32)), .val (.int (3 : Int32))] [(.int (own_ix3 ch u0 u1 u2))]))
  exact Go.retI X10 hx hby hlk hret d25_13 (by decide) (by decide) ⟨rfl, rfl, e6⟩
set_option maxRecDepth 65536 in
set_option maxHeartbeats 40000000 in
theorem rmUI3 (l : Launch) (Z : State) (a0 : Array Value) (hw : ∀ d ∈ tables_1, d.before a0 Z = true) (b : Addr) (ch : Int32) (x2 : Int32) (x3 : Int32) (h0 : Heap) (n0 : Nat) (kk : Int32) (sf : Value) (u0 u1 u2 : Int32) (hch : ch = 9 ∨ ch = 10) (O0 : Old Z n0 h0) (SS : own_S Z kk sf) (B0 : 0 ≤ u0.toInt ∧ u0.toInt ≤ 65535) (B1 : 0 ≤ u1.toInt ∧ u1.toInt ≤ 65535) (B2 : 0 ≤ u2.toInt ∧ u2.toInt ≤ 65535) (h2 : x2 = 0) (h3 : x3 = 3) (A0 : Ar Z h0 b .byte 6 (fun q => .int (own_u u0 u1 u2 q))) :
    Con l Z (⟨"java/lang/StringUTF16", "indexOf", "([BIII)I"⟩ : MethodName) jdk_52_method_40_code 4 (some .int) [] ({ frames := 4, cells := 0, slots := 0, locals := 58 } : Room) #[(.ref b), (.int ch), (.int x2), (.int x3)] h0 (PQ (some (.int (own_ix3 ch u0 u1 u2))) h0) := by
  refine Con.of (plainFor_of_name pn_StringUTF16) ?_
  intro p e s m below meth c s₁ hx hby hml hown hnm hret hlk hZ X0 e0
  refine Go.cast (ef_24 m b ch x2 x3) ?_
  replace hown : s.vm.findClass "java/lang/StringUTF16" = some m.cls := hown
  subst h2 h3
  show Go p e below _ (s₁.setTop (mkF m 0 #[.val (.ref b), .val (.int ch), .val (.int (0 : Int32)), .val (.int (3 : Int32))] []))
  refine Go.iloadN (pc' := 1) X0 hx hby d24_0 rfl rfl ?_
  refine Go.iconst (pc' := 2) X0 hx hby d24_1 rfl (v := (0 : Int32)) (by decide) ?_
  refine Go.callS (pc' := 5) (W := 0) (argsL := [(.int (0 : Int32)), (.int (0 : Int32))]) (rest := []) X0 hx hby hZ hown (hw _ (List.mem_of_getElem? (i := 106) rfl)) (hw _ (List.mem_of_getElem? (i := 61) rfl)) (hw _ (List.mem_of_getElem? (i := 62) rfl)) (hw _ (List.mem_of_getElem? (i := 63) rfl)) (by decide) (rmMax l Z a0 hw 0 0 h0 rfl) e0 (by decide) (by decide) (by rw [hml]; rfl) pd_8 rfl rfl rfl (Nat.le_of_eq rfl) d24_2 rfl (by decide) (by decide) ?_
  rintro r2 T3 L4 X5 ⟨rfl, rfl, e1⟩
  rw [List.append_nil] at X5
  show Go p e below _ (T3.setTop (mkF m 5 #[.val (.ref b), .val (.int ch), .val (.int (0 : Int32)), .val (.int (3 : Int32))] [(.int (0 : Int32))]))
  refine Go.istoreN (Ls' := #[.val (.ref b), .val (.int ch), .val (.int (0 : Int32)), .val (.int (3 : Int32))]) (pc' := 6) X5 hx hby d24_5 rfl rfl ?_
  refine Go.iloadN (pc' := 7) X5 hx hby d24_6 rfl rfl ?_
  refine Go.aloadN (pc' := 8) X5 hx hby d24_7 rfl rfl rfl ?_
  refine Go.alen (pc' := 9) (zv := (6 : Int32)) X5 hx hby hZ e1 A0 d24_8 rfl (by decide) ?_
  refine Go.iconst (pc' := 10) X5 hx hby d24_9 rfl (v := (1 : Int32)) (by decide) ?_
  refine Go.ishr (pc' := 11) X5 hx hby d24_10 rfl ?_
  change Go p e below _ (T3.setTop (mkF m 11 #[.val (.ref b), .val (.int ch), .val (.int (0 : Int32)), .val (.int (3 : Int32))] [(.int (3 : Int32)), (.int (3 : Int32))]))
  refine Go.callS (pc' := 14) (W := 0) (argsL := [(.int (3 : Int32)), (.int (3 : Int32))]) (rest := []) X5 hx hby hZ hown (hw _ (List.mem_of_getElem? (i := 107) rfl)) (hw _ (List.mem_of_getElem? (i := 65) rfl)) (hw _ (List.mem_of_getElem? (i := 62) rfl)) (hw _ (List.mem_of_getElem? (i := 66) rfl)) (by decide) (rmMin l Z a0 hw 3 3 h0 rfl) e1 (by decide) (by decide) (by rw [hml]; rfl) pd_8 rfl rfl rfl (Nat.le_of_eq rfl) d24_11 rfl (by decide) (by decide) ?_
  rintro r7 T8 L9 X10 ⟨rfl, rfl, e6⟩
  rw [List.append_nil] at X10
  show Go p e below _ (T8.setTop (mkF m 14 #[.val (.ref b), .val (.int ch), .val (.int (0 : Int32)), .val (.int (3 : Int32))] [(.int (3 : Int32))]))
  refine Go.istoreN (Ls' := #[.val (.ref b), .val (.int ch), .val (.int (0 : Int32)), .val (.int (3 : Int32))]) (pc' := 15) X10 hx hby d24_14 rfl rfl ?_
  refine Go.iloadN (pc' := 16) X10 hx hby d24_15 rfl rfl ?_
  refine Go.iloadN (pc' := 17) X10 hx hby d24_16 rfl rfl ?_
  refine Go.icmpY (pc' := 22) X10 hx hby d24_17 (by decide) (by decide) (show (0 : Int32) < (3 : Int32) from by decide) ?_
  refine Go.iloadN (pc' := 23) X10 hx hby d24_22 rfl rfl ?_
  refine Go.ldcI (pc' := 25) X10 hx hby d24_23 rfl hown (mvT hZ (hw _ (List.mem_of_getElem? (i := 108) rfl))) ?_
  refine Go.icmpN (pc' := 28) X10 hx hby d24_25 rfl (show ¬ ((65536 : Int32) ≤ ch) from by rcases hch with rfl | rfl <;> decide) ?_
  refine Go.aloadN (pc' := 29) X10 hx hby d24_28 rfl rfl rfl ?_
  refine Go.iloadN (pc' := 30) X10 hx hby d24_29 rfl rfl ?_
  refine Go.iloadN (pc' := 31) X10 hx hby d24_30 rfl rfl ?_
  refine Go.iloadN (pc' := 32) X10 hx hby d24_31 rfl rfl ?_
  refine Go.callS (pc' := 35) (W := 0) (argsL := [(.ref b), (.int ch), (.int (0 : Int32)), (.int (3 : Int32))]) (rest := []) X10 hx hby hZ hown (hw _ (List.mem_of_getElem? (i := 109) rfl)) (hw _ (List.mem_of_getElem? (i := 110) rfl)) (hw _ (List.mem_of_getElem? (i := 69) rfl)) (hw _ (List.mem_of_getElem? (i := 111) rfl)) (by decide) (rmUC3 l Z a0 hw b ch 0 3 h0 n0 kk sf u0 u1 u2 O0 SS B0 B1 B2 rfl rfl A0) e6 (by decide) (by decide) (by rw [hml]; rfl) pd_17 rfl rfl rfl (Nat.le_of_eq rfl) d24_32 rfl (by decide) (by decide) ?_
  rintro r12 T13 L14 X15 ⟨rfl, rfl, e11⟩
  rw [List.append_nil] at X15
  show Go p e below _ (T13.setTop (mkF m 35 #[.val (.ref b), .val (.int ch), .val (.int (0 : Int32)), .val (.int (3 : Int32))] [(.int (own_ix3 ch u0 u1 u2))]))
  exact Go.retI X15 hx hby hlk hret d24_35 (by decide) (by decide) ⟨rfl, rfl, e11⟩
theorem d6_0 : decode jdk_42_method_80_code 0 = .ok (.aload_n 0, 1) := by decide +kernel
theorem d6_1 : decode jdk_42_method_80_code 1 = .ok (.invokevirtual 492, 3) := by decide +kernel
theorem d6_4 : decode jdk_42_method_80_code 4 = .ok (.ifCond .eq 19, 3) := by decide +kernel
theorem d6_7 : decode jdk_42_method_80_code 7 = .ok (.aload_n 0, 1) := by decide +kernel
theorem d6_8 : decode jdk_42_method_80_code 8 = .ok (.getfield 9, 3) := by decide +kernel
theorem d6_11 : decode jdk_42_method_80_code 11 = .ok (.iload_n 1, 1) := by decide +kernel
theorem d6_12 : decode jdk_42_method_80_code 12 = .ok (.iload_n 2, 1) := by decide +kernel
theorem d6_13 : decode jdk_42_method_80_code 13 = .ok (.aload_n 0, 1) := by decide +kernel
theorem d6_14 : decode jdk_42_method_80_code 14 = .ok (.invokevirtual 505, 3) := by decide +kernel
theorem d6_17 : decode jdk_42_method_80_code 17 = .ok (.invokestatic 637, 3) := by decide +kernel
theorem d6_20 : decode jdk_42_method_80_code 20 = .ok (.goto 16, 3) := by decide +kernel
theorem d6_23 : decode jdk_42_method_80_code 23 = .ok (.aload_n 0, 1) := by decide +kernel
theorem d6_24 : decode jdk_42_method_80_code 24 = .ok (.getfield 9, 3) := by decide +kernel
theorem d6_27 : decode jdk_42_method_80_code 27 = .ok (.iload_n 1, 1) := by decide +kernel
theorem d6_28 : decode jdk_42_method_80_code 28 = .ok (.iload_n 2, 1) := by decide +kernel
theorem d6_29 : decode jdk_42_method_80_code 29 = .ok (.aload_n 0, 1) := by decide +kernel
theorem d6_30 : decode jdk_42_method_80_code 30 = .ok (.invokevirtual 505, 3) := by decide +kernel
theorem d6_33 : decode jdk_42_method_80_code 33 = .ok (.invokestatic 640, 3) := by decide +kernel
theorem d6_36 : decode jdk_42_method_80_code 36 = .ok (.ireturn, 1) := by decide +kernel
theorem d5_0 : decode jdk_42_method_79_code 0 = .ok (.aload_n 0, 1) := by decide +kernel
theorem d5_1 : decode jdk_42_method_79_code 1 = .ok (.iload_n 1, 1) := by decide +kernel
theorem d5_2 : decode jdk_42_method_79_code 2 = .ok (.iconst 0, 1) := by decide +kernel
theorem d5_3 : decode jdk_42_method_79_code 3 = .ok (.invokevirtual 633, 3) := by decide +kernel
theorem d5_6 : decode jdk_42_method_79_code 6 = .ok (.ireturn, 1) := by decide +kernel
theorem d4_0 : decode prog_42_method_5_code 0 = .ok (.aload_n 0, 1) := by decide +kernel
theorem d4_1 : decode prog_42_method_5_code 1 = .ok (.bipush 9, 2) := by decide +kernel
theorem d4_3 : decode prog_42_method_5_code 3 = .ok (.invokevirtual 100, 3) := by decide +kernel
theorem d4_6 : decode prog_42_method_5_code 6 = .ok (.ifCond .ge 16, 3) := by decide +kernel
theorem d4_9 : decode prog_42_method_5_code 9 = .ok (.aload_n 0, 1) := by decide +kernel
theorem d4_10 : decode prog_42_method_5_code 10 = .ok (.bipush 10, 2) := by decide +kernel
theorem d4_12 : decode prog_42_method_5_code 12 = .ok (.invokevirtual 100, 3) := by decide +kernel
theorem d4_15 : decode prog_42_method_5_code 15 = .ok (.ifCond .ge 7, 3) := by decide +kernel
theorem d4_18 : decode prog_42_method_5_code 18 = .ok (.iconst 1, 1) := by decide +kernel
theorem d4_19 : decode prog_42_method_5_code 19 = .ok (.goto 4, 3) := by decide +kernel
theorem d4_22 : decode prog_42_method_5_code 22 = .ok (.iconst 0, 1) := by decide +kernel
theorem d4_23 : decode prog_42_method_5_code 23 = .ok (.ireturn, 1) := by decide +kernel
theorem ef_6 (m : MethodId) (x0 : Addr) (x1 : Int32) (x2 : Int32) : entryFrame m #[(.ref x0), (.int x1), (.int x2)] 3 = mkF m 0 #[.val (.ref x0), .val (.int x1), .val (.int x2)] [] := by first | (simp [entryFrame, mkF, argsToLocals, Value.category]; done) | rfl
set_option maxRecDepth 65536 in
set_option maxHeartbeats 40000000 in
theorem rmJ2_0 (l : Launch) (Z : State) (a0 : Array Value) (hw : ∀ d ∈ tables_1, d.before a0 Z = true) (a : Addr) (ch : Int32) (x2 : Int32) (h0 : Heap) (n0 : Nat) (kk : Int32) (sf : Value) (u0 u1 u2 : Int32) (O0 : Old Z n0 h0) (SS : own_S Z kk sf) (B0 : 0 ≤ u0.toInt ∧ u0.toInt ≤ 65535) (B1 : 0 ≤ u1.toInt ∧ u1.toInt ≤ 65535) (B2 : 0 ≤ u2.toInt ∧ u2.toInt ≤ 65535) (hch : ch = 9 ∨ ch = 10) (S0 : own_str0 Z h0 a u0 u1 u2) (h2 : x2 = 0) :
    Con l Z (⟨"java/lang/String", "indexOf", "(II)I"⟩ : MethodName) jdk_42_method_80_code 3 (some .int) [] ({ frames := 5, cells := 0, slots := 0, locals := 73 } : Room) #[(.ref a), (.int ch), (.int x2)] h0 (PQ (some (.int (own_ix0 ch))) h0) := by
  refine Con.of (plainFor_of_name pn_String) ?_
  intro p e s m below meth c s₁ hx hby hml hown hnm hret hlk hZ X0 e0
  refine Go.cast (ef_6 m a ch x2) ?_
  replace hown : s.vm.findClass "java/lang/String" = some m.cls := hown
  subst h2
  show Go p e below _ (s₁.setTop (mkF m 0 #[.val (.ref a), .val (.int ch), .val (.int (0 : Int32))] []))
  obtain ⟨b, E0, F1, F2, A0⟩ := S0
  ·
    refine Go.aloadN (pc' := 1) X0 hx hby d6_0 rfl rfl rfl ?_
    refine Go.callV (C := "java/lang/String") (pc' := 4) (a := a) (W := 0) (argsL := []) (rest := []) X0 hx hby hZ hown (hw _ (List.mem_of_getElem? (i := 37) rfl)) (hw _ (List.mem_of_getElem? (i := 38) rfl)) (notFace_of_selects (args := #[]) (mvT hZ (hw _ (List.mem_of_getElem? (i := 40) rfl)))) (hw _ (List.mem_of_getElem? (i := 40) rfl)) (hw _ (List.mem_of_getElem? (i := 39) rfl)) (hw _ (List.mem_of_getElem? (i := 4) rfl)) (hw _ (List.mem_of_getElem? (i := 41) rfl)) (by decide) (rmIL0 l Z a0 hw a h0 n0 kk sf O0 SS F2) e0 E0 (by decide) (by decide) (by rw [hml]; rfl) pd_3 rfl rfl rfl (Nat.le_of_eq rfl) d6_1 rfl (by decide) (by decide) ?_
    rintro r2 T3 L4 X5 ⟨rfl, rfl, e1⟩
    rw [List.append_nil] at X5
    show Go p e below _ (T3.setTop (mkF m 4 #[.val (.ref a), .val (.int ch), .val (.int (0 : Int32))] [(.int (1 : Int32))]))
    refine Go.ifN (pc' := 7) X5 hx hby d6_4 rfl (show ¬ ((1 : Int32) = 0) from by decide) ?_
    refine Go.aloadN (pc' := 8) X5 hx hby d6_7 rfl rfl rfl ?_
    refine Go.getF (pc' := 11) X5 hx hby hZ hown (hw _ (List.mem_of_getElem? (i := 21) rfl)) Via.refl e1 F1 d6_8 rfl ?_
    intro T6 X7 e8
    refine Go.iloadN (pc' := 12) X7 hx hby d6_11 rfl rfl ?_
    refine Go.iloadN (pc' := 13) X7 hx hby d6_12 rfl rfl ?_
    refine Go.aloadN (pc' := 14) X7 hx hby d6_13 rfl rfl rfl ?_
    refine Go.callV (C := "java/lang/String") (pc' := 17) (a := a) (W := 3) (argsL := []) (rest := [(.int (0 : Int32)), (.int ch), (.ref b)]) X7 hx hby hZ hown (hw _ (List.mem_of_getElem? (i := 43) rfl)) (hw _ (List.mem_of_getElem? (i := 44) rfl)) (notFace_of_selects (args := #[]) (mvT hZ (hw _ (List.mem_of_getElem? (i := 46) rfl)))) (hw _ (List.mem_of_getElem? (i := 46) rfl)) (hw _ (List.mem_of_getElem? (i := 45) rfl)) (hw _ (List.mem_of_getElem? (i := 4) rfl)) (hw _ (List.mem_of_getElem? (i := 47) rfl)) (by decide) (rmLE0_0 l Z a0 hw a h0 n0 kk sf b _ O0 SS E0 F1 F2 A0) e8 E0 (by decide) (by decide) (by rw [hml]; rfl) pd_1 rfl rfl rfl (Nat.le_of_eq rfl) d6_14 rfl (by decide) (by decide) ?_
    rintro r10 T11 L12 X13 ⟨rfl, rfl, e9⟩
    rw [List.append_nil] at X13
    show Go p e below _ (T11.setTop (mkF m 17 #[.val (.ref a), .val (.int ch), .val (.int (0 : Int32))] [(.int (0 : Int32)), (.int (0 : Int32)), (.int ch), (.ref b)]))
    refine Go.callS (pc' := 20) (W := 0) (argsL := [(.ref b), (.int ch), (.int (0 : Int32)), (.int (0 : Int32))]) (rest := []) X13 hx hby hZ hown (hw _ (List.mem_of_getElem? (i := 53) rfl)) (hw _ (List.mem_of_getElem? (i := 54) rfl)) (hw _ (List.mem_of_getElem? (i := 55) rfl)) (hw _ (List.mem_of_getElem? (i := 56) rfl)) (by decide) (rmLI0 l Z a0 hw b ch 0 0 h0 _ hch rfl rfl  A0) e9 (by decide) (by decide) (by rw [hml]; rfl) pd_17 rfl rfl rfl (Nat.le_of_eq rfl) d6_17 rfl (by decide) (by decide) ?_
    rintro r15 T16 L17 X18 ⟨rfl, rfl, e14⟩
    rw [List.append_nil] at X18
    show Go p e below _ (T16.setTop (mkF m 20 #[.val (.ref a), .val (.int ch), .val (.int (0 : Int32))] [(.int (own_ix0 ch))]))
    refine Go.goto (pc' := 36) X18 hx hby d6_20 (by decide) (by decide) ?_
    exact Go.retI X18 hx hby hlk hret d6_36 (by decide) (by decide) ⟨rfl, rfl, e14⟩
theorem ef_5 (m : MethodId) (x0 : Addr) (x1 : Int32) : entryFrame m #[(.ref x0), (.int x1)] 2 = mkF m 0 #[.val (.ref x0), .val (.int x1)] [] := by first | (simp [entryFrame, mkF, argsToLocals, Value.category]; done) | rfl
set_option maxRecDepth 65536 in
set_option maxHeartbeats 40000000 in
theorem rmJ1_0 (l : Launch) (Z : State) (a0 : Array Value) (hw : ∀ d ∈ tables_1, d.before a0 Z = true) (a : Addr) (ch : Int32) (h0 : Heap) (n0 : Nat) (kk : Int32) (sf : Value) (u0 u1 u2 : Int32) (O0 : Old Z n0 h0) (SS : own_S Z kk sf) (B0 : 0 ≤ u0.toInt ∧ u0.toInt ≤ 65535) (B1 : 0 ≤ u1.toInt ∧ u1.toInt ≤ 65535) (B2 : 0 ≤ u2.toInt ∧ u2.toInt ≤ 65535) (hch : ch = 9 ∨ ch = 10) (S0 : own_str0 Z h0 a u0 u1 u2) :
    Con l Z (⟨"java/lang/String", "indexOf", "(I)I"⟩ : MethodName) jdk_42_method_79_code 2 (some .int) [] ({ frames := 6, cells := 0, slots := 0, locals := 87 } : Room) #[(.ref a), (.int ch)] h0 (PQ (some (.int (own_ix0 ch))) h0) := by
  refine Con.of (plainFor_of_name pn_String) ?_
  intro p e s m below meth c s₁ hx hby hml hown hnm hret hlk hZ X0 e0
  refine Go.cast (ef_5 m a ch) ?_
  replace hown : s.vm.findClass "java/lang/String" = some m.cls := hown
  obtain ⟨bx, E0, -⟩ := id S0
  refine Go.aloadN (pc' := 1) X0 hx hby d5_0 rfl rfl rfl ?_
  refine Go.iloadN (pc' := 2) X0 hx hby d5_1 rfl rfl ?_
  refine Go.iconst (pc' := 3) X0 hx hby d5_2 rfl (v := (0 : Int32)) (by decide) ?_
  refine Go.callV (C := "java/lang/String") (pc' := 6) (a := a) (W := 0) (argsL := [(.int ch), (.int (0 : Int32))]) (rest := []) X0 hx hby hZ hown (hw _ (List.mem_of_getElem? (i := 32) rfl)) (hw _ (List.mem_of_getElem? (i := 33) rfl)) (notFace_of_selects (args := #[]) (mvT hZ (hw _ (List.mem_of_getElem? (i := 35) rfl)))) (hw _ (List.mem_of_getElem? (i := 35) rfl)) (hw _ (List.mem_of_getElem? (i := 34) rfl)) (hw _ (List.mem_of_getElem? (i := 4) rfl)) (hw _ (List.mem_of_getElem? (i := 36) rfl)) (by decide) (rmJ2_0 l Z a0 hw a ch 0 h0 n0 kk sf u0 u1 u2 O0 SS B0 B1 B2 hch S0 rfl) e0 E0 (by decide) (by decide) (by rw [hml]; rfl) pd_8 rfl rfl rfl (Nat.le_of_eq rfl) d5_3 rfl (by decide) (by decide) ?_
  rintro r2 T3 L4 X5 ⟨rfl, rfl, e1⟩
  rw [List.append_nil] at X5
  show Go p e below _ (T3.setTop (mkF m 6 #[.val (.ref a), .val (.int ch)] [(.int (own_ix0 ch))]))
  exact Go.retI X5 hx hby hlk hret d5_6 (by decide) (by decide) ⟨rfl, rfl, e1⟩
def own_can0 (u0 u1 u2 : Int32) : Int32 := if 0 ≤ own_ix0 9 then 0 else if 0 ≤ own_ix0 10 then 0 else 1
theorem ef_4 (m : MethodId) (x0 : Addr) : entryFrame m #[(.ref x0)] 1 = mkF m 0 #[.val (.ref x0)] [] := by first | (simp [entryFrame, mkF, argsToLocals, Value.category]; done) | rfl
theorem pn_FactsFile : plainName "com/example/tame_recursion/tamerecursion/io/FactsFile" = true := by first | (simp [plainName, overriddenIn]; done) | decide +kernel
set_option maxRecDepth 65536 in
set_option maxHeartbeats 40000000 in
theorem rmCH0 (l : Launch) (Z : State) (a0 : Array Value) (hw : ∀ d ∈ tables_1, d.before a0 Z = true) (a : Addr) (h0 : Heap) (n0 : Nat) (kk : Int32) (sf : Value) (u0 u1 u2 : Int32) (O0 : Old Z n0 h0) (SS : own_S Z kk sf) (B0 : 0 ≤ u0.toInt ∧ u0.toInt ≤ 65535) (B1 : 0 ≤ u1.toInt ∧ u1.toInt ≤ 65535) (B2 : 0 ≤ u2.toInt ∧ u2.toInt ≤ 65535) (S0 : own_str0 Z h0 a u0 u1 u2) :
    Con l Z (⟨"com/example/tame_recursion/tamerecursion/io/FactsFile", "canHold", "(Ljava/lang/String;)Z"⟩ : MethodName) prog_42_method_5_code 1 (some .boolean) [] ({ frames := 7, cells := 0, slots := 0, locals := 100 } : Room) #[(.ref a)] h0 (PQ (some (.int (own_can0 u0 u1 u2))) h0) := by
  refine Con.of (plainFor_of_name pn_FactsFile) ?_
  intro p e s m below meth c s₁ hx hby hml hown hnm hret hlk hZ X0 e0
  refine Go.cast (ef_4 m a) ?_
  replace hown : s.vm.findClass "com/example/tame_recursion/tamerecursion/io/FactsFile" = some m.cls := hown
  obtain ⟨bx, E0, -⟩ := id S0
  refine Go.aloadN (pc' := 1) X0 hx hby d4_0 rfl rfl rfl ?_
  refine Go.bipush (pc' := 3) X0 hx hby d4_1 rfl (v := (9 : Int32)) (by decide) ?_
  refine Go.callV (C := "java/lang/String") (pc' := 6) (a := a) (W := 0) (argsL := [(.int (9 : Int32))]) (rest := []) X0 hx hby hZ hown (hw _ (List.mem_of_getElem? (i := 27) rfl)) (hw _ (List.mem_of_getElem? (i := 28) rfl)) (notFace_of_selects (args := #[]) (mvT hZ (hw _ (List.mem_of_getElem? (i := 30) rfl)))) (hw _ (List.mem_of_getElem? (i := 30) rfl)) (hw _ (List.mem_of_getElem? (i := 29) rfl)) (hw _ (List.mem_of_getElem? (i := 4) rfl)) (hw _ (List.mem_of_getElem? (i := 31) rfl)) (by decide) (rmJ1_0 l Z a0 hw a 9 h0 n0 kk sf u0 u1 u2 O0 SS B0 B1 B2 (by decide) S0) e0 E0 (by decide) (by decide) (by rw [hml]; rfl) pd_5 rfl rfl rfl (Nat.le_of_eq rfl) d4_3 rfl (by decide) (by decide) ?_
  rintro r2 T3 L4 X5 ⟨rfl, rfl, e1⟩
  rw [List.append_nil] at X5
  show Go p e below _ (T3.setTop (mkF m 6 #[.val (.ref a)] [(.int (own_ix0 9))]))
  refine Go.if_ (pc' := 22) (pn := 9) X5 hx hby d4_6 (by decide) (by decide) rfl (fun (c6 : 0 ≤ (own_ix0 9)) => ?_) (fun (c6 : ¬ (0 ≤ (own_ix0 9))) => ?_)
  ·
    refine Go.iconst (pc' := 23) X5 hx hby d4_22 rfl (v := (0 : Int32)) (by decide) ?_
    have g : own_can0 u0 u1 u2 = (0 : Int32) := by unfold own_can0; rw [if_pos c6]
    exact Go.retZ X5 hx hby hlk hret (by simp) d4_23 (by decide) (by decide) ⟨by rw [g]; rfl, rfl, e1⟩
  ·
    refine Go.aloadN (pc' := 10) X5 hx hby d4_9 rfl rfl rfl ?_
    refine Go.bipush (pc' := 12) X5 hx hby d4_10 rfl (v := (10 : Int32)) (by decide) ?_
    refine Go.callV (C := "java/lang/String") (pc' := 15) (a := a) (W := 0) (argsL := [(.int (10 : Int32))]) (rest := []) X5 hx hby hZ hown (hw _ (List.mem_of_getElem? (i := 27) rfl)) (hw _ (List.mem_of_getElem? (i := 28) rfl)) (notFace_of_selects (args := #[]) (mvT hZ (hw _ (List.mem_of_getElem? (i := 30) rfl)))) (hw _ (List.mem_of_getElem? (i := 30) rfl)) (hw _ (List.mem_of_getElem? (i := 29) rfl)) (hw _ (List.mem_of_getElem? (i := 4) rfl)) (hw _ (List.mem_of_getElem? (i := 31) rfl)) (by decide) (rmJ1_0 l Z a0 hw a 10 h0 n0 kk sf u0 u1 u2 O0 SS B0 B1 B2 (by decide) S0) e1 E0 (by decide) (by decide) (by rw [hml]; rfl) pd_5 rfl rfl rfl (Nat.le_of_eq rfl) d4_12 rfl (by decide) (by decide) ?_
    rintro r8 T9 L10 X11 ⟨rfl, rfl, e7⟩
    rw [List.append_nil] at X11
    show Go p e below _ (T9.setTop (mkF m 15 #[.val (.ref a)] [(.int (own_ix0 10))]))
    refine Go.if_ (pc' := 22) (pn := 18) X11 hx hby d4_15 (by decide) (by decide) rfl (fun (c12 : 0 ≤ (own_ix0 10)) => ?_) (fun (c12 : ¬ (0 ≤ (own_ix0 10))) => ?_)
    ·
      refine Go.iconst (pc' := 23) X11 hx hby d4_22 rfl (v := (0 : Int32)) (by decide) ?_
      have g : own_can0 u0 u1 u2 = (0 : Int32) := by unfold own_can0; rw [if_neg c6, if_pos c12]
      exact Go.retZ X11 hx hby hlk hret (by simp) d4_23 (by decide) (by decide) ⟨by rw [g]; rfl, rfl, e7⟩
    ·
      refine Go.iconst (pc' := 19) X11 hx hby d4_18 rfl (v := (1 : Int32)) (by decide) ?_
      refine Go.goto (pc' := 23) X11 hx hby d4_19 (by decide) (by decide) ?_
      have g : own_can0 u0 u1 u2 = (1 : Int32) := by unfold own_can0; rw [if_neg c6, if_neg c12]
      exact Go.retZ X11 hx hby hlk hret (by simp) d4_23 (by decide) (by decide) ⟨by rw [g]; rfl, rfl, e7⟩
set_option maxRecDepth 65536 in
set_option maxHeartbeats 40000000 in
theorem rmJ2_1 (l : Launch) (Z : State) (a0 : Array Value) (hw : ∀ d ∈ tables_1, d.before a0 Z = true) (a : Addr) (ch : Int32) (x2 : Int32) (h0 : Heap) (n0 : Nat) (kk : Int32) (sf : Value) (u0 u1 u2 : Int32) (O0 : Old Z n0 h0) (SS : own_S Z kk sf) (B0 : 0 ≤ u0.toInt ∧ u0.toInt ≤ 65535) (B1 : 0 ≤ u1.toInt ∧ u1.toInt ≤ 65535) (B2 : 0 ≤ u2.toInt ∧ u2.toInt ≤ 65535) (hch : ch = 9 ∨ ch = 10) (S0 : own_str1 Z h0 a u0 u1 u2) (h2 : x2 = 0) :
    Con l Z (⟨"java/lang/String", "indexOf", "(II)I"⟩ : MethodName) jdk_42_method_80_code 3 (some .int) [] ({ frames := 5, cells := 0, slots := 0, locals := 73 } : Room) #[(.ref a), (.int ch), (.int x2)] h0 (PQ (some (.int (own_ix1 ch u0))) h0) := by
  refine Con.of (plainFor_of_name pn_String) ?_
  intro p e s m below meth c s₁ hx hby hml hown hnm hret hlk hZ X0 e0
  refine Go.cast (ef_6 m a ch x2) ?_
  replace hown : s.vm.findClass "java/lang/String" = some m.cls := hown
  subst h2
  show Go p e below _ (s₁.setTop (mkF m 0 #[.val (.ref a), .val (.int ch), .val (.int (0 : Int32))] []))
  obtain ⟨b, E0, F1, (⟨F2, l0, A0⟩ | ⟨F2, A0⟩)⟩ := S0
  ·
    refine Go.aloadN (pc' := 1) X0 hx hby d6_0 rfl rfl rfl ?_
    refine Go.callV (C := "java/lang/String") (pc' := 4) (a := a) (W := 0) (argsL := []) (rest := []) X0 hx hby hZ hown (hw _ (List.mem_of_getElem? (i := 37) rfl)) (hw _ (List.mem_of_getElem? (i := 38) rfl)) (notFace_of_selects (args := #[]) (mvT hZ (hw _ (List.mem_of_getElem? (i := 40) rfl)))) (hw _ (List.mem_of_getElem? (i := 40) rfl)) (hw _ (List.mem_of_getElem? (i := 39) rfl)) (hw _ (List.mem_of_getElem? (i := 4) rfl)) (hw _ (List.mem_of_getElem? (i := 41) rfl)) (by decide) (rmIL0 l Z a0 hw a h0 n0 kk sf O0 SS F2) e0 E0 (by decide) (by decide) (by rw [hml]; rfl) pd_3 rfl rfl rfl (Nat.le_of_eq rfl) d6_1 rfl (by decide) (by decide) ?_
    rintro r2 T3 L4 X5 ⟨rfl, rfl, e1⟩
    rw [List.append_nil] at X5
    show Go p e below _ (T3.setTop (mkF m 4 #[.val (.ref a), .val (.int ch), .val (.int (0 : Int32))] [(.int (1 : Int32))]))
    refine Go.ifN (pc' := 7) X5 hx hby d6_4 rfl (show ¬ ((1 : Int32) = 0) from by decide) ?_
    refine Go.aloadN (pc' := 8) X5 hx hby d6_7 rfl rfl rfl ?_
    refine Go.getF (pc' := 11) X5 hx hby hZ hown (hw _ (List.mem_of_getElem? (i := 21) rfl)) Via.refl e1 F1 d6_8 rfl ?_
    intro T6 X7 e8
    refine Go.iloadN (pc' := 12) X7 hx hby d6_11 rfl rfl ?_
    refine Go.iloadN (pc' := 13) X7 hx hby d6_12 rfl rfl ?_
    refine Go.aloadN (pc' := 14) X7 hx hby d6_13 rfl rfl rfl ?_
    refine Go.callV (C := "java/lang/String") (pc' := 17) (a := a) (W := 3) (argsL := []) (rest := [(.int (0 : Int32)), (.int ch), (.ref b)]) X7 hx hby hZ hown (hw _ (List.mem_of_getElem? (i := 43) rfl)) (hw _ (List.mem_of_getElem? (i := 44) rfl)) (notFace_of_selects (args := #[]) (mvT hZ (hw _ (List.mem_of_getElem? (i := 46) rfl)))) (hw _ (List.mem_of_getElem? (i := 46) rfl)) (hw _ (List.mem_of_getElem? (i := 45) rfl)) (hw _ (List.mem_of_getElem? (i := 4) rfl)) (hw _ (List.mem_of_getElem? (i := 47) rfl)) (by decide) (rmLE1_0 l Z a0 hw a h0 n0 kk sf b _ O0 SS E0 F1 F2 A0) e8 E0 (by decide) (by decide) (by rw [hml]; rfl) pd_1 rfl rfl rfl (Nat.le_of_eq rfl) d6_14 rfl (by decide) (by decide) ?_
    rintro r10 T11 L12 X13 ⟨rfl, rfl, e9⟩
    rw [List.append_nil] at X13
    show Go p e below _ (T11.setTop (mkF m 17 #[.val (.ref a), .val (.int ch), .val (.int (0 : Int32))] [(.int (1 : Int32)), (.int (0 : Int32)), (.int ch), (.ref b)]))
    refine Go.callS (pc' := 20) (W := 0) (argsL := [(.ref b), (.int ch), (.int (0 : Int32)), (.int (1 : Int32))]) (rest := []) X13 hx hby hZ hown (hw _ (List.mem_of_getElem? (i := 53) rfl)) (hw _ (List.mem_of_getElem? (i := 54) rfl)) (hw _ (List.mem_of_getElem? (i := 55) rfl)) (hw _ (List.mem_of_getElem? (i := 56) rfl)) (by decide) (rmLI1 l Z a0 hw b ch 0 1 h0 u0 u1 u2 B0 B1 B2 hch rfl rfl l0 A0) e9 (by decide) (by decide) (by rw [hml]; rfl) pd_17 rfl rfl rfl (Nat.le_of_eq rfl) d6_17 rfl (by decide) (by decide) ?_
    rintro r15 T16 L17 X18 ⟨rfl, rfl, e14⟩
    rw [List.append_nil] at X18
    show Go p e below _ (T16.setTop (mkF m 20 #[.val (.ref a), .val (.int ch), .val (.int (0 : Int32))] [(.int (own_ix1 ch u0))]))
    refine Go.goto (pc' := 36) X18 hx hby d6_20 (by decide) (by decide) ?_
    exact Go.retI X18 hx hby hlk hret d6_36 (by decide) (by decide) ⟨rfl, rfl, e14⟩
  ·
    refine Go.aloadN (pc' := 1) X0 hx hby d6_0 rfl rfl rfl ?_
    refine Go.callV (C := "java/lang/String") (pc' := 4) (a := a) (W := 0) (argsL := []) (rest := []) X0 hx hby hZ hown (hw _ (List.mem_of_getElem? (i := 37) rfl)) (hw _ (List.mem_of_getElem? (i := 38) rfl)) (notFace_of_selects (args := #[]) (mvT hZ (hw _ (List.mem_of_getElem? (i := 40) rfl)))) (hw _ (List.mem_of_getElem? (i := 40) rfl)) (hw _ (List.mem_of_getElem? (i := 39) rfl)) (hw _ (List.mem_of_getElem? (i := 4) rfl)) (hw _ (List.mem_of_getElem? (i := 41) rfl)) (by decide) (rmIL1 l Z a0 hw a h0 n0 kk sf O0 SS F2) e0 E0 (by decide) (by decide) (by rw [hml]; rfl) pd_3 rfl rfl rfl (Nat.le_of_eq rfl) d6_1 rfl (by decide) (by decide) ?_
    rintro r20 T21 L22 X23 ⟨rfl, rfl, e19⟩
    rw [List.append_nil] at X23
    show Go p e below _ (T21.setTop (mkF m 4 #[.val (.ref a), .val (.int ch), .val (.int (0 : Int32))] [(.int (0 : Int32))]))
    refine Go.ifY (pc' := 23) X23 hx hby d6_4 (by decide) (by decide) (show (0 : Int32) = 0 from by decide) ?_
    refine Go.aloadN (pc' := 24) X23 hx hby d6_23 rfl rfl rfl ?_
    refine Go.getF (pc' := 27) X23 hx hby hZ hown (hw _ (List.mem_of_getElem? (i := 21) rfl)) Via.refl e19 F1 d6_24 rfl ?_
    intro T24 X25 e26
    refine Go.iloadN (pc' := 28) X25 hx hby d6_27 rfl rfl ?_
    refine Go.iloadN (pc' := 29) X25 hx hby d6_28 rfl rfl ?_
    refine Go.aloadN (pc' := 30) X25 hx hby d6_29 rfl rfl rfl ?_
    refine Go.callV (C := "java/lang/String") (pc' := 33) (a := a) (W := 3) (argsL := []) (rest := [(.int (0 : Int32)), (.int ch), (.ref b)]) X25 hx hby hZ hown (hw _ (List.mem_of_getElem? (i := 43) rfl)) (hw _ (List.mem_of_getElem? (i := 44) rfl)) (notFace_of_selects (args := #[]) (mvT hZ (hw _ (List.mem_of_getElem? (i := 46) rfl)))) (hw _ (List.mem_of_getElem? (i := 46) rfl)) (hw _ (List.mem_of_getElem? (i := 45) rfl)) (hw _ (List.mem_of_getElem? (i := 4) rfl)) (hw _ (List.mem_of_getElem? (i := 47) rfl)) (by decide) (rmLE1_1 l Z a0 hw a h0 n0 kk sf b _ O0 SS E0 F1 F2 A0) e26 E0 (by decide) (by decide) (by rw [hml]; rfl) pd_1 rfl rfl rfl (Nat.le_of_eq rfl) d6_30 rfl (by decide) (by decide) ?_
    rintro r28 T29 L30 X31 ⟨rfl, rfl, e27⟩
    rw [List.append_nil] at X31
    show Go p e below _ (T29.setTop (mkF m 33 #[.val (.ref a), .val (.int ch), .val (.int (0 : Int32))] [(.int (1 : Int32)), (.int (0 : Int32)), (.int ch), (.ref b)]))
    refine Go.callS (pc' := 36) (W := 0) (argsL := [(.ref b), (.int ch), (.int (0 : Int32)), (.int (1 : Int32))]) (rest := []) X31 hx hby hZ hown (hw _ (List.mem_of_getElem? (i := 103) rfl)) (hw _ (List.mem_of_getElem? (i := 104) rfl)) (hw _ (List.mem_of_getElem? (i := 69) rfl)) (hw _ (List.mem_of_getElem? (i := 105) rfl)) (by decide) (rmUI1 l Z a0 hw b ch 0 1 h0 n0 kk sf u0 u1 u2 hch O0 SS B0 B1 B2 rfl rfl A0) e27 (by decide) (by decide) (by rw [hml]; rfl) pd_17 rfl rfl rfl (Nat.le_of_eq rfl) d6_33 rfl (by decide) (by decide) ?_
    rintro r33 T34 L35 X36 ⟨rfl, rfl, e32⟩
    rw [List.append_nil] at X36
    show Go p e below _ (T34.setTop (mkF m 36 #[.val (.ref a), .val (.int ch), .val (.int (0 : Int32))] [(.int (own_ix1 ch u0))]))
    exact Go.retI X36 hx hby hlk hret d6_36 (by decide) (by decide) ⟨rfl, rfl, e32⟩
set_option maxRecDepth 65536 in
set_option maxHeartbeats 40000000 in
theorem rmJ1_1 (l : Launch) (Z : State) (a0 : Array Value) (hw : ∀ d ∈ tables_1, d.before a0 Z = true) (a : Addr) (ch : Int32) (h0 : Heap) (n0 : Nat) (kk : Int32) (sf : Value) (u0 u1 u2 : Int32) (O0 : Old Z n0 h0) (SS : own_S Z kk sf) (B0 : 0 ≤ u0.toInt ∧ u0.toInt ≤ 65535) (B1 : 0 ≤ u1.toInt ∧ u1.toInt ≤ 65535) (B2 : 0 ≤ u2.toInt ∧ u2.toInt ≤ 65535) (hch : ch = 9 ∨ ch = 10) (S0 : own_str1 Z h0 a u0 u1 u2) :
    Con l Z (⟨"java/lang/String", "indexOf", "(I)I"⟩ : MethodName) jdk_42_method_79_code 2 (some .int) [] ({ frames := 6, cells := 0, slots := 0, locals := 87 } : Room) #[(.ref a), (.int ch)] h0 (PQ (some (.int (own_ix1 ch u0))) h0) := by
  refine Con.of (plainFor_of_name pn_String) ?_
  intro p e s m below meth c s₁ hx hby hml hown hnm hret hlk hZ X0 e0
  refine Go.cast (ef_5 m a ch) ?_
  replace hown : s.vm.findClass "java/lang/String" = some m.cls := hown
  obtain ⟨bx, E0, -⟩ := id S0
  refine Go.aloadN (pc' := 1) X0 hx hby d5_0 rfl rfl rfl ?_
  refine Go.iloadN (pc' := 2) X0 hx hby d5_1 rfl rfl ?_
  refine Go.iconst (pc' := 3) X0 hx hby d5_2 rfl (v := (0 : Int32)) (by decide) ?_
  refine Go.callV (C := "java/lang/String") (pc' := 6) (a := a) (W := 0) (argsL := [(.int ch), (.int (0 : Int32))]) (rest := []) X0 hx hby hZ hown (hw _ (List.mem_of_getElem? (i := 32) rfl)) (hw _ (List.mem_of_getElem? (i := 33) rfl)) (notFace_of_selects (args := #[]) (mvT hZ (hw _ (List.mem_of_getElem? (i := 35) rfl)))) (hw _ (List.mem_of_getElem? (i := 35) rfl)) (hw _ (List.mem_of_getElem? (i := 34) rfl)) (hw _ (List.mem_of_getElem? (i := 4) rfl)) (hw _ (List.mem_of_getElem? (i := 36) rfl)) (by decide) (rmJ2_1 l Z a0 hw a ch 0 h0 n0 kk sf u0 u1 u2 O0 SS B0 B1 B2 hch S0 rfl) e0 E0 (by decide) (by decide) (by rw [hml]; rfl) pd_8 rfl rfl rfl (Nat.le_of_eq rfl) d5_3 rfl (by decide) (by decide) ?_
  rintro r2 T3 L4 X5 ⟨rfl, rfl, e1⟩
  rw [List.append_nil] at X5
  show Go p e below _ (T3.setTop (mkF m 6 #[.val (.ref a), .val (.int ch)] [(.int (own_ix1 ch u0))]))
  exact Go.retI X5 hx hby hlk hret d5_6 (by decide) (by decide) ⟨rfl, rfl, e1⟩
def own_can1 (u0 u1 u2 : Int32) : Int32 := if 0 ≤ own_ix1 9 u0 then 0 else if 0 ≤ own_ix1 10 u0 then 0 else 1
set_option maxRecDepth 65536 in
set_option maxHeartbeats 40000000 in
theorem rmCH1 (l : Launch) (Z : State) (a0 : Array Value) (hw : ∀ d ∈ tables_1, d.before a0 Z = true) (a : Addr) (h0 : Heap) (n0 : Nat) (kk : Int32) (sf : Value) (u0 u1 u2 : Int32) (O0 : Old Z n0 h0) (SS : own_S Z kk sf) (B0 : 0 ≤ u0.toInt ∧ u0.toInt ≤ 65535) (B1 : 0 ≤ u1.toInt ∧ u1.toInt ≤ 65535) (B2 : 0 ≤ u2.toInt ∧ u2.toInt ≤ 65535) (S0 : own_str1 Z h0 a u0 u1 u2) :
    Con l Z (⟨"com/example/tame_recursion/tamerecursion/io/FactsFile", "canHold", "(Ljava/lang/String;)Z"⟩ : MethodName) prog_42_method_5_code 1 (some .boolean) [] ({ frames := 7, cells := 0, slots := 0, locals := 100 } : Room) #[(.ref a)] h0 (PQ (some (.int (own_can1 u0 u1 u2))) h0) := by
  refine Con.of (plainFor_of_name pn_FactsFile) ?_
  intro p e s m below meth c s₁ hx hby hml hown hnm hret hlk hZ X0 e0
  refine Go.cast (ef_4 m a) ?_
  replace hown : s.vm.findClass "com/example/tame_recursion/tamerecursion/io/FactsFile" = some m.cls := hown
  obtain ⟨bx, E0, -⟩ := id S0
  refine Go.aloadN (pc' := 1) X0 hx hby d4_0 rfl rfl rfl ?_
  refine Go.bipush (pc' := 3) X0 hx hby d4_1 rfl (v := (9 : Int32)) (by decide) ?_
  refine Go.callV (C := "java/lang/String") (pc' := 6) (a := a) (W := 0) (argsL := [(.int (9 : Int32))]) (rest := []) X0 hx hby hZ hown (hw _ (List.mem_of_getElem? (i := 27) rfl)) (hw _ (List.mem_of_getElem? (i := 28) rfl)) (notFace_of_selects (args := #[]) (mvT hZ (hw _ (List.mem_of_getElem? (i := 30) rfl)))) (hw _ (List.mem_of_getElem? (i := 30) rfl)) (hw _ (List.mem_of_getElem? (i := 29) rfl)) (hw _ (List.mem_of_getElem? (i := 4) rfl)) (hw _ (List.mem_of_getElem? (i := 31) rfl)) (by decide) (rmJ1_1 l Z a0 hw a 9 h0 n0 kk sf u0 u1 u2 O0 SS B0 B1 B2 (by decide) S0) e0 E0 (by decide) (by decide) (by rw [hml]; rfl) pd_5 rfl rfl rfl (Nat.le_of_eq rfl) d4_3 rfl (by decide) (by decide) ?_
  rintro r2 T3 L4 X5 ⟨rfl, rfl, e1⟩
  rw [List.append_nil] at X5
  show Go p e below _ (T3.setTop (mkF m 6 #[.val (.ref a)] [(.int (own_ix1 9 u0))]))
  refine Go.if_ (pc' := 22) (pn := 9) X5 hx hby d4_6 (by decide) (by decide) rfl (fun (c6 : 0 ≤ (own_ix1 9 u0)) => ?_) (fun (c6 : ¬ (0 ≤ (own_ix1 9 u0))) => ?_)
  ·
    refine Go.iconst (pc' := 23) X5 hx hby d4_22 rfl (v := (0 : Int32)) (by decide) ?_
    have g : own_can1 u0 u1 u2 = (0 : Int32) := by unfold own_can1; rw [if_pos c6]
    exact Go.retZ X5 hx hby hlk hret (by simp) d4_23 (by decide) (by decide) ⟨by rw [g]; rfl, rfl, e1⟩
  ·
    refine Go.aloadN (pc' := 10) X5 hx hby d4_9 rfl rfl rfl ?_
    refine Go.bipush (pc' := 12) X5 hx hby d4_10 rfl (v := (10 : Int32)) (by decide) ?_
    refine Go.callV (C := "java/lang/String") (pc' := 15) (a := a) (W := 0) (argsL := [(.int (10 : Int32))]) (rest := []) X5 hx hby hZ hown (hw _ (List.mem_of_getElem? (i := 27) rfl)) (hw _ (List.mem_of_getElem? (i := 28) rfl)) (notFace_of_selects (args := #[]) (mvT hZ (hw _ (List.mem_of_getElem? (i := 30) rfl)))) (hw _ (List.mem_of_getElem? (i := 30) rfl)) (hw _ (List.mem_of_getElem? (i := 29) rfl)) (hw _ (List.mem_of_getElem? (i := 4) rfl)) (hw _ (List.mem_of_getElem? (i := 31) rfl)) (by decide) (rmJ1_1 l Z a0 hw a 10 h0 n0 kk sf u0 u1 u2 O0 SS B0 B1 B2 (by decide) S0) e1 E0 (by decide) (by decide) (by rw [hml]; rfl) pd_5 rfl rfl rfl (Nat.le_of_eq rfl) d4_12 rfl (by decide) (by decide) ?_
    rintro r8 T9 L10 X11 ⟨rfl, rfl, e7⟩
    rw [List.append_nil] at X11
    show Go p e below _ (T9.setTop (mkF m 15 #[.val (.ref a)] [(.int (own_ix1 10 u0))]))
    refine Go.if_ (pc' := 22) (pn := 18) X11 hx hby d4_15 (by decide) (by decide) rfl (fun (c12 : 0 ≤ (own_ix1 10 u0)) => ?_) (fun (c12 : ¬ (0 ≤ (own_ix1 10 u0))) => ?_)
    ·
      refine Go.iconst (pc' := 23) X11 hx hby d4_22 rfl (v := (0 : Int32)) (by decide) ?_
      have g : own_can1 u0 u1 u2 = (0 : Int32) := by unfold own_can1; rw [if_neg c6, if_pos c12]
      exact Go.retZ X11 hx hby hlk hret (by simp) d4_23 (by decide) (by decide) ⟨by rw [g]; rfl, rfl, e7⟩
    ·
      refine Go.iconst (pc' := 19) X11 hx hby d4_18 rfl (v := (1 : Int32)) (by decide) ?_
      refine Go.goto (pc' := 23) X11 hx hby d4_19 (by decide) (by decide) ?_
      have g : own_can1 u0 u1 u2 = (1 : Int32) := by unfold own_can1; rw [if_neg c6, if_neg c12]
      exact Go.retZ X11 hx hby hlk hret (by simp) d4_23 (by decide) (by decide) ⟨by rw [g]; rfl, rfl, e7⟩
set_option maxRecDepth 65536 in
set_option maxHeartbeats 40000000 in
theorem rmJ2_2 (l : Launch) (Z : State) (a0 : Array Value) (hw : ∀ d ∈ tables_1, d.before a0 Z = true) (a : Addr) (ch : Int32) (x2 : Int32) (h0 : Heap) (n0 : Nat) (kk : Int32) (sf : Value) (u0 u1 u2 : Int32) (O0 : Old Z n0 h0) (SS : own_S Z kk sf) (B0 : 0 ≤ u0.toInt ∧ u0.toInt ≤ 65535) (B1 : 0 ≤ u1.toInt ∧ u1.toInt ≤ 65535) (B2 : 0 ≤ u2.toInt ∧ u2.toInt ≤ 65535) (hch : ch = 9 ∨ ch = 10) (S0 : own_str2 Z h0 a u0 u1 u2) (h2 : x2 = 0) :
    Con l Z (⟨"java/lang/String", "indexOf", "(II)I"⟩ : MethodName) jdk_42_method_80_code 3 (some .int) [] ({ frames := 5, cells := 0, slots := 0, locals := 73 } : Room) #[(.ref a), (.int ch), (.int x2)] h0 (PQ (some (.int (own_ix2 ch u0 u1))) h0) := by
  refine Con.of (plainFor_of_name pn_String) ?_
  intro p e s m below meth c s₁ hx hby hml hown hnm hret hlk hZ X0 e0
  refine Go.cast (ef_6 m a ch x2) ?_
  replace hown : s.vm.findClass "java/lang/String" = some m.cls := hown
  subst h2
  show Go p e below _ (s₁.setTop (mkF m 0 #[.val (.ref a), .val (.int ch), .val (.int (0 : Int32))] []))
  obtain ⟨b, E0, F1, (⟨F2, ⟨l0, l1⟩, A0⟩ | ⟨F2, A0⟩)⟩ := S0
  ·
    refine Go.aloadN (pc' := 1) X0 hx hby d6_0 rfl rfl rfl ?_
    refine Go.callV (C := "java/lang/String") (pc' := 4) (a := a) (W := 0) (argsL := []) (rest := []) X0 hx hby hZ hown (hw _ (List.mem_of_getElem? (i := 37) rfl)) (hw _ (List.mem_of_getElem? (i := 38) rfl)) (notFace_of_selects (args := #[]) (mvT hZ (hw _ (List.mem_of_getElem? (i := 40) rfl)))) (hw _ (List.mem_of_getElem? (i := 40) rfl)) (hw _ (List.mem_of_getElem? (i := 39) rfl)) (hw _ (List.mem_of_getElem? (i := 4) rfl)) (hw _ (List.mem_of_getElem? (i := 41) rfl)) (by decide) (rmIL0 l Z a0 hw a h0 n0 kk sf O0 SS F2) e0 E0 (by decide) (by decide) (by rw [hml]; rfl) pd_3 rfl rfl rfl (Nat.le_of_eq rfl) d6_1 rfl (by decide) (by decide) ?_
    rintro r2 T3 L4 X5 ⟨rfl, rfl, e1⟩
    rw [List.append_nil] at X5
    show Go p e below _ (T3.setTop (mkF m 4 #[.val (.ref a), .val (.int ch), .val (.int (0 : Int32))] [(.int (1 : Int32))]))
    refine Go.ifN (pc' := 7) X5 hx hby d6_4 rfl (show ¬ ((1 : Int32) = 0) from by decide) ?_
    refine Go.aloadN (pc' := 8) X5 hx hby d6_7 rfl rfl rfl ?_
    refine Go.getF (pc' := 11) X5 hx hby hZ hown (hw _ (List.mem_of_getElem? (i := 21) rfl)) Via.refl e1 F1 d6_8 rfl ?_
    intro T6 X7 e8
    refine Go.iloadN (pc' := 12) X7 hx hby d6_11 rfl rfl ?_
    refine Go.iloadN (pc' := 13) X7 hx hby d6_12 rfl rfl ?_
    refine Go.aloadN (pc' := 14) X7 hx hby d6_13 rfl rfl rfl ?_
    refine Go.callV (C := "java/lang/String") (pc' := 17) (a := a) (W := 3) (argsL := []) (rest := [(.int (0 : Int32)), (.int ch), (.ref b)]) X7 hx hby hZ hown (hw _ (List.mem_of_getElem? (i := 43) rfl)) (hw _ (List.mem_of_getElem? (i := 44) rfl)) (notFace_of_selects (args := #[]) (mvT hZ (hw _ (List.mem_of_getElem? (i := 46) rfl)))) (hw _ (List.mem_of_getElem? (i := 46) rfl)) (hw _ (List.mem_of_getElem? (i := 45) rfl)) (hw _ (List.mem_of_getElem? (i := 4) rfl)) (hw _ (List.mem_of_getElem? (i := 47) rfl)) (by decide) (rmLE2_0 l Z a0 hw a h0 n0 kk sf b _ O0 SS E0 F1 F2 A0) e8 E0 (by decide) (by decide) (by rw [hml]; rfl) pd_1 rfl rfl rfl (Nat.le_of_eq rfl) d6_14 rfl (by decide) (by decide) ?_
    rintro r10 T11 L12 X13 ⟨rfl, rfl, e9⟩
    rw [List.append_nil] at X13
    show Go p e below _ (T11.setTop (mkF m 17 #[.val (.ref a), .val (.int ch), .val (.int (0 : Int32))] [(.int (2 : Int32)), (.int (0 : Int32)), (.int ch), (.ref b)]))
    refine Go.callS (pc' := 20) (W := 0) (argsL := [(.ref b), (.int ch), (.int (0 : Int32)), (.int (2 : Int32))]) (rest := []) X13 hx hby hZ hown (hw _ (List.mem_of_getElem? (i := 53) rfl)) (hw _ (List.mem_of_getElem? (i := 54) rfl)) (hw _ (List.mem_of_getElem? (i := 55) rfl)) (hw _ (List.mem_of_getElem? (i := 56) rfl)) (by decide) (rmLI2 l Z a0 hw b ch 0 2 h0 u0 u1 u2 B0 B1 B2 hch rfl rfl l0 l1 A0) e9 (by decide) (by decide) (by rw [hml]; rfl) pd_17 rfl rfl rfl (Nat.le_of_eq rfl) d6_17 rfl (by decide) (by decide) ?_
    rintro r15 T16 L17 X18 ⟨rfl, rfl, e14⟩
    rw [List.append_nil] at X18
    show Go p e below _ (T16.setTop (mkF m 20 #[.val (.ref a), .val (.int ch), .val (.int (0 : Int32))] [(.int (own_ix2 ch u0 u1))]))
    refine Go.goto (pc' := 36) X18 hx hby d6_20 (by decide) (by decide) ?_
    exact Go.retI X18 hx hby hlk hret d6_36 (by decide) (by decide) ⟨rfl, rfl, e14⟩
  ·
    refine Go.aloadN (pc' := 1) X0 hx hby d6_0 rfl rfl rfl ?_
    refine Go.callV (C := "java/lang/String") (pc' := 4) (a := a) (W := 0) (argsL := []) (rest := []) X0 hx hby hZ hown (hw _ (List.mem_of_getElem? (i := 37) rfl)) (hw _ (List.mem_of_getElem? (i := 38) rfl)) (notFace_of_selects (args := #[]) (mvT hZ (hw _ (List.mem_of_getElem? (i := 40) rfl)))) (hw _ (List.mem_of_getElem? (i := 40) rfl)) (hw _ (List.mem_of_getElem? (i := 39) rfl)) (hw _ (List.mem_of_getElem? (i := 4) rfl)) (hw _ (List.mem_of_getElem? (i := 41) rfl)) (by decide) (rmIL1 l Z a0 hw a h0 n0 kk sf O0 SS F2) e0 E0 (by decide) (by decide) (by rw [hml]; rfl) pd_3 rfl rfl rfl (Nat.le_of_eq rfl) d6_1 rfl (by decide) (by decide) ?_
    rintro r20 T21 L22 X23 ⟨rfl, rfl, e19⟩
    rw [List.append_nil] at X23
    show Go p e below _ (T21.setTop (mkF m 4 #[.val (.ref a), .val (.int ch), .val (.int (0 : Int32))] [(.int (0 : Int32))]))
    refine Go.ifY (pc' := 23) X23 hx hby d6_4 (by decide) (by decide) (show (0 : Int32) = 0 from by decide) ?_
    refine Go.aloadN (pc' := 24) X23 hx hby d6_23 rfl rfl rfl ?_
    refine Go.getF (pc' := 27) X23 hx hby hZ hown (hw _ (List.mem_of_getElem? (i := 21) rfl)) Via.refl e19 F1 d6_24 rfl ?_
    intro T24 X25 e26
    refine Go.iloadN (pc' := 28) X25 hx hby d6_27 rfl rfl ?_
    refine Go.iloadN (pc' := 29) X25 hx hby d6_28 rfl rfl ?_
    refine Go.aloadN (pc' := 30) X25 hx hby d6_29 rfl rfl rfl ?_
    refine Go.callV (C := "java/lang/String") (pc' := 33) (a := a) (W := 3) (argsL := []) (rest := [(.int (0 : Int32)), (.int ch), (.ref b)]) X25 hx hby hZ hown (hw _ (List.mem_of_getElem? (i := 43) rfl)) (hw _ (List.mem_of_getElem? (i := 44) rfl)) (notFace_of_selects (args := #[]) (mvT hZ (hw _ (List.mem_of_getElem? (i := 46) rfl)))) (hw _ (List.mem_of_getElem? (i := 46) rfl)) (hw _ (List.mem_of_getElem? (i := 45) rfl)) (hw _ (List.mem_of_getElem? (i := 4) rfl)) (hw _ (List.mem_of_getElem? (i := 47) rfl)) (by decide) (rmLE2_1 l Z a0 hw a h0 n0 kk sf b _ O0 SS E0 F1 F2 A0) e26 E0 (by decide) (by decide) (by rw [hml]; rfl) pd_1 rfl rfl rfl (Nat.le_of_eq rfl) d6_30 rfl (by decide) (by decide) ?_
    rintro r28 T29 L30 X31 ⟨rfl, rfl, e27⟩
    rw [List.append_nil] at X31
    show Go p e below _ (T29.setTop (mkF m 33 #[.val (.ref a), .val (.int ch), .val (.int (0 : Int32))] [(.int (2 : Int32)), (.int (0 : Int32)), (.int ch), (.ref b)]))
    refine Go.callS (pc' := 36) (W := 0) (argsL := [(.ref b), (.int ch), (.int (0 : Int32)), (.int (2 : Int32))]) (rest := []) X31 hx hby hZ hown (hw _ (List.mem_of_getElem? (i := 103) rfl)) (hw _ (List.mem_of_getElem? (i := 104) rfl)) (hw _ (List.mem_of_getElem? (i := 69) rfl)) (hw _ (List.mem_of_getElem? (i := 105) rfl)) (by decide) (rmUI2 l Z a0 hw b ch 0 2 h0 n0 kk sf u0 u1 u2 hch O0 SS B0 B1 B2 rfl rfl A0) e27 (by decide) (by decide) (by rw [hml]; rfl) pd_17 rfl rfl rfl (Nat.le_of_eq rfl) d6_33 rfl (by decide) (by decide) ?_
    rintro r33 T34 L35 X36 ⟨rfl, rfl, e32⟩
    rw [List.append_nil] at X36
    show Go p e below _ (T34.setTop (mkF m 36 #[.val (.ref a), .val (.int ch), .val (.int (0 : Int32))] [(.int (own_ix2 ch u0 u1))]))
    exact Go.retI X36 hx hby hlk hret d6_36 (by decide) (by decide) ⟨rfl, rfl, e32⟩
set_option maxRecDepth 65536 in
set_option maxHeartbeats 40000000 in
theorem rmJ1_2 (l : Launch) (Z : State) (a0 : Array Value) (hw : ∀ d ∈ tables_1, d.before a0 Z = true) (a : Addr) (ch : Int32) (h0 : Heap) (n0 : Nat) (kk : Int32) (sf : Value) (u0 u1 u2 : Int32) (O0 : Old Z n0 h0) (SS : own_S Z kk sf) (B0 : 0 ≤ u0.toInt ∧ u0.toInt ≤ 65535) (B1 : 0 ≤ u1.toInt ∧ u1.toInt ≤ 65535) (B2 : 0 ≤ u2.toInt ∧ u2.toInt ≤ 65535) (hch : ch = 9 ∨ ch = 10) (S0 : own_str2 Z h0 a u0 u1 u2) :
    Con l Z (⟨"java/lang/String", "indexOf", "(I)I"⟩ : MethodName) jdk_42_method_79_code 2 (some .int) [] ({ frames := 6, cells := 0, slots := 0, locals := 87 } : Room) #[(.ref a), (.int ch)] h0 (PQ (some (.int (own_ix2 ch u0 u1))) h0) := by
  refine Con.of (plainFor_of_name pn_String) ?_
  intro p e s m below meth c s₁ hx hby hml hown hnm hret hlk hZ X0 e0
  refine Go.cast (ef_5 m a ch) ?_
  replace hown : s.vm.findClass "java/lang/String" = some m.cls := hown
  obtain ⟨bx, E0, -⟩ := id S0
  refine Go.aloadN (pc' := 1) X0 hx hby d5_0 rfl rfl rfl ?_
  refine Go.iloadN (pc' := 2) X0 hx hby d5_1 rfl rfl ?_
  refine Go.iconst (pc' := 3) X0 hx hby d5_2 rfl (v := (0 : Int32)) (by decide) ?_
  refine Go.callV (C := "java/lang/String") (pc' := 6) (a := a) (W := 0) (argsL := [(.int ch), (.int (0 : Int32))]) (rest := []) X0 hx hby hZ hown (hw _ (List.mem_of_getElem? (i := 32) rfl)) (hw _ (List.mem_of_getElem? (i := 33) rfl)) (notFace_of_selects (args := #[]) (mvT hZ (hw _ (List.mem_of_getElem? (i := 35) rfl)))) (hw _ (List.mem_of_getElem? (i := 35) rfl)) (hw _ (List.mem_of_getElem? (i := 34) rfl)) (hw _ (List.mem_of_getElem? (i := 4) rfl)) (hw _ (List.mem_of_getElem? (i := 36) rfl)) (by decide) (rmJ2_2 l Z a0 hw a ch 0 h0 n0 kk sf u0 u1 u2 O0 SS B0 B1 B2 hch S0 rfl) e0 E0 (by decide) (by decide) (by rw [hml]; rfl) pd_8 rfl rfl rfl (Nat.le_of_eq rfl) d5_3 rfl (by decide) (by decide) ?_
  rintro r2 T3 L4 X5 ⟨rfl, rfl, e1⟩
  rw [List.append_nil] at X5
  show Go p e below _ (T3.setTop (mkF m 6 #[.val (.ref a), .val (.int ch)] [(.int (own_ix2 ch u0 u1))]))
  exact Go.retI X5 hx hby hlk hret d5_6 (by decide) (by decide) ⟨rfl, rfl, e1⟩
def own_can2 (u0 u1 u2 : Int32) : Int32 := if 0 ≤ own_ix2 9 u0 u1 then 0 else if 0 ≤ own_ix2 10 u0 u1 then 0 else 1
set_option maxRecDepth 65536 in
set_option maxHeartbeats 40000000 in
theorem rmCH2 (l : Launch) (Z : State) (a0 : Array Value) (hw : ∀ d ∈ tables_1, d.before a0 Z = true) (a : Addr) (h0 : Heap) (n0 : Nat) (kk : Int32) (sf : Value) (u0 u1 u2 : Int32) (O0 : Old Z n0 h0) (SS : own_S Z kk sf) (B0 : 0 ≤ u0.toInt ∧ u0.toInt ≤ 65535) (B1 : 0 ≤ u1.toInt ∧ u1.toInt ≤ 65535) (B2 : 0 ≤ u2.toInt ∧ u2.toInt ≤ 65535) (S0 : own_str2 Z h0 a u0 u1 u2) :
    Con l Z (⟨"com/example/tame_recursion/tamerecursion/io/FactsFile", "canHold", "(Ljava/lang/String;)Z"⟩ : MethodName) prog_42_method_5_code 1 (some .boolean) [] ({ frames := 7, cells := 0, slots := 0, locals := 100 } : Room) #[(.ref a)] h0 (PQ (some (.int (own_can2 u0 u1 u2))) h0) := by
  refine Con.of (plainFor_of_name pn_FactsFile) ?_
  intro p e s m below meth c s₁ hx hby hml hown hnm hret hlk hZ X0 e0
  refine Go.cast (ef_4 m a) ?_
  replace hown : s.vm.findClass "com/example/tame_recursion/tamerecursion/io/FactsFile" = some m.cls := hown
  obtain ⟨bx, E0, -⟩ := id S0
  refine Go.aloadN (pc' := 1) X0 hx hby d4_0 rfl rfl rfl ?_
  refine Go.bipush (pc' := 3) X0 hx hby d4_1 rfl (v := (9 : Int32)) (by decide) ?_
  refine Go.callV (C := "java/lang/String") (pc' := 6) (a := a) (W := 0) (argsL := [(.int (9 : Int32))]) (rest := []) X0 hx hby hZ hown (hw _ (List.mem_of_getElem? (i := 27) rfl)) (hw _ (List.mem_of_getElem? (i := 28) rfl)) (notFace_of_selects (args := #[]) (mvT hZ (hw _ (List.mem_of_getElem? (i := 30) rfl)))) (hw _ (List.mem_of_getElem? (i := 30) rfl)) (hw _ (List.mem_of_getElem? (i := 29) rfl)) (hw _ (List.mem_of_getElem? (i := 4) rfl)) (hw _ (List.mem_of_getElem? (i := 31) rfl)) (by decide) (rmJ1_2 l Z a0 hw a 9 h0 n0 kk sf u0 u1 u2 O0 SS B0 B1 B2 (by decide) S0) e0 E0 (by decide) (by decide) (by rw [hml]; rfl) pd_5 rfl rfl rfl (Nat.le_of_eq rfl) d4_3 rfl (by decide) (by decide) ?_
  rintro r2 T3 L4 X5 ⟨rfl, rfl, e1⟩
  rw [List.append_nil] at X5
  show Go p e below _ (T3.setTop (mkF m 6 #[.val (.ref a)] [(.int (own_ix2 9 u0 u1))]))
  refine Go.if_ (pc' := 22) (pn := 9) X5 hx hby d4_6 (by decide) (by decide) rfl (fun (c6 : 0 ≤ (own_ix2 9 u0 u1)) => ?_) (fun (c6 : ¬ (0 ≤ (own_ix2 9 u0 u1))) => ?_)
  ·
    refine Go.iconst (pc' := 23) X5 hx hby d4_22 rfl (v := (0 : Int32)) (by decide) ?_
    have g : own_can2 u0 u1 u2 = (0 : Int32) := by unfold own_can2; rw [if_pos c6]
    exact Go.retZ X5 hx hby hlk hret (by simp) d4_23 (by decide) (by decide) ⟨by rw [g]; rfl, rfl, e1⟩
  ·
    refine Go.aloadN (pc' := 10) X5 hx hby d4_9 rfl rfl rfl ?_
    refine Go.bipush (pc' := 12) X5 hx hby d4_10 rfl (v := (10 : Int32)) (by decide) ?_
    refine Go.callV (C := "java/lang/String") (pc' := 15) (a := a) (W := 0) (argsL := [(.int (10 : Int32))]) (rest := []) X5 hx hby hZ hown (hw _ (List.mem_of_getElem? (i := 27) rfl)) (hw _ (List.mem_of_getElem? (i := 28) rfl)) (notFace_of_selects (args := #[]) (mvT hZ (hw _ (List.mem_of_getElem? (i := 30) rfl)))) (hw _ (List.mem_of_getElem? (i := 30) rfl)) (hw _ (List.mem_of_getElem? (i := 29) rfl)) (hw _ (List.mem_of_getElem? (i := 4) rfl)) (hw _ (List.mem_of_getElem? (i := 31) rfl)) (by decide) (rmJ1_2 l Z a0 hw a 10 h0 n0 kk sf u0 u1 u2 O0 SS B0 B1 B2 (by decide) S0) e1 E0 (by decide) (by decide) (by rw [hml]; rfl) pd_5 rfl rfl rfl (Nat.le_of_eq rfl) d4_12 rfl (by decide) (by decide) ?_
    rintro r8 T9 L10 X11 ⟨rfl, rfl, e7⟩
    rw [List.append_nil] at X11
    show Go p e below _ (T9.setTop (mkF m 15 #[.val (.ref a)] [(.int (own_ix2 10 u0 u1))]))
    refine Go.if_ (pc' := 22) (pn := 18) X11 hx hby d4_15 (by decide) (by decide) rfl (fun (c12 : 0 ≤ (own_ix2 10 u0 u1)) => ?_) (fun (c12 : ¬ (0 ≤ (own_ix2 10 u0 u1))) => ?_)
    ·
      refine Go.iconst (pc' := 23) X11 hx hby d4_22 rfl (v := (0 : Int32)) (by decide) ?_
      have g : own_can2 u0 u1 u2 = (0 : Int32) := by unfold own_can2; rw [if_neg c6, if_pos c12]
      exact Go.retZ X11 hx hby hlk hret (by simp) d4_23 (by decide) (by decide) ⟨by rw [g]; rfl, rfl, e7⟩
    ·
      refine Go.iconst (pc' := 19) X11 hx hby d4_18 rfl (v := (1 : Int32)) (by decide) ?_
      refine Go.goto (pc' := 23) X11 hx hby d4_19 (by decide) (by decide) ?_
      have g : own_can2 u0 u1 u2 = (1 : Int32) := by unfold own_can2; rw [if_neg c6, if_neg c12]
      exact Go.retZ X11 hx hby hlk hret (by simp) d4_23 (by decide) (by decide) ⟨by rw [g]; rfl, rfl, e7⟩
set_option maxRecDepth 65536 in
set_option maxHeartbeats 40000000 in
theorem rmJ2_3 (l : Launch) (Z : State) (a0 : Array Value) (hw : ∀ d ∈ tables_1, d.before a0 Z = true) (a : Addr) (ch : Int32) (x2 : Int32) (h0 : Heap) (n0 : Nat) (kk : Int32) (sf : Value) (u0 u1 u2 : Int32) (O0 : Old Z n0 h0) (SS : own_S Z kk sf) (B0 : 0 ≤ u0.toInt ∧ u0.toInt ≤ 65535) (B1 : 0 ≤ u1.toInt ∧ u1.toInt ≤ 65535) (B2 : 0 ≤ u2.toInt ∧ u2.toInt ≤ 65535) (hch : ch = 9 ∨ ch = 10) (S0 : own_str3 Z h0 a u0 u1 u2) (h2 : x2 = 0) :
    Con l Z (⟨"java/lang/String", "indexOf", "(II)I"⟩ : MethodName) jdk_42_method_80_code 3 (some .int) [] ({ frames := 5, cells := 0, slots := 0, locals := 73 } : Room) #[(.ref a), (.int ch), (.int x2)] h0 (PQ (some (.int (own_ix3 ch u0 u1 u2))) h0) := by
  refine Con.of (plainFor_of_name pn_String) ?_
  intro p e s m below meth c s₁ hx hby hml hown hnm hret hlk hZ X0 e0
  refine Go.cast (ef_6 m a ch x2) ?_
  replace hown : s.vm.findClass "java/lang/String" = some m.cls := hown
  subst h2
  show Go p e below _ (s₁.setTop (mkF m 0 #[.val (.ref a), .val (.int ch), .val (.int (0 : Int32))] []))
  obtain ⟨b, E0, F1, (⟨F2, ⟨l0, l1, l2⟩, A0⟩ | ⟨F2, A0⟩)⟩ := S0
  ·
    refine Go.aloadN (pc' := 1) X0 hx hby d6_0 rfl rfl rfl ?_
    refine Go.callV (C := "java/lang/String") (pc' := 4) (a := a) (W := 0) (argsL := []) (rest := []) X0 hx hby hZ hown (hw _ (List.mem_of_getElem? (i := 37) rfl)) (hw _ (List.mem_of_getElem? (i := 38) rfl)) (notFace_of_selects (args := #[]) (mvT hZ (hw _ (List.mem_of_getElem? (i := 40) rfl)))) (hw _ (List.mem_of_getElem? (i := 40) rfl)) (hw _ (List.mem_of_getElem? (i := 39) rfl)) (hw _ (List.mem_of_getElem? (i := 4) rfl)) (hw _ (List.mem_of_getElem? (i := 41) rfl)) (by decide) (rmIL0 l Z a0 hw a h0 n0 kk sf O0 SS F2) e0 E0 (by decide) (by decide) (by rw [hml]; rfl) pd_3 rfl rfl rfl (Nat.le_of_eq rfl) d6_1 rfl (by decide) (by decide) ?_
    rintro r2 T3 L4 X5 ⟨rfl, rfl, e1⟩
    rw [List.append_nil] at X5
    show Go p e below _ (T3.setTop (mkF m 4 #[.val (.ref a), .val (.int ch), .val (.int (0 : Int32))] [(.int (1 : Int32))]))
    refine Go.ifN (pc' := 7) X5 hx hby d6_4 rfl (show ¬ ((1 : Int32) = 0) from by decide) ?_
    refine Go.aloadN (pc' := 8) X5 hx hby d6_7 rfl rfl rfl ?_
    refine Go.getF (pc' := 11) X5 hx hby hZ hown (hw _ (List.mem_of_getElem? (i := 21) rfl)) Via.refl e1 F1 d6_8 rfl ?_
    intro T6 X7 e8
    refine Go.iloadN (pc' := 12) X7 hx hby d6_11 rfl rfl ?_
    refine Go.iloadN (pc' := 13) X7 hx hby d6_12 rfl rfl ?_
    refine Go.aloadN (pc' := 14) X7 hx hby d6_13 rfl rfl rfl ?_
    refine Go.callV (C := "java/lang/String") (pc' := 17) (a := a) (W := 3) (argsL := []) (rest := [(.int (0 : Int32)), (.int ch), (.ref b)]) X7 hx hby hZ hown (hw _ (List.mem_of_getElem? (i := 43) rfl)) (hw _ (List.mem_of_getElem? (i := 44) rfl)) (notFace_of_selects (args := #[]) (mvT hZ (hw _ (List.mem_of_getElem? (i := 46) rfl)))) (hw _ (List.mem_of_getElem? (i := 46) rfl)) (hw _ (List.mem_of_getElem? (i := 45) rfl)) (hw _ (List.mem_of_getElem? (i := 4) rfl)) (hw _ (List.mem_of_getElem? (i := 47) rfl)) (by decide) (rmLE3_0 l Z a0 hw a h0 n0 kk sf b _ O0 SS E0 F1 F2 A0) e8 E0 (by decide) (by decide) (by rw [hml]; rfl) pd_1 rfl rfl rfl (Nat.le_of_eq rfl) d6_14 rfl (by decide) (by decide) ?_
    rintro r10 T11 L12 X13 ⟨rfl, rfl, e9⟩
    rw [List.append_nil] at X13
    show Go p e below _ (T11.setTop (mkF m 17 #[.val (.ref a), .val (.int ch), .val (.int (0 : Int32))] [(.int (3 : Int32)), (.int (0 : Int32)), (.int ch), (.ref b)]))
    refine Go.callS (pc' := 20) (W := 0) (argsL := [(.ref b), (.int ch), (.int (0 : Int32)), (.int (3 : Int32))]) (rest := []) X13 hx hby hZ hown (hw _ (List.mem_of_getElem? (i := 53) rfl)) (hw _ (List.mem_of_getElem? (i := 54) rfl)) (hw _ (List.mem_of_getElem? (i := 55) rfl)) (hw _ (List.mem_of_getElem? (i := 56) rfl)) (by decide) (rmLI3 l Z a0 hw b ch 0 3 h0 u0 u1 u2 B0 B1 B2 hch rfl rfl l0 l1 l2 A0) e9 (by decide) (by decide) (by rw [hml]; rfl) pd_17 rfl rfl rfl (Nat.le_of_eq rfl) d6_17 rfl (by decide) (by decide) ?_
    rintro r15 T16 L17 X18 ⟨rfl, rfl, e14⟩
    rw [List.append_nil] at X18
    show Go p e below _ (T16.setTop (mkF m 20 #[.val (.ref a), .val (.int ch), .val (.int (0 : Int32))] [(.int (own_ix3 ch u0 u1 u2))]))
    refine Go.goto (pc' := 36) X18 hx hby d6_20 (by decide) (by decide) ?_
    exact Go.retI X18 hx hby hlk hret d6_36 (by decide) (by decide) ⟨rfl, rfl, e14⟩
  ·
    refine Go.aloadN (pc' := 1) X0 hx hby d6_0 rfl rfl rfl ?_
    refine Go.callV (C := "java/lang/String") (pc' := 4) (a := a) (W := 0) (argsL := []) (rest := []) X0 hx hby hZ hown (hw _ (List.mem_of_getElem? (i := 37) rfl)) (hw _ (List.mem_of_getElem? (i := 38) rfl)) (notFace_of_selects (args := #[]) (mvT hZ (hw _ (List.mem_of_getElem? (i := 40) rfl)))) (hw _ (List.mem_of_getElem? (i := 40) rfl)) (hw _ (List.mem_of_getElem? (i := 39) rfl)) (hw _ (List.mem_of_getElem? (i := 4) rfl)) (hw _ (List.mem_of_getElem? (i := 41) rfl)) (by decide) (rmIL1 l Z a0 hw a h0 n0 kk sf O0 SS F2) e0 E0 (by decide) (by decide) (by rw [hml]; rfl) pd_3 rfl rfl rfl (Nat.le_of_eq rfl) d6_1 rfl (by decide) (by decide) ?_
    rintro r20 T21 L22 X23 ⟨rfl, rfl, e19⟩
    rw [List.append_nil] at X23
    show Go p e below _ (T21.setTop (mkF m 4 #[.val (.ref a), .val (.int ch), .val (.int (0 : Int32))] [(.int (0 : Int32))]))
    refine Go.ifY (pc' := 23) X23 hx hby d6_4 (by decide) (by decide) (show (0 : Int32) = 0 from by decide) ?_
    refine Go.aloadN (pc' := 24) X23 hx hby d6_23 rfl rfl rfl ?_
    refine Go.getF (pc' := 27) X23 hx hby hZ hown (hw _ (List.mem_of_getElem? (i := 21) rfl)) Via.refl e19 F1 d6_24 rfl ?_
    intro T24 X25 e26
    refine Go.iloadN (pc' := 28) X25 hx hby d6_27 rfl rfl ?_
    refine Go.iloadN (pc' := 29) X25 hx hby d6_28 rfl rfl ?_
    refine Go.aloadN (pc' := 30) X25 hx hby d6_29 rfl rfl rfl ?_
    refine Go.callV (C := "java/lang/String") (pc' := 33) (a := a) (W := 3) (argsL := []) (rest := [(.int (0 : Int32)), (.int ch), (.ref b)]) X25 hx hby hZ hown (hw _ (List.mem_of_getElem? (i := 43) rfl)) (hw _ (List.mem_of_getElem? (i := 44) rfl)) (notFace_of_selects (args := #[]) (mvT hZ (hw _ (List.mem_of_getElem? (i := 46) rfl)))) (hw _ (List.mem_of_getElem? (i := 46) rfl)) (hw _ (List.mem_of_getElem? (i := 45) rfl)) (hw _ (List.mem_of_getElem? (i := 4) rfl)) (hw _ (List.mem_of_getElem? (i := 47) rfl)) (by decide) (rmLE3_1 l Z a0 hw a h0 n0 kk sf b _ O0 SS E0 F1 F2 A0) e26 E0 (by decide) (by decide) (by rw [hml]; rfl) pd_1 rfl rfl rfl (Nat.le_of_eq rfl) d6_30 rfl (by decide) (by decide) ?_
    rintro r28 T29 L30 X31 ⟨rfl, rfl, e27⟩
    rw [List.append_nil] at X31
    show Go p e below _ (T29.setTop (mkF m 33 #[.val (.ref a), .val (.int ch), .val (.int (0 : Int32))] [(.int (3 : Int32)), (.int (0 : Int32)), (.int ch), (.ref b)]))
    refine Go.callS (pc' := 36) (W := 0) (argsL := [(.ref b), (.int ch), (.int (0 : Int32)), (.int (3 : Int32))]) (rest := []) X31 hx hby hZ hown (hw _ (List.mem_of_getElem? (i := 103) rfl)) (hw _ (List.mem_of_getElem? (i := 104) rfl)) (hw _ (List.mem_of_getElem? (i := 69) rfl)) (hw _ (List.mem_of_getElem? (i := 105) rfl)) (by decide) (rmUI3 l Z a0 hw b ch 0 3 h0 n0 kk sf u0 u1 u2 hch O0 SS B0 B1 B2 rfl rfl A0) e27 (by decide) (by decide) (by rw [hml]; rfl) pd_17 rfl rfl rfl (Nat.le_of_eq rfl) d6_33 rfl (by decide) (by decide) ?_
    rintro r33 T34 L35 X36 ⟨rfl, rfl, e32⟩
    rw [List.append_nil] at X36
    show Go p e below _ (T34.setTop (mkF m 36 #[.val (.ref a), .val (.int ch), .val (.int (0 : Int32))] [(.int (own_ix3 ch u0 u1 u2))]))
    exact Go.retI X36 hx hby hlk hret d6_36 (by decide) (by decide) ⟨rfl, rfl, e32⟩
set_option maxRecDepth 65536 in
set_option maxHeartbeats 40000000 in
theorem rmJ1_3 (l : Launch) (Z : State) (a0 : Array Value) (hw : ∀ d ∈ tables_1, d.before a0 Z = true) (a : Addr) (ch : Int32) (h0 : Heap) (n0 : Nat) (kk : Int32) (sf : Value) (u0 u1 u2 : Int32) (O0 : Old Z n0 h0) (SS : own_S Z kk sf) (B0 : 0 ≤ u0.toInt ∧ u0.toInt ≤ 65535) (B1 : 0 ≤ u1.toInt ∧ u1.toInt ≤ 65535) (B2 : 0 ≤ u2.toInt ∧ u2.toInt ≤ 65535) (hch : ch = 9 ∨ ch = 10) (S0 : own_str3 Z h0 a u0 u1 u2) :
    Con l Z (⟨"java/lang/String", "indexOf", "(I)I"⟩ : MethodName) jdk_42_method_79_code 2 (some .int) [] ({ frames := 6, cells := 0, slots := 0, locals := 87 } : Room) #[(.ref a), (.int ch)] h0 (PQ (some (.int (own_ix3 ch u0 u1 u2))) h0) := by
  refine Con.of (plainFor_of_name pn_String) ?_
  intro p e s m below meth c s₁ hx hby hml hown hnm hret hlk hZ X0 e0
  refine Go.cast (ef_5 m a ch) ?_
  replace hown : s.vm.findClass "java/lang/String" = some m.cls := hown
  obtain ⟨bx, E0, -⟩ := id S0
  refine Go.aloadN (pc' := 1) X0 hx hby d5_0 rfl rfl rfl ?_
  refine Go.iloadN (pc' := 2) X0 hx hby d5_1 rfl rfl ?_
  refine Go.iconst (pc' := 3) X0 hx hby d5_2 rfl (v := (0 : Int32)) (by decide) ?_
  refine Go.callV (C := "java/lang/String") (pc' := 6) (a := a) (W := 0) (argsL := [(.int ch), (.int (0 : Int32))]) (rest := []) X0 hx hby hZ hown (hw _ (List.mem_of_getElem? (i := 32) rfl)) (hw _ (List.mem_of_getElem? (i := 33) rfl)) (notFace_of_selects (args := #[]) (mvT hZ (hw _ (List.mem_of_getElem? (i := 35) rfl)))) (hw _ (List.mem_of_getElem? (i := 35) rfl)) (hw _ (List.mem_of_getElem? (i := 34) rfl)) (hw _ (List.mem_of_getElem? (i := 4) rfl)) (hw _ (List.mem_of_getElem? (i := 36) rfl)) (by decide) (rmJ2_3 l Z a0 hw a ch 0 h0 n0 kk sf u0 u1 u2 O0 SS B0 B1 B2 hch S0 rfl) e0 E0 (by decide) (by decide) (by rw [hml]; rfl) pd_8 rfl rfl rfl (Nat.le_of_eq rfl) d5_3 rfl (by decide) (by decide) ?_
  rintro r2 T3 L4 X5 ⟨rfl, rfl, e1⟩
  rw [List.append_nil] at X5
  show Go p e below _ (T3.setTop (mkF m 6 #[.val (.ref a), .val (.int ch)] [(.int (own_ix3 ch u0 u1 u2))]))
  exact Go.retI X5 hx hby hlk hret d5_6 (by decide) (by decide) ⟨rfl, rfl, e1⟩
def own_can3 (u0 u1 u2 : Int32) : Int32 := if 0 ≤ own_ix3 9 u0 u1 u2 then 0 else if 0 ≤ own_ix3 10 u0 u1 u2 then 0 else 1
set_option maxRecDepth 65536 in
set_option maxHeartbeats 40000000 in
theorem rmCH3 (l : Launch) (Z : State) (a0 : Array Value) (hw : ∀ d ∈ tables_1, d.before a0 Z = true) (a : Addr) (h0 : Heap) (n0 : Nat) (kk : Int32) (sf : Value) (u0 u1 u2 : Int32) (O0 : Old Z n0 h0) (SS : own_S Z kk sf) (B0 : 0 ≤ u0.toInt ∧ u0.toInt ≤ 65535) (B1 : 0 ≤ u1.toInt ∧ u1.toInt ≤ 65535) (B2 : 0 ≤ u2.toInt ∧ u2.toInt ≤ 65535) (S0 : own_str3 Z h0 a u0 u1 u2) :
    Con l Z (⟨"com/example/tame_recursion/tamerecursion/io/FactsFile", "canHold", "(Ljava/lang/String;)Z"⟩ : MethodName) prog_42_method_5_code 1 (some .boolean) [] ({ frames := 7, cells := 0, slots := 0, locals := 100 } : Room) #[(.ref a)] h0 (PQ (some (.int (own_can3 u0 u1 u2))) h0) := by
  refine Con.of (plainFor_of_name pn_FactsFile) ?_
  intro p e s m below meth c s₁ hx hby hml hown hnm hret hlk hZ X0 e0
  refine Go.cast (ef_4 m a) ?_
  replace hown : s.vm.findClass "com/example/tame_recursion/tamerecursion/io/FactsFile" = some m.cls := hown
  obtain ⟨bx, E0, -⟩ := id S0
  refine Go.aloadN (pc' := 1) X0 hx hby d4_0 rfl rfl rfl ?_
  refine Go.bipush (pc' := 3) X0 hx hby d4_1 rfl (v := (9 : Int32)) (by decide) ?_
  refine Go.callV (C := "java/lang/String") (pc' := 6) (a := a) (W := 0) (argsL := [(.int (9 : Int32))]) (rest := []) X0 hx hby hZ hown (hw _ (List.mem_of_getElem? (i := 27) rfl)) (hw _ (List.mem_of_getElem? (i := 28) rfl)) (notFace_of_selects (args := #[]) (mvT hZ (hw _ (List.mem_of_getElem? (i := 30) rfl)))) (hw _ (List.mem_of_getElem? (i := 30) rfl)) (hw _ (List.mem_of_getElem? (i := 29) rfl)) (hw _ (List.mem_of_getElem? (i := 4) rfl)) (hw _ (List.mem_of_getElem? (i := 31) rfl)) (by decide) (rmJ1_3 l Z a0 hw a 9 h0 n0 kk sf u0 u1 u2 O0 SS B0 B1 B2 (by decide) S0) e0 E0 (by decide) (by decide) (by rw [hml]; rfl) pd_5 rfl rfl rfl (Nat.le_of_eq rfl) d4_3 rfl (by decide) (by decide) ?_
  rintro r2 T3 L4 X5 ⟨rfl, rfl, e1⟩
  rw [List.append_nil] at X5
  show Go p e below _ (T3.setTop (mkF m 6 #[.val (.ref a)] [(.int (own_ix3 9 u0 u1 u2))]))
  refine Go.if_ (pc' := 22) (pn := 9) X5 hx hby d4_6 (by decide) (by decide) rfl (fun (c6 : 0 ≤ (own_ix3 9 u0 u1 u2)) => ?_) (fun (c6 : ¬ (0 ≤ (own_ix3 9 u0 u1 u2))) => ?_)
  ·
    refine Go.iconst (pc' := 23) X5 hx hby d4_22 rfl (v := (0 : Int32)) (by decide) ?_
    have g : own_can3 u0 u1 u2 = (0 : Int32) := by unfold own_can3; rw [if_pos c6]
    exact Go.retZ X5 hx hby hlk hret (by simp) d4_23 (by decide) (by decide) ⟨by rw [g]; rfl, rfl, e1⟩
  ·
    refine Go.aloadN (pc' := 10) X5 hx hby d4_9 rfl rfl rfl ?_
    refine Go.bipush (pc' := 12) X5 hx hby d4_10 rfl (v := (10 : Int32)) (by decide) ?_
    refine Go.callV (C := "java/lang/String") (pc' := 15) (a := a) (W := 0) (argsL := [(.int (10 : Int32))]) (rest := []) X5 hx hby hZ hown (hw _ (List.mem_of_getElem? (i := 27) rfl)) (hw _ (List.mem_of_getElem? (i := 28) rfl)) (notFace_of_selects (args := #[]) (mvT hZ (hw _ (List.mem_of_getElem? (i := 30) rfl)))) (hw _ (List.mem_of_getElem? (i := 30) rfl)) (hw _ (List.mem_of_getElem? (i := 29) rfl)) (hw _ (List.mem_of_getElem? (i := 4) rfl)) (hw _ (List.mem_of_getElem? (i := 31) rfl)) (by decide) (rmJ1_3 l Z a0 hw a 10 h0 n0 kk sf u0 u1 u2 O0 SS B0 B1 B2 (by decide) S0) e1 E0 (by decide) (by decide) (by rw [hml]; rfl) pd_5 rfl rfl rfl (Nat.le_of_eq rfl) d4_12 rfl (by decide) (by decide) ?_
    rintro r8 T9 L10 X11 ⟨rfl, rfl, e7⟩
    rw [List.append_nil] at X11
    show Go p e below _ (T9.setTop (mkF m 15 #[.val (.ref a)] [(.int (own_ix3 10 u0 u1 u2))]))
    refine Go.if_ (pc' := 22) (pn := 18) X11 hx hby d4_15 (by decide) (by decide) rfl (fun (c12 : 0 ≤ (own_ix3 10 u0 u1 u2)) => ?_) (fun (c12 : ¬ (0 ≤ (own_ix3 10 u0 u1 u2))) => ?_)
    ·
      refine Go.iconst (pc' := 23) X11 hx hby d4_22 rfl (v := (0 : Int32)) (by decide) ?_
      have g : own_can3 u0 u1 u2 = (0 : Int32) := by unfold own_can3; rw [if_neg c6, if_pos c12]
      exact Go.retZ X11 hx hby hlk hret (by simp) d4_23 (by decide) (by decide) ⟨by rw [g]; rfl, rfl, e7⟩
    ·
      refine Go.iconst (pc' := 19) X11 hx hby d4_18 rfl (v := (1 : Int32)) (by decide) ?_
      refine Go.goto (pc' := 23) X11 hx hby d4_19 (by decide) (by decide) ?_
      have g : own_can3 u0 u1 u2 = (1 : Int32) := by unfold own_can3; rw [if_neg c6, if_neg c12]
      exact Go.retZ X11 hx hby hlk hret (by simp) d4_23 (by decide) (by decide) ⟨by rw [g]; rfl, rfl, e7⟩
theorem own_k1 (x u0 : Int32) : (0 ≤ own_ix1 x u0) = (u0 = x) := by
  unfold own_ix1; apply propext; split <;> simp_all
theorem own_k2 (x u0 u1 : Int32) : (0 ≤ own_ix2 x u0 u1) = (u0 = x ∨ u1 = x) := by
  unfold own_ix2; apply propext; (repeat' split) <;> simp_all
theorem own_k3 (x u0 u1 u2 : Int32) : (0 ≤ own_ix3 x u0 u1 u2) = (u0 = x ∨ u1 = x ∨ u2 = x) := by
  unfold own_ix3; apply propext; (repeat' split) <;> simp_all
theorem own_e0 (x : Int32) : (own_ends x = 0) = (x ≠ 9 ∧ x ≠ 10) := by
  unfold own_ends; apply propext; (repeat' split) <;> simp_all
theorem own_r0 (u0 u1 u2 : Int32) : own_can0 u0 u1 u2 = 1 := by unfold own_can0 own_ix0; decide
theorem own_r1 (u0 u1 u2 : Int32) : own_can1 u0 u1 u2 = if own_ends u0 = 0 then 1 else 0 := by
  unfold own_can1; simp only [own_k1, own_e0]
  by_cases a : u0 = 9 <;> by_cases b : u0 = 10 <;> simp_all
theorem own_r2 (u0 u1 u2 : Int32) : own_can2 u0 u1 u2 = if own_ends u0 = 0 then (if own_ends u1 = 0 then 1 else 0) else 0 := by
  unfold own_can2; simp only [own_k2, own_e0]
  by_cases a : u0 = 9 <;> by_cases b : u0 = 10 <;> by_cases c : u1 = 9 <;> by_cases d : u1 = 10 <;> simp_all
theorem own_r3 (u0 u1 u2 : Int32) : own_can3 u0 u1 u2 = if own_ends u0 = 0 then (if own_ends u1 = 0 then (if own_ends u2 = 0 then 1 else 0) else 0) else 0 := by
  unfold own_can3; simp only [own_k3, own_e0]
  by_cases a : u0 = 9 <;> by_cases b : u0 = 10 <;> by_cases c : u1 = 9 <;> by_cases d : u1 = 10 <;> by_cases e : u2 = 9 <;> by_cases f : u2 = 10 <;> simp_all
theorem own_eqi {args : Array Value} {first s : State} {o : Option Outcome} {idx : List Nat} {t : Jvm.Term} {n : Int32} (h : (Jvm.Cond.eq t (.int n)).value args first o s idx = some true) : t.eval args first o idx s = some (.int n) := by
  simp only [Cond.value, Term.eval] at h
  cases ht : t.eval args first o idx s with
  | none => simp [ht] at h
  | some x => cases x <;> simp [ht] at h ⊢; exact h
theorem own_nei {args : Array Value} {first s : State} {o : Option Outcome} {idx : List Nat} {t : Jvm.Term} {n k : Int32} (h : (Jvm.Cond.not (Jvm.Cond.eq t (.int n))).value args first o s idx = some true) (ev : t.eval args first o idx s = some (.int k)) : k ≠ n := by
  have q := not_v h
  simpa [Cond.value, Term.eval, ev] using q
theorem ef_0 (m : MethodId) (x0 : Int32) (x1 : Int32) (x2 : Int32) (x3 : Int32) : entryFrame m #[(.int x0), (.int x1), (.int x2), (.int x3)] maxLocals = mkF m 0 #[.val (.int x0), .val (.int x1), .val (.int x2), .val (.int x3), .unset, .unset, .unset, .unset, .unset, .unset, .unset, .unset, .unset, .unset, .unset] [] := by first | (simp [entryFrame, mkF, argsToLocals, Value.category, maxLocals]; done) | rfl
set_option maxRecDepth 65536 in
set_option maxHeartbeats 40000000 in
theorem rm0 (l : Launch) (Z : State) (a0 : Array Value) (hw : ∀ d ∈ tables_1, d.before a0 Z = true) (x0 : Int32) (x1 : Int32) (x2 : Int32) (x3 : Int32) (h0 : Heap) (kk : Int32) (sf : Value) (O0 : Old Z h0.size h0) (SS : own_S Z kk sf) (HZ : h0 = Z.heap) :
    ConH l Z own_EL x code maxLocals ret tables_1 room_1 #[(.int x0), (.int x1), (.int x2), (.int x3)] h0 (LQ h0.size) := by
  refine ConH.of (plainFor_of_name pn_FactsFileCanHoldPinLaw) ?_
  intro p e s m below meth c s₁ hx hby hml hown hnm hret hlk hZ hS hC X0 e0
  refine Go.cast (ef_0 m x0 x1 x2 x3) ?_
  change c.maxLocals = 15 at hml
  replace hown : (s.setVm s.vm).vm.findClass "com/example/tame_recursion/tamerecursion/io/FactsFileCanHoldPinLaw" = some m.cls := hown
  have HC : CHv Z own_EL s.vm Z.heap := HZ ▸ hC
  refine Go.iloadN (pc' := 1) X0 hx hby at_0 rfl rfl ?_
  refine Go.iconst (pc' := 2) X0 hx hby at_1 rfl (v := (3 : Int32)) (by decide) ?_
  refine Go.iand (pc' := 3) X0 hx hby at_2 rfl ?_
  refine Go.nmI (fun (nn : Int32) (hnn : nn = x0 &&& (3 : Int32)) => ?_)
  refine Go.istore (Ls' := #[.val (.int x0), .val (.int x1), .val (.int x2), .val (.int x3), .val (.int nn), .unset, .unset, .unset, .unset, .unset, .unset, .unset, .unset, .unset, .unset]) (pc' := 5) X0 hx hby at_3 rfl rfl ?_
  refine Go.iloadN (pc' := 6) X0 hx hby at_5 rfl rfl ?_
  refine Go.ldcI (pc' := 8) X0 hx hby at_6 rfl hown (mvT hZ (hw _ (List.mem_of_getElem? (i := 0) rfl))) ?_
  refine Go.iand (pc' := 9) X0 hx hby at_8 rfl ?_
  refine Go.i2c (pc' := 10) X0 hx hby at_9 rfl ?_
  refine Go.nmI (fun (u0 : Int32) (hu0 : u0 = (x1 &&& (65535 : Int32)).toUInt32.toUInt16.toUInt32.toInt32) => ?_)
  refine Go.istore (Ls' := #[.val (.int x0), .val (.int x1), .val (.int x2), .val (.int x3), .val (.int nn), .val (.int u0), .unset, .unset, .unset, .unset, .unset, .unset, .unset, .unset, .unset]) (pc' := 12) X0 hx hby at_10 rfl rfl ?_
  refine Go.iloadN (pc' := 13) X0 hx hby at_12 rfl rfl ?_
  refine Go.ldcI (pc' := 15) X0 hx hby at_13 rfl hown (mvT hZ (hw _ (List.mem_of_getElem? (i := 0) rfl))) ?_
  refine Go.iand (pc' := 16) X0 hx hby at_15 rfl ?_
  refine Go.i2c (pc' := 17) X0 hx hby at_16 rfl ?_
  refine Go.nmI (fun (u1 : Int32) (hu1 : u1 = (x2 &&& (65535 : Int32)).toUInt32.toUInt16.toUInt32.toInt32) => ?_)
  refine Go.istore (Ls' := #[.val (.int x0), .val (.int x1), .val (.int x2), .val (.int x3), .val (.int nn), .val (.int u0), .val (.int u1), .unset, .unset, .unset, .unset, .unset, .unset, .unset, .unset]) (pc' := 19) X0 hx hby at_17 rfl rfl ?_
  refine Go.iloadN (pc' := 20) X0 hx hby at_19 rfl rfl ?_
  refine Go.ldcI (pc' := 22) X0 hx hby at_20 rfl hown (mvT hZ (hw _ (List.mem_of_getElem? (i := 0) rfl))) ?_
  refine Go.iand (pc' := 23) X0 hx hby at_22 rfl ?_
  refine Go.i2c (pc' := 24) X0 hx hby at_23 rfl ?_
  refine Go.nmI (fun (u2 : Int32) (hu2 : u2 = (x3 &&& (65535 : Int32)).toUInt32.toUInt16.toUInt32.toInt32) => ?_)
  refine Go.istore (Ls' := #[.val (.int x0), .val (.int x1), .val (.int x2), .val (.int x3), .val (.int nn), .val (.int u0), .val (.int u1), .val (.int u2), .unset, .unset, .unset, .unset, .unset, .unset, .unset]) (pc' := 26) X0 hx hby at_24 rfl rfl ?_
  refine Go.iconst (pc' := 27) X0 hx hby at_26 rfl (v := (0 : Int32)) (by decide) ?_
  have B0 := own_ch hu0
  have B1 := own_ch hu1
  have B2 := own_ch hu2
  refine Go.newarr (pc' := 29) (cap := 0) (z := 0) X0 hx hby hZ (hw _ (List.mem_of_getElem? (i := 1) rfl)) e0 at_27 rfl (by decide) (by decide) (by decide) (by decide) (by decide) (by decide) ?_
  intro b1 T2 h3 g4 X5 e6 E7 A8
  have g9 : h0.size ≤ b1 := by rw [g4]; exact (Nat.le_refl _)
  have f10 : Old Z h0.size h3 := O0.ext E7
  have z11 : h0.size ≤ h3.size := Nat.le_trans (Nat.le_refl _) E7.1
  have f12 : Ar Z h3 b1 .char 0 (fun _ => (.int 0)) := A8
  show Go p e below _ (T2.setTop (mkF m 29 #[.val (.int x0), .val (.int x1), .val (.int x2), .val (.int x3), .val (.int nn), .val (.int u0), .val (.int u1), .val (.int u2), .unset, .unset, .unset, .unset, .unset, .unset, .unset] [(.ref b1)]))
  refine Go.astore (Ls' := #[.val (.int x0), .val (.int x1), .val (.int x2), .val (.int x3), .val (.int nn), .val (.int u0), .val (.int u1), .val (.int u2), .val (.ref b1), .unset, .unset, .unset, .unset, .unset, .unset]) (pc' := 31) X5 hx hby at_29 rfl rfl rfl ?_
  refine Go.iconst (pc' := 32) X5 hx hby at_31 rfl (v := (1 : Int32)) (by decide) ?_
  refine Go.newarr (pc' := 34) (cap := 1) (z := 1) X5 hx hby hZ (hw _ (List.mem_of_getElem? (i := 1) rfl)) e6 at_32 rfl (by decide) (by decide) (by decide) (by decide) (by decide) (by decide) ?_
  intro b13 T14 h15 g16 X17 e18 E19 A20
  have n21 : b1 ≠ b13 := Nat.ne_of_lt (by rw [g16]; exact f12.lt)
  have g22 : h0.size ≤ b13 := by rw [g16]; exact z11
  have f23 : Old Z h0.size h15 := f10.ext E19
  have f24 : Ar Z h15 b1 .char 0 (fun _ => (.int 0)) := f12.ext E19
  have z25 : h0.size ≤ h15.size := Nat.le_trans z11 E19.1
  have f26 : Ar Z h15 b13 .char 1 (fun _ => (.int 0)) := A20
  show Go p e below _ (T14.setTop (mkF m 34 #[.val (.int x0), .val (.int x1), .val (.int x2), .val (.int x3), .val (.int nn), .val (.int u0), .val (.int u1), .val (.int u2), .val (.ref b1), .unset, .unset, .unset, .unset, .unset, .unset] [(.ref b13)]))
  refine Go.astore (Ls' := #[.val (.int x0), .val (.int x1), .val (.int x2), .val (.int x3), .val (.int nn), .val (.int u0), .val (.int u1), .val (.int u2), .val (.ref b1), .val (.ref b13), .unset, .unset, .unset, .unset, .unset]) (pc' := 36) X17 hx hby at_34 rfl rfl rfl ?_
  refine Go.iconst (pc' := 37) X17 hx hby at_36 rfl (v := (2 : Int32)) (by decide) ?_
  refine Go.newarr (pc' := 39) (cap := 2) (z := 2) X17 hx hby hZ (hw _ (List.mem_of_getElem? (i := 1) rfl)) e18 at_37 rfl (by decide) (by decide) (by decide) (by decide) (by decide) (by decide) ?_
  intro b27 T28 h29 g30 X31 e32 E33 A34
  have n35 : b1 ≠ b27 := Nat.ne_of_lt (by rw [g30]; exact f24.lt)
  have n36 : b13 ≠ b27 := Nat.ne_of_lt (by rw [g30]; exact f26.lt)
  have g37 : h0.size ≤ b27 := by rw [g30]; exact z25
  have f38 : Old Z h0.size h29 := f23.ext E33
  have f39 : Ar Z h29 b1 .char 0 (fun _ => (.int 0)) := f24.ext E33
  have f40 : Ar Z h29 b13 .char 1 (fun _ => (.int 0)) := f26.ext E33
  have z41 : h0.size ≤ h29.size := Nat.le_trans z25 E33.1
  have f42 : Ar Z h29 b27 .char 2 (fun _ => (.int 0)) := A34
  show Go p e below _ (T28.setTop (mkF m 39 #[.val (.int x0), .val (.int x1), .val (.int x2), .val (.int x3), .val (.int nn), .val (.int u0), .val (.int u1), .val (.int u2), .val (.ref b1), .val (.ref b13), .unset, .unset, .unset, .unset, .unset] [(.ref b27)]))
  refine Go.astore (Ls' := #[.val (.int x0), .val (.int x1), .val (.int x2), .val (.int x3), .val (.int nn), .val (.int u0), .val (.int u1), .val (.int u2), .val (.ref b1), .val (.ref b13), .val (.ref b27), .unset, .unset, .unset, .unset]) (pc' := 41) X31 hx hby at_39 rfl rfl rfl ?_
  refine Go.iconst (pc' := 42) X31 hx hby at_41 rfl (v := (3 : Int32)) (by decide) ?_
  refine Go.newarr (pc' := 44) (cap := 3) (z := 3) X31 hx hby hZ (hw _ (List.mem_of_getElem? (i := 1) rfl)) e32 at_42 rfl (by decide) (by decide) (by decide) (by decide) (by decide) (by decide) ?_
  intro b43 T44 h45 g46 X47 e48 E49 A50
  have n51 : b1 ≠ b43 := Nat.ne_of_lt (by rw [g46]; exact f39.lt)
  have n52 : b13 ≠ b43 := Nat.ne_of_lt (by rw [g46]; exact f40.lt)
  have n53 : b27 ≠ b43 := Nat.ne_of_lt (by rw [g46]; exact f42.lt)
  have g54 : h0.size ≤ b43 := by rw [g46]; exact z41
  have f55 : Old Z h0.size h45 := f38.ext E49
  have f56 : Ar Z h45 b1 .char 0 (fun _ => (.int 0)) := f39.ext E49
  have f57 : Ar Z h45 b13 .char 1 (fun _ => (.int 0)) := f40.ext E49
  have f58 : Ar Z h45 b27 .char 2 (fun _ => (.int 0)) := f42.ext E49
  have z59 : h0.size ≤ h45.size := Nat.le_trans z41 E49.1
  have f60 : Ar Z h45 b43 .char 3 (fun _ => (.int 0)) := A50
  show Go p e below _ (T44.setTop (mkF m 44 #[.val (.int x0), .val (.int x1), .val (.int x2), .val (.int x3), .val (.int nn), .val (.int u0), .val (.int u1), .val (.int u2), .val (.ref b1), .val (.ref b13), .val (.ref b27), .unset, .unset, .unset, .unset] [(.ref b43)]))
  refine Go.astore (Ls' := #[.val (.int x0), .val (.int x1), .val (.int x2), .val (.int x3), .val (.int nn), .val (.int u0), .val (.int u1), .val (.int u2), .val (.ref b1), .val (.ref b13), .val (.ref b27), .val (.ref b43), .unset, .unset, .unset]) (pc' := 46) X47 hx hby at_44 rfl rfl rfl ?_
  refine Go.aload (pc' := 48) X47 hx hby at_46 rfl rfl rfl ?_
  refine Go.iconst (pc' := 49) X47 hx hby at_48 rfl (v := (0 : Int32)) (by decide) ?_
  refine Go.iload (pc' := 51) X47 hx hby at_49 rfl rfl ?_
  refine Go.castore (pc' := 52) (i := 0) X47 hx hby hZ e48 f57 at_51 rfl (by decide) (by decide) (by decide) ?_
  intro T61 h62 X63 e64 W65 A66
  have f67 : Old Z h0.size h62 := f55.wr W65 g22
  have f68 : Ar Z h62 b1 .char 0 (fun _ => (.int 0)) := f56.other W65 n21
  have f69 : Ar Z h62 b27 .char 2 (fun _ => (.int 0)) := f58.other W65 (Ne.symm n36)
  have f70 : Ar Z h62 b43 .char 3 (fun _ => (.int 0)) := f60.other W65 (Ne.symm n52)
  have z71 : h0.size ≤ h62.size := by rw [Wr.size W65]; exact z59
  have f72 : Ar Z h62 b13 .char 1 (fun q => if q = 0 then (.int (nar .char u0)) else (.int 0)) := A66
  have N73 : Fr h0.size _ := Fr.snoc X63 (Fr.nil _) g22
  show Go p e below _ (T61.setTop (mkF m 52 #[.val (.int x0), .val (.int x1), .val (.int x2), .val (.int x3), .val (.int nn), .val (.int u0), .val (.int u1), .val (.int u2), .val (.ref b1), .val (.ref b13), .val (.ref b27), .val (.ref b43), .unset, .unset, .unset] []))
  refine Go.aload (pc' := 54) X63 hx hby at_52 rfl rfl rfl ?_
  refine Go.iconst (pc' := 55) X63 hx hby at_54 rfl (v := (0 : Int32)) (by decide) ?_
  refine Go.iload (pc' := 57) X63 hx hby at_55 rfl rfl ?_
  refine Go.castore (pc' := 58) (i := 0) X63 hx hby hZ e64 f69 at_57 rfl (by decide) (by decide) (by decide) ?_
  intro T74 h75 X76 e77 W78 A79
  have f80 : Old Z h0.size h75 := f67.wr W78 g37
  have f81 : Ar Z h75 b1 .char 0 (fun _ => (.int 0)) := f68.other W78 n35
  have f82 : Ar Z h75 b13 .char 1 (fun q => if q = 0 then (.int (nar .char u0)) else (.int 0)) := f72.other W78 n36
  have f83 : Ar Z h75 b43 .char 3 (fun _ => (.int 0)) := f70.other W78 (Ne.symm n53)
  have z84 : h0.size ≤ h75.size := by rw [Wr.size W78]; exact z71
  have f85 : Ar Z h75 b27 .char 2 (fun q => if q = 0 then (.int (nar .char u0)) else (.int 0)) := A79
  have N86 : Fr h0.size _ := Fr.snoc X76 N73 g37
  show Go p e below _ (T74.setTop (mkF m 58 #[.val (.int x0), .val (.int x1), .val (.int x2), .val (.int x3), .val (.int nn), .val (.int u0), .val (.int u1), .val (.int u2), .val (.ref b1), .val (.ref b13), .val (.ref b27), .val (.ref b43), .unset, .unset, .unset] []))
  refine Go.aload (pc' := 60) X76 hx hby at_58 rfl rfl rfl ?_
  refine Go.iconst (pc' := 61) X76 hx hby at_60 rfl (v := (1 : Int32)) (by decide) ?_
  refine Go.iload (pc' := 63) X76 hx hby at_61 rfl rfl ?_
  refine Go.castore (pc' := 64) (i := 1) X76 hx hby hZ e77 f85 at_63 rfl (by decide) (by decide) (by decide) ?_
  intro T87 h88 X89 e90 W91 A92
  have f93 : Old Z h0.size h88 := f80.wr W91 g37
  have f94 : Ar Z h88 b1 .char 0 (fun _ => (.int 0)) := f81.other W91 n35
  have f95 : Ar Z h88 b13 .char 1 (fun q => if q = 0 then (.int (nar .char u0)) else (.int 0)) := f82.other W91 n36
  have f96 : Ar Z h88 b43 .char 3 (fun _ => (.int 0)) := f83.other W91 (Ne.symm n53)
  have z97 : h0.size ≤ h88.size := by rw [Wr.size W91]; exact z84
  have f98 : Ar Z h88 b27 .char 2 (fun q => if q = 1 then (.int (nar .char u1)) else if q = 0 then (.int (nar .char u0)) else (.int 0)) := A92
  have N99 : Fr h0.size _ := Fr.snoc X89 N86 g37
  show Go p e below _ (T87.setTop (mkF m 64 #[.val (.int x0), .val (.int x1), .val (.int x2), .val (.int x3), .val (.int nn), .val (.int u0), .val (.int u1), .val (.int u2), .val (.ref b1), .val (.ref b13), .val (.ref b27), .val (.ref b43), .unset, .unset, .unset] []))
  refine Go.aload (pc' := 66) X89 hx hby at_64 rfl rfl rfl ?_
  refine Go.iconst (pc' := 67) X89 hx hby at_66 rfl (v := (0 : Int32)) (by decide) ?_
  refine Go.iload (pc' := 69) X89 hx hby at_67 rfl rfl ?_
  refine Go.castore (pc' := 70) (i := 0) X89 hx hby hZ e90 f96 at_69 rfl (by decide) (by decide) (by decide) ?_
  intro T100 h101 X102 e103 W104 A105
  have f106 : Old Z h0.size h101 := f93.wr W104 g54
  have f107 : Ar Z h101 b1 .char 0 (fun _ => (.int 0)) := f94.other W104 n51
  have f108 : Ar Z h101 b13 .char 1 (fun q => if q = 0 then (.int (nar .char u0)) else (.int 0)) := f95.other W104 n52
  have f109 : Ar Z h101 b27 .char 2 (fun q => if q = 1 then (.int (nar .char u1)) else if q = 0 then (.int (nar .char u0)) else (.int 0)) := f98.other W104 n53
  have z110 : h0.size ≤ h101.size := by rw [Wr.size W104]; exact z97
  have f111 : Ar Z h101 b43 .char 3 (fun q => if q = 0 then (.int (nar .char u0)) else (.int 0)) := A105
  have N112 : Fr h0.size _ := Fr.snoc X102 N99 g54
  show Go p e below _ (T100.setTop (mkF m 70 #[.val (.int x0), .val (.int x1), .val (.int x2), .val (.int x3), .val (.int nn), .val (.int u0), .val (.int u1), .val (.int u2), .val (.ref b1), .val (.ref b13), .val (.ref b27), .val (.ref b43), .unset, .unset, .unset] []))
  refine Go.aload (pc' := 72) X102 hx hby at_70 rfl rfl rfl ?_
  refine Go.iconst (pc' := 73) X102 hx hby at_72 rfl (v := (1 : Int32)) (by decide) ?_
  refine Go.iload (pc' := 75) X102 hx hby at_73 rfl rfl ?_
  refine Go.castore (pc' := 76) (i := 1) X102 hx hby hZ e103 f111 at_75 rfl (by decide) (by decide) (by decide) ?_
  intro T113 h114 X115 e116 W117 A118
  have f119 : Old Z h0.size h114 := f106.wr W117 g54
  have f120 : Ar Z h114 b1 .char 0 (fun _ => (.int 0)) := f107.other W117 n51
  have f121 : Ar Z h114 b13 .char 1 (fun q => if q = 0 then (.int (nar .char u0)) else (.int 0)) := f108.other W117 n52
  have f122 : Ar Z h114 b27 .char 2 (fun q => if q = 1 then (.int (nar .char u1)) else if q = 0 then (.int (nar .char u0)) else (.int 0)) := f109.other W117 n53
  have z123 : h0.size ≤ h114.size := by rw [Wr.size W117]; exact z110
  have f124 : Ar Z h114 b43 .char 3 (fun q => if q = 1 then (.int (nar .char u1)) else if q = 0 then (.int (nar .char u0)) else (.int 0)) := A118
  have N125 : Fr h0.size _ := Fr.snoc X115 N112 g54
  show Go p e below _ (T113.setTop (mkF m 76 #[.val (.int x0), .val (.int x1), .val (.int x2), .val (.int x3), .val (.int nn), .val (.int u0), .val (.int u1), .val (.int u2), .val (.ref b1), .val (.ref b13), .val (.ref b27), .val (.ref b43), .unset, .unset, .unset] []))
  refine Go.aload (pc' := 78) X115 hx hby at_76 rfl rfl rfl ?_
  refine Go.iconst (pc' := 79) X115 hx hby at_78 rfl (v := (2 : Int32)) (by decide) ?_
  refine Go.iload (pc' := 81) X115 hx hby at_79 rfl rfl ?_
  refine Go.castore (pc' := 82) (i := 2) X115 hx hby hZ e116 f124 at_81 rfl (by decide) (by decide) (by decide) ?_
  intro T126 h127 X128 e129 W130 A131
  have f132 : Old Z h0.size h127 := f119.wr W130 g54
  have f133 : Ar Z h127 b1 .char 0 (fun _ => (.int 0)) := f120.other W130 n51
  have f134 : Ar Z h127 b13 .char 1 (fun q => if q = 0 then (.int (nar .char u0)) else (.int 0)) := f121.other W130 n52
  have f135 : Ar Z h127 b27 .char 2 (fun q => if q = 1 then (.int (nar .char u1)) else if q = 0 then (.int (nar .char u0)) else (.int 0)) := f122.other W130 n53
  have z136 : h0.size ≤ h127.size := by rw [Wr.size W130]; exact z123
  have f137 : Ar Z h127 b43 .char 3 (fun q => if q = 2 then (.int (nar .char u2)) else if q = 1 then (.int (nar .char u1)) else if q = 0 then (.int (nar .char u0)) else (.int 0)) := A131
  have N138 : Fr h0.size _ := Fr.snoc X128 N125 g54
  show Go p e below _ (T126.setTop (mkF m 82 #[.val (.int x0), .val (.int x1), .val (.int x2), .val (.int x3), .val (.int nn), .val (.int u0), .val (.int u1), .val (.int u2), .val (.ref b1), .val (.ref b13), .val (.ref b27), .val (.ref b43), .unset, .unset, .unset] []))
  have f139 : Ar Z h127 b13 .char 1 (fun q => .int (own_c u0 u1 u2 q)) := f134.congr (fun i h1 h2 => by have t : i = 0 := (by omega); rcases t with rfl <;> simp [own_c, own_nc B0, own_nc B1, own_nc B2])
  have f140 : Ar Z h127 b27 .char 2 (fun q => .int (own_c u0 u1 u2 q)) := f135.congr (fun i h1 h2 => by have t : i = 0 ∨ i = 1 := (by omega); rcases t with rfl | rfl <;> simp [own_c, own_nc B0, own_nc B1, own_nc B2])
  have f141 : Ar Z h127 b43 .char 3 (fun q => .int (own_c u0 u1 u2 q)) := f137.congr (fun i h1 h2 => by have t : i = 0 ∨ i = 1 ∨ i = 2 := (by omega); rcases t with rfl | rfl | rfl <;> simp [own_c, own_nc B0, own_nc B1, own_nc B2])
  refine Go.aload (pc' := 84) X128 hx hby at_82 rfl rfl rfl ?_
  refine Go.astore (Ls' := #[.val (.int x0), .val (.int x1), .val (.int x2), .val (.int x3), .val (.int nn), .val (.int u0), .val (.int u1), .val (.int u2), .val (.ref b1), .val (.ref b13), .val (.ref b27), .val (.ref b43), .val (.ref b43), .unset, .unset]) (pc' := 86) X128 hx hby at_84 rfl rfl rfl ?_
  rcases own_n4 hnn with q | q | q | q
  ·
    subst q
    show Go p e below _ (T126.setTop (mkF m 86 #[.val (.int x0), .val (.int x1), .val (.int x2), .val (.int x3), .val (.int (0 : Int32)), .val (.int u0), .val (.int u1), .val (.int u2), .val (.ref b1), .val (.ref b13), .val (.ref b27), .val (.ref b43), .val (.ref b43), .unset, .unset] []))
    refine Go.iload (pc' := 88) X128 hx hby at_86 rfl rfl ?_
    refine Go.ifN (pc' := 91) X128 hx hby at_88 rfl (show ¬ ((0 : Int32) ≠ 0) from by decide) ?_
    refine Go.aload (pc' := 93) X128 hx hby at_91 rfl rfl rfl ?_
    refine Go.astore (Ls' := #[.val (.int x0), .val (.int x1), .val (.int x2), .val (.int x3), .val (.int (0 : Int32)), .val (.int u0), .val (.int u1), .val (.int u2), .val (.ref b1), .val (.ref b13), .val (.ref b27), .val (.ref b43), .val (.ref b1), .unset, .unset]) (pc' := 95) X128 hx hby at_93 rfl rfl rfl ?_
    refine Go.goto (pc' := 121) X128 hx hby at_95 (by decide) (by decide) ?_
    refine Go.new_ (pc' := 124) X128 hx hby hZ hown (hw _ (List.mem_of_getElem? (i := 2) rfl)) (hw _ (List.mem_of_getElem? (i := 3) rfl)) (hw _ (List.mem_of_getElem? (i := 4) rfl)) e129 at_121 rfl (by decide) (by decide) ?_
    intro b142 T143 h144 g145 X146 e147 E148 A149 D150
    have n151 : b1 ≠ b142 := Nat.ne_of_lt (by rw [g145]; exact f133.lt)
    have n152 : b13 ≠ b142 := Nat.ne_of_lt (by rw [g145]; exact f139.lt)
    have n153 : b27 ≠ b142 := Nat.ne_of_lt (by rw [g145]; exact f140.lt)
    have n154 : b43 ≠ b142 := Nat.ne_of_lt (by rw [g145]; exact f141.lt)
    have g155 : h0.size ≤ b142 := by rw [g145]; exact z136
    have f156 : Old Z h0.size h144 := f132.ext E148
    have f157 : Ar Z h144 b1 .char 0 (fun _ => (.int 0)) := f133.ext E148
    have f158 : Ar Z h144 b13 .char 1 (fun q => .int (own_c u0 u1 u2 q)) := f139.ext E148
    have f159 : Ar Z h144 b27 .char 2 (fun q => .int (own_c u0 u1 u2 q)) := f140.ext E148
    have f160 : Ar Z h144 b43 .char 3 (fun q => .int (own_c u0 u1 u2 q)) := f141.ext E148
    have z161 : h0.size ≤ h144.size := Nat.le_trans z136 E148.1
    have f162 : Exa Z h144 b142 "java/lang/String" := A149
    have f163 : Fld Z h144 b142 "java/lang/String" "value" "[B" .null := D150 (Or.inr (hw _ (List.mem_of_getElem? (i := 17) rfl))) (ty := (.array .byte)) (by decide)
    have f164 : Fld Z h144 b142 "java/lang/String" "coder" "B" (.int 0) := D150 (Or.inr (hw _ (List.mem_of_getElem? (i := 18) rfl))) (ty := .byte) (by decide)
    show Go p e below _ (T143.setTop (mkF m 124 #[.val (.int x0), .val (.int x1), .val (.int x2), .val (.int x3), .val (.int (0 : Int32)), .val (.int u0), .val (.int u1), .val (.int u2), .val (.ref b1), .val (.ref b13), .val (.ref b27), .val (.ref b43), .val (.ref b1), .unset, .unset] [(.ref b142)]))
    refine Go.dup (pc' := 125) X146 hx hby at_124 rfl rfl ?_
    refine Go.aload (pc' := 127) X146 hx hby at_125 rfl rfl rfl ?_
    have HC1 : CHv Z own_EL s.vm h144 := CHv.ext f156.2 HC
    refine Go.callIH (pc' := 130) (a := b142) (W := 1) (argsL := [(.ref b1)]) (rest := [(.ref b142)]) X146 hx hby rfl hZ hown (hw _ (List.mem_of_getElem? (i := 5) rfl)) (hw _ (List.mem_of_getElem? (i := 6) rfl)) (hw _ (List.mem_of_getElem? (i := 4) rfl)) (hw _ (List.mem_of_getElem? (i := 7) rfl)) (by decide) (rmI1_0 l Z a0 hw b142 b1 h144 h0.size kk sf _ f156 SS z161 g155 f162 f163 f164 f157) e147 (by decide) (by decide) (by rw [hml]; rfl) pd_18 rfl rfl rfl (Nat.le_of_eq rfl) at_127 rfl (by decide) (by decide) hS (Nat.zero_le _) (own_ew (hw _ (List.mem_of_getElem? (i := 15) rfl))) HC1 ?_
    rintro r165 T166 L167 X168 S169 hZ170 hown171 g172 ⟨rfl, N1_, K1_, S1_⟩
    have O1_ := f156.keep K1_ (allS g155 all0)
    show Go p e below _ (T166.setTop (mkF m 130 #[.val (.int x0), .val (.int x1), .val (.int x2), .val (.int x3), .val (.int (0 : Int32)), .val (.int u0), .val (.int u1), .val (.int u2), .val (.ref b1), .val (.ref b13), .val (.ref b27), .val (.ref b43), .val (.ref b1), .unset, .unset] [(.ref b142)]))
    refine Go.astore (Ls' := #[.val (.int x0), .val (.int x1), .val (.int x2), .val (.int x3), .val (.int (0 : Int32)), .val (.int u0), .val (.int u1), .val (.int u2), .val (.ref b1), .val (.ref b13), .val (.ref b27), .val (.ref b43), .val (.ref b1), .val (.ref b142), .unset]) (pc' := 132) X168 hx hby at_130 rfl rfl rfl ?_
    refine Go.iconst (pc' := 133) X168 hx hby at_132 rfl (v := (1 : Int32)) (by decide) ?_
    refine Go.istore (Ls' := #[.val (.int x0), .val (.int x1), .val (.int x2), .val (.int x3), .val (.int (0 : Int32)), .val (.int u0), .val (.int u1), .val (.int u2), .val (.ref b1), .val (.ref b13), .val (.ref b27), .val (.ref b43), .val (.ref b1), .val (.ref b142), .val (.int (1 : Int32))]) (pc' := 135) X168 hx hby at_133 rfl rfl ?_
    refine Go.iload (pc' := 137) X168 hx hby at_135 rfl rfl ?_
    refine Go.ifY (pc' := 151) X168 hx hby at_137 (by decide) (by decide) (show (0 : Int32) ≤ 0 from by decide) ?_
    refine Go.iload (pc' := 153) X168 hx hby at_151 rfl rfl ?_
    refine Go.iconst (pc' := 154) X168 hx hby at_153 rfl (v := (1 : Int32)) (by decide) ?_
    refine Go.icmpY (pc' := 168) X168 hx hby at_154 (by decide) (by decide) (show (0 : Int32) ≤ (1 : Int32) from by decide) ?_
    refine Go.iload (pc' := 170) X168 hx hby at_168 rfl rfl ?_
    refine Go.iconst (pc' := 171) X168 hx hby at_170 rfl (v := (2 : Int32)) (by decide) ?_
    refine Go.icmpY (pc' := 185) X168 hx hby at_171 (by decide) (by decide) (show (0 : Int32) ≤ (2 : Int32) from by decide) ?_
    refine Go.aload (pc' := 187) X168 hx hby at_185 rfl rfl rfl ?_
    refine Go.callS (pc' := 190) (W := 0) (argsL := [(.ref b142)]) (rest := []) X168 hx hby hZ170 hown171 (hw _ (List.mem_of_getElem? (i := 23) rfl)) (hw _ (List.mem_of_getElem? (i := 24) rfl)) (hw _ (List.mem_of_getElem? (i := 25) rfl)) (hw _ (List.mem_of_getElem? (i := 26) rfl)) (by decide) (rmCH0 l Z a0 hw b142 T166.heap h0.size kk sf 0 0 0 O1_ SS own_z own_z own_z S1_) rfl (by decide) (by decide) (by rw [hml]; rfl) pd_12 rfl rfl rfl (Nat.le_of_eq rfl) at_187 rfl (by decide) (by decide) ?_
    rintro r174 T175 L176 X177 ⟨rfl, rfl, e173⟩
    rw [List.append_nil] at X177
    show Go p e below _ (T175.setTop (mkF m 190 #[.val (.int x0), .val (.int x1), .val (.int x2), .val (.int x3), .val (.int (0 : Int32)), .val (.int u0), .val (.int u1), .val (.int u2), .val (.ref b1), .val (.ref b13), .val (.ref b27), .val (.ref b43), .val (.ref b1), .val (.ref b142), .val (.int (1 : Int32))] [(.int (own_can0 0 0 0))]))
    refine Go.iload (pc' := 192) X177 hx hby at_190 rfl rfl ?_
    refine Go.icmpN (pc' := 195) X177 hx hby at_192 rfl (show ¬ ((own_can0 0 0 0) ≠ (1 : Int32)) from fun q => q (by rw [own_r0])) ?_
    refine Go.iconst (pc' := 196) X177 hx hby at_195 rfl (v := (1 : Int32)) (by decide) ?_
    refine Go.goto (pc' := 200) X177 hx hby at_196 (by decide) (by decide) ?_
    exact Go.retZW X177 hx hby hlk hret (by simp) at_200 (by decide) (by decide) S169 (by rw [e173]; exact (Nat.le_refl _)) ⟨rfl, (Fr.app N138 N1_)⟩
  ·
    subst q
    show Go p e below _ (T126.setTop (mkF m 86 #[.val (.int x0), .val (.int x1), .val (.int x2), .val (.int x3), .val (.int (1 : Int32)), .val (.int u0), .val (.int u1), .val (.int u2), .val (.ref b1), .val (.ref b13), .val (.ref b27), .val (.ref b43), .val (.ref b43), .unset, .unset] []))
    refine Go.iload (pc' := 88) X128 hx hby at_86 rfl rfl ?_
    refine Go.ifY (pc' := 98) X128 hx hby at_88 (by decide) (by decide) (show (1 : Int32) ≠ 0 from by decide) ?_
    refine Go.iload (pc' := 100) X128 hx hby at_98 rfl rfl ?_
    refine Go.iconst (pc' := 101) X128 hx hby at_100 rfl (v := (1 : Int32)) (by decide) ?_
    refine Go.icmpN (pc' := 104) X128 hx hby at_101 rfl (show ¬ ((1 : Int32) ≠ (1 : Int32)) from by decide) ?_
    refine Go.aload (pc' := 106) X128 hx hby at_104 rfl rfl rfl ?_
    refine Go.astore (Ls' := #[.val (.int x0), .val (.int x1), .val (.int x2), .val (.int x3), .val (.int (1 : Int32)), .val (.int u0), .val (.int u1), .val (.int u2), .val (.ref b1), .val (.ref b13), .val (.ref b27), .val (.ref b43), .val (.ref b13), .unset, .unset]) (pc' := 108) X128 hx hby at_106 rfl rfl rfl ?_
    refine Go.goto (pc' := 121) X128 hx hby at_108 (by decide) (by decide) ?_
    refine Go.new_ (pc' := 124) X128 hx hby hZ hown (hw _ (List.mem_of_getElem? (i := 2) rfl)) (hw _ (List.mem_of_getElem? (i := 3) rfl)) (hw _ (List.mem_of_getElem? (i := 4) rfl)) e129 at_121 rfl (by decide) (by decide) ?_
    intro b178 T179 h180 g181 X182 e183 E184 A185 D186
    have n187 : b1 ≠ b178 := Nat.ne_of_lt (by rw [g181]; exact f133.lt)
    have n188 : b13 ≠ b178 := Nat.ne_of_lt (by rw [g181]; exact f139.lt)
    have n189 : b27 ≠ b178 := Nat.ne_of_lt (by rw [g181]; exact f140.lt)
    have n190 : b43 ≠ b178 := Nat.ne_of_lt (by rw [g181]; exact f141.lt)
    have g191 : h0.size ≤ b178 := by rw [g181]; exact z136
    have f192 : Old Z h0.size h180 := f132.ext E184
    have f193 : Ar Z h180 b1 .char 0 (fun _ => (.int 0)) := f133.ext E184
    have f194 : Ar Z h180 b13 .char 1 (fun q => .int (own_c u0 u1 u2 q)) := f139.ext E184
    have f195 : Ar Z h180 b27 .char 2 (fun q => .int (own_c u0 u1 u2 q)) := f140.ext E184
    have f196 : Ar Z h180 b43 .char 3 (fun q => .int (own_c u0 u1 u2 q)) := f141.ext E184
    have z197 : h0.size ≤ h180.size := Nat.le_trans z136 E184.1
    have f198 : Exa Z h180 b178 "java/lang/String" := A185
    have f199 : Fld Z h180 b178 "java/lang/String" "value" "[B" .null := D186 (Or.inr (hw _ (List.mem_of_getElem? (i := 17) rfl))) (ty := (.array .byte)) (by decide)
    have f200 : Fld Z h180 b178 "java/lang/String" "coder" "B" (.int 0) := D186 (Or.inr (hw _ (List.mem_of_getElem? (i := 18) rfl))) (ty := .byte) (by decide)
    show Go p e below _ (T179.setTop (mkF m 124 #[.val (.int x0), .val (.int x1), .val (.int x2), .val (.int x3), .val (.int (1 : Int32)), .val (.int u0), .val (.int u1), .val (.int u2), .val (.ref b1), .val (.ref b13), .val (.ref b27), .val (.ref b43), .val (.ref b13), .unset, .unset] [(.ref b178)]))
    refine Go.dup (pc' := 125) X182 hx hby at_124 rfl rfl ?_
    refine Go.aload (pc' := 127) X182 hx hby at_125 rfl rfl rfl ?_
    refine Go.callI (pc' := 130) (a := b178) (W := 1) (argsL := [(.ref b13)]) (rest := [(.ref b178)]) X182 hx hby rfl hZ hown (hw _ (List.mem_of_getElem? (i := 5) rfl)) (hw _ (List.mem_of_getElem? (i := 6) rfl)) (hw _ (List.mem_of_getElem? (i := 4) rfl)) (hw _ (List.mem_of_getElem? (i := 7) rfl)) (by decide) (rmI1_1 l Z a0 hw b178 b13 h180 h0.size kk sf u0 u1 u2 f192 SS B0 B1 B2 z197 g191 f198 f199 f200 f194) e183 (by decide) (by decide) (by rw [hml]; rfl) pd_18 rfl rfl rfl (Nat.le_of_eq rfl) at_127 rfl (by decide) (by decide) ?_
    rintro r201 T202 L203 X204 ⟨rfl, N1_, K1_, S1_⟩
    have O1_ := f192.keep K1_ (allS g191 all0)
    show Go p e below _ (T202.setTop (mkF m 130 #[.val (.int x0), .val (.int x1), .val (.int x2), .val (.int x3), .val (.int (1 : Int32)), .val (.int u0), .val (.int u1), .val (.int u2), .val (.ref b1), .val (.ref b13), .val (.ref b27), .val (.ref b43), .val (.ref b13), .unset, .unset] [(.ref b178)]))
    refine Go.astore (Ls' := #[.val (.int x0), .val (.int x1), .val (.int x2), .val (.int x3), .val (.int (1 : Int32)), .val (.int u0), .val (.int u1), .val (.int u2), .val (.ref b1), .val (.ref b13), .val (.ref b27), .val (.ref b43), .val (.ref b13), .val (.ref b178), .unset]) (pc' := 132) X204 hx hby at_130 rfl rfl rfl ?_
    refine Go.iconst (pc' := 133) X204 hx hby at_132 rfl (v := (1 : Int32)) (by decide) ?_
    refine Go.istore (Ls' := #[.val (.int x0), .val (.int x1), .val (.int x2), .val (.int x3), .val (.int (1 : Int32)), .val (.int u0), .val (.int u1), .val (.int u2), .val (.ref b1), .val (.ref b13), .val (.ref b27), .val (.ref b43), .val (.ref b13), .val (.ref b178), .val (.int (1 : Int32))]) (pc' := 135) X204 hx hby at_133 rfl rfl ?_
    refine Go.iload (pc' := 137) X204 hx hby at_135 rfl rfl ?_
    refine Go.ifN (pc' := 140) X204 hx hby at_137 rfl (show ¬ ((1 : Int32) ≤ 0) from by decide) ?_
    refine Go.iload (pc' := 142) X204 hx hby at_140 rfl rfl ?_
    refine Go.callS (pc' := 145) (W := 0) (argsL := [(.int u0)]) (rest := []) X204 hx hby hZ hown (hw _ (List.mem_of_getElem? (i := 77) rfl)) (hw _ (List.mem_of_getElem? (i := 78) rfl)) (hw _ (List.mem_of_getElem? (i := 79) rfl)) (hw _ (List.mem_of_getElem? (i := 80) rfl)) (by decide) (rmEnd l Z a0 hw u0 T202.heap) rfl (by decide) (by decide) (by rw [hml]; rfl) pd_4 rfl rfl rfl (Nat.le_of_eq rfl) at_142 rfl (by decide) (by decide) ?_
    rintro r206 T207 L208 X209 ⟨rfl, rfl, e205⟩
    rw [List.append_nil] at X209
    show Go p e below _ (T207.setTop (mkF m 145 #[.val (.int x0), .val (.int x1), .val (.int x2), .val (.int x3), .val (.int (1 : Int32)), .val (.int u0), .val (.int u1), .val (.int u2), .val (.ref b1), .val (.ref b13), .val (.ref b27), .val (.ref b43), .val (.ref b13), .val (.ref b178), .val (.int (1 : Int32))] [(.int (own_ends u0))]))
    refine Go.if_ (pc' := 151) (pn := 148) X209 hx hby at_145 (by decide) (by decide) rfl (fun (c210 : (own_ends u0) = 0) => ?_) (fun (c210 : ¬ ((own_ends u0) = 0)) => ?_)
    ·
      refine Go.iload (pc' := 153) X209 hx hby at_151 rfl rfl ?_
      refine Go.iconst (pc' := 154) X209 hx hby at_153 rfl (v := (1 : Int32)) (by decide) ?_
      refine Go.icmpY (pc' := 168) X209 hx hby at_154 (by decide) (by decide) (show (1 : Int32) ≤ (1 : Int32) from by decide) ?_
      refine Go.iload (pc' := 170) X209 hx hby at_168 rfl rfl ?_
      refine Go.iconst (pc' := 171) X209 hx hby at_170 rfl (v := (2 : Int32)) (by decide) ?_
      refine Go.icmpY (pc' := 185) X209 hx hby at_171 (by decide) (by decide) (show (1 : Int32) ≤ (2 : Int32) from by decide) ?_
      refine Go.aload (pc' := 187) X209 hx hby at_185 rfl rfl rfl ?_
      refine Go.callS (pc' := 190) (W := 0) (argsL := [(.ref b178)]) (rest := []) X209 hx hby hZ hown (hw _ (List.mem_of_getElem? (i := 23) rfl)) (hw _ (List.mem_of_getElem? (i := 24) rfl)) (hw _ (List.mem_of_getElem? (i := 25) rfl)) (hw _ (List.mem_of_getElem? (i := 26) rfl)) (by decide) (rmCH1 l Z a0 hw b178 T202.heap h0.size kk sf u0 u1 u2 O1_ SS B0 B1 B2 S1_) e205 (by decide) (by decide) (by rw [hml]; rfl) pd_12 rfl rfl rfl (Nat.le_of_eq rfl) at_187 rfl (by decide) (by decide) ?_
      rintro r212 T213 L214 X215 ⟨rfl, rfl, e211⟩
      rw [List.append_nil] at X215
      show Go p e below _ (T213.setTop (mkF m 190 #[.val (.int x0), .val (.int x1), .val (.int x2), .val (.int x3), .val (.int (1 : Int32)), .val (.int u0), .val (.int u1), .val (.int u2), .val (.ref b1), .val (.ref b13), .val (.ref b27), .val (.ref b43), .val (.ref b13), .val (.ref b178), .val (.int (1 : Int32))] [(.int (own_can1 u0 u1 u2))]))
      refine Go.iload (pc' := 192) X215 hx hby at_190 rfl rfl ?_
      refine Go.icmpN (pc' := 195) X215 hx hby at_192 rfl (show ¬ ((own_can1 u0 u1 u2) ≠ (1 : Int32)) from fun q => q (by rw [own_r1]; simp [c210])) ?_
      refine Go.iconst (pc' := 196) X215 hx hby at_195 rfl (v := (1 : Int32)) (by decide) ?_
      refine Go.goto (pc' := 200) X215 hx hby at_196 (by decide) (by decide) ?_
      exact Go.retZW X215 hx hby hlk hret (by simp) at_200 (by decide) (by decide) hS (Nat.zero_le _) ⟨rfl, (Fr.app N138 N1_)⟩
    ·
      refine Go.iconst (pc' := 149) X209 hx hby at_148 rfl (v := (0 : Int32)) (by decide) ?_
      refine Go.istore (Ls' := #[.val (.int x0), .val (.int x1), .val (.int x2), .val (.int x3), .val (.int (1 : Int32)), .val (.int u0), .val (.int u1), .val (.int u2), .val (.ref b1), .val (.ref b13), .val (.ref b27), .val (.ref b43), .val (.ref b13), .val (.ref b178), .val (.int (0 : Int32))]) (pc' := 151) X209 hx hby at_149 rfl rfl ?_
      refine Go.iload (pc' := 153) X209 hx hby at_151 rfl rfl ?_
      refine Go.iconst (pc' := 154) X209 hx hby at_153 rfl (v := (1 : Int32)) (by decide) ?_
      refine Go.icmpY (pc' := 168) X209 hx hby at_154 (by decide) (by decide) (show (1 : Int32) ≤ (1 : Int32) from by decide) ?_
      refine Go.iload (pc' := 170) X209 hx hby at_168 rfl rfl ?_
      refine Go.iconst (pc' := 171) X209 hx hby at_170 rfl (v := (2 : Int32)) (by decide) ?_
      refine Go.icmpY (pc' := 185) X209 hx hby at_171 (by decide) (by decide) (show (1 : Int32) ≤ (2 : Int32) from by decide) ?_
      refine Go.aload (pc' := 187) X209 hx hby at_185 rfl rfl rfl ?_
      refine Go.callS (pc' := 190) (W := 0) (argsL := [(.ref b178)]) (rest := []) X209 hx hby hZ hown (hw _ (List.mem_of_getElem? (i := 23) rfl)) (hw _ (List.mem_of_getElem? (i := 24) rfl)) (hw _ (List.mem_of_getElem? (i := 25) rfl)) (hw _ (List.mem_of_getElem? (i := 26) rfl)) (by decide) (rmCH1 l Z a0 hw b178 T202.heap h0.size kk sf u0 u1 u2 O1_ SS B0 B1 B2 S1_) e205 (by decide) (by decide) (by rw [hml]; rfl) pd_12 rfl rfl rfl (Nat.le_of_eq rfl) at_187 rfl (by decide) (by decide) ?_
      rintro r217 T218 L219 X220 ⟨rfl, rfl, e216⟩
      rw [List.append_nil] at X220
      show Go p e below _ (T218.setTop (mkF m 190 #[.val (.int x0), .val (.int x1), .val (.int x2), .val (.int x3), .val (.int (1 : Int32)), .val (.int u0), .val (.int u1), .val (.int u2), .val (.ref b1), .val (.ref b13), .val (.ref b27), .val (.ref b43), .val (.ref b13), .val (.ref b178), .val (.int (0 : Int32))] [(.int (own_can1 u0 u1 u2))]))
      refine Go.iload (pc' := 192) X220 hx hby at_190 rfl rfl ?_
      refine Go.icmpN (pc' := 195) X220 hx hby at_192 rfl (show ¬ ((own_can1 u0 u1 u2) ≠ (0 : Int32)) from fun q => q (by rw [own_r1]; simp [c210])) ?_
      refine Go.iconst (pc' := 196) X220 hx hby at_195 rfl (v := (1 : Int32)) (by decide) ?_
      refine Go.goto (pc' := 200) X220 hx hby at_196 (by decide) (by decide) ?_
      exact Go.retZW X220 hx hby hlk hret (by simp) at_200 (by decide) (by decide) hS (Nat.zero_le _) ⟨rfl, (Fr.app N138 N1_)⟩
  ·
    subst q
    show Go p e below _ (T126.setTop (mkF m 86 #[.val (.int x0), .val (.int x1), .val (.int x2), .val (.int x3), .val (.int (2 : Int32)), .val (.int u0), .val (.int u1), .val (.int u2), .val (.ref b1), .val (.ref b13), .val (.ref b27), .val (.ref b43), .val (.ref b43), .unset, .unset] []))
    refine Go.iload (pc' := 88) X128 hx hby at_86 rfl rfl ?_
    refine Go.ifY (pc' := 98) X128 hx hby at_88 (by decide) (by decide) (show (2 : Int32) ≠ 0 from by decide) ?_
    refine Go.iload (pc' := 100) X128 hx hby at_98 rfl rfl ?_
    refine Go.iconst (pc' := 101) X128 hx hby at_100 rfl (v := (1 : Int32)) (by decide) ?_
    refine Go.icmpY (pc' := 111) X128 hx hby at_101 (by decide) (by decide) (show (2 : Int32) ≠ (1 : Int32) from by decide) ?_
    refine Go.iload (pc' := 113) X128 hx hby at_111 rfl rfl ?_
    refine Go.iconst (pc' := 114) X128 hx hby at_113 rfl (v := (2 : Int32)) (by decide) ?_
    refine Go.icmpN (pc' := 117) X128 hx hby at_114 rfl (show ¬ ((2 : Int32) ≠ (2 : Int32)) from by decide) ?_
    refine Go.aload (pc' := 119) X128 hx hby at_117 rfl rfl rfl ?_
    refine Go.astore (Ls' := #[.val (.int x0), .val (.int x1), .val (.int x2), .val (.int x3), .val (.int (2 : Int32)), .val (.int u0), .val (.int u1), .val (.int u2), .val (.ref b1), .val (.ref b13), .val (.ref b27), .val (.ref b43), .val (.ref b27), .unset, .unset]) (pc' := 121) X128 hx hby at_119 rfl rfl rfl ?_
    refine Go.new_ (pc' := 124) X128 hx hby hZ hown (hw _ (List.mem_of_getElem? (i := 2) rfl)) (hw _ (List.mem_of_getElem? (i := 3) rfl)) (hw _ (List.mem_of_getElem? (i := 4) rfl)) e129 at_121 rfl (by decide) (by decide) ?_
    intro b221 T222 h223 g224 X225 e226 E227 A228 D229
    have n230 : b1 ≠ b221 := Nat.ne_of_lt (by rw [g224]; exact f133.lt)
    have n231 : b13 ≠ b221 := Nat.ne_of_lt (by rw [g224]; exact f139.lt)
    have n232 : b27 ≠ b221 := Nat.ne_of_lt (by rw [g224]; exact f140.lt)
    have n233 : b43 ≠ b221 := Nat.ne_of_lt (by rw [g224]; exact f141.lt)
    have g234 : h0.size ≤ b221 := by rw [g224]; exact z136
    have f235 : Old Z h0.size h223 := f132.ext E227
    have f236 : Ar Z h223 b1 .char 0 (fun _ => (.int 0)) := f133.ext E227
    have f237 : Ar Z h223 b13 .char 1 (fun q => .int (own_c u0 u1 u2 q)) := f139.ext E227
    have f238 : Ar Z h223 b27 .char 2 (fun q => .int (own_c u0 u1 u2 q)) := f140.ext E227
    have f239 : Ar Z h223 b43 .char 3 (fun q => .int (own_c u0 u1 u2 q)) := f141.ext E227
    have z240 : h0.size ≤ h223.size := Nat.le_trans z136 E227.1
    have f241 : Exa Z h223 b221 "java/lang/String" := A228
    have f242 : Fld Z h223 b221 "java/lang/String" "value" "[B" .null := D229 (Or.inr (hw _ (List.mem_of_getElem? (i := 17) rfl))) (ty := (.array .byte)) (by decide)
    have f243 : Fld Z h223 b221 "java/lang/String" "coder" "B" (.int 0) := D229 (Or.inr (hw _ (List.mem_of_getElem? (i := 18) rfl))) (ty := .byte) (by decide)
    show Go p e below _ (T222.setTop (mkF m 124 #[.val (.int x0), .val (.int x1), .val (.int x2), .val (.int x3), .val (.int (2 : Int32)), .val (.int u0), .val (.int u1), .val (.int u2), .val (.ref b1), .val (.ref b13), .val (.ref b27), .val (.ref b43), .val (.ref b27), .unset, .unset] [(.ref b221)]))
    refine Go.dup (pc' := 125) X225 hx hby at_124 rfl rfl ?_
    refine Go.aload (pc' := 127) X225 hx hby at_125 rfl rfl rfl ?_
    refine Go.callI (pc' := 130) (a := b221) (W := 1) (argsL := [(.ref b27)]) (rest := [(.ref b221)]) X225 hx hby rfl hZ hown (hw _ (List.mem_of_getElem? (i := 5) rfl)) (hw _ (List.mem_of_getElem? (i := 6) rfl)) (hw _ (List.mem_of_getElem? (i := 4) rfl)) (hw _ (List.mem_of_getElem? (i := 7) rfl)) (by decide) (rmI1_2 l Z a0 hw b221 b27 h223 h0.size kk sf u0 u1 u2 f235 SS B0 B1 B2 z240 g234 f241 f242 f243 f238) e226 (by decide) (by decide) (by rw [hml]; rfl) pd_18 rfl rfl rfl (Nat.le_of_eq rfl) at_127 rfl (by decide) (by decide) ?_
    rintro r244 T245 L246 X247 ⟨rfl, N1_, K1_, S1_⟩
    have O1_ := f235.keep K1_ (allS g234 all0)
    show Go p e below _ (T245.setTop (mkF m 130 #[.val (.int x0), .val (.int x1), .val (.int x2), .val (.int x3), .val (.int (2 : Int32)), .val (.int u0), .val (.int u1), .val (.int u2), .val (.ref b1), .val (.ref b13), .val (.ref b27), .val (.ref b43), .val (.ref b27), .unset, .unset] [(.ref b221)]))
    refine Go.astore (Ls' := #[.val (.int x0), .val (.int x1), .val (.int x2), .val (.int x3), .val (.int (2 : Int32)), .val (.int u0), .val (.int u1), .val (.int u2), .val (.ref b1), .val (.ref b13), .val (.ref b27), .val (.ref b43), .val (.ref b27), .val (.ref b221), .unset]) (pc' := 132) X247 hx hby at_130 rfl rfl rfl ?_
    refine Go.iconst (pc' := 133) X247 hx hby at_132 rfl (v := (1 : Int32)) (by decide) ?_
    refine Go.istore (Ls' := #[.val (.int x0), .val (.int x1), .val (.int x2), .val (.int x3), .val (.int (2 : Int32)), .val (.int u0), .val (.int u1), .val (.int u2), .val (.ref b1), .val (.ref b13), .val (.ref b27), .val (.ref b43), .val (.ref b27), .val (.ref b221), .val (.int (1 : Int32))]) (pc' := 135) X247 hx hby at_133 rfl rfl ?_
    refine Go.iload (pc' := 137) X247 hx hby at_135 rfl rfl ?_
    refine Go.ifN (pc' := 140) X247 hx hby at_137 rfl (show ¬ ((2 : Int32) ≤ 0) from by decide) ?_
    refine Go.iload (pc' := 142) X247 hx hby at_140 rfl rfl ?_
    refine Go.callS (pc' := 145) (W := 0) (argsL := [(.int u0)]) (rest := []) X247 hx hby hZ hown (hw _ (List.mem_of_getElem? (i := 77) rfl)) (hw _ (List.mem_of_getElem? (i := 78) rfl)) (hw _ (List.mem_of_getElem? (i := 79) rfl)) (hw _ (List.mem_of_getElem? (i := 80) rfl)) (by decide) (rmEnd l Z a0 hw u0 T245.heap) rfl (by decide) (by decide) (by rw [hml]; rfl) pd_4 rfl rfl rfl (Nat.le_of_eq rfl) at_142 rfl (by decide) (by decide) ?_
    rintro r249 T250 L251 X252 ⟨rfl, rfl, e248⟩
    rw [List.append_nil] at X252
    show Go p e below _ (T250.setTop (mkF m 145 #[.val (.int x0), .val (.int x1), .val (.int x2), .val (.int x3), .val (.int (2 : Int32)), .val (.int u0), .val (.int u1), .val (.int u2), .val (.ref b1), .val (.ref b13), .val (.ref b27), .val (.ref b43), .val (.ref b27), .val (.ref b221), .val (.int (1 : Int32))] [(.int (own_ends u0))]))
    refine Go.if_ (pc' := 151) (pn := 148) X252 hx hby at_145 (by decide) (by decide) rfl (fun (c253 : (own_ends u0) = 0) => ?_) (fun (c253 : ¬ ((own_ends u0) = 0)) => ?_)
    ·
      refine Go.iload (pc' := 153) X252 hx hby at_151 rfl rfl ?_
      refine Go.iconst (pc' := 154) X252 hx hby at_153 rfl (v := (1 : Int32)) (by decide) ?_
      refine Go.icmpN (pc' := 157) X252 hx hby at_154 rfl (show ¬ ((2 : Int32) ≤ (1 : Int32)) from by decide) ?_
      refine Go.iload (pc' := 159) X252 hx hby at_157 rfl rfl ?_
      refine Go.callS (pc' := 162) (W := 0) (argsL := [(.int u1)]) (rest := []) X252 hx hby hZ hown (hw _ (List.mem_of_getElem? (i := 77) rfl)) (hw _ (List.mem_of_getElem? (i := 78) rfl)) (hw _ (List.mem_of_getElem? (i := 79) rfl)) (hw _ (List.mem_of_getElem? (i := 80) rfl)) (by decide) (rmEnd l Z a0 hw u1 T245.heap) e248 (by decide) (by decide) (by rw [hml]; rfl) pd_4 rfl rfl rfl (Nat.le_of_eq rfl) at_159 rfl (by decide) (by decide) ?_
      rintro r255 T256 L257 X258 ⟨rfl, rfl, e254⟩
      rw [List.append_nil] at X258
      show Go p e below _ (T256.setTop (mkF m 162 #[.val (.int x0), .val (.int x1), .val (.int x2), .val (.int x3), .val (.int (2 : Int32)), .val (.int u0), .val (.int u1), .val (.int u2), .val (.ref b1), .val (.ref b13), .val (.ref b27), .val (.ref b43), .val (.ref b27), .val (.ref b221), .val (.int (1 : Int32))] [(.int (own_ends u1))]))
      refine Go.if_ (pc' := 168) (pn := 165) X258 hx hby at_162 (by decide) (by decide) rfl (fun (c259 : (own_ends u1) = 0) => ?_) (fun (c259 : ¬ ((own_ends u1) = 0)) => ?_)
      ·
        refine Go.iload (pc' := 170) X258 hx hby at_168 rfl rfl ?_
        refine Go.iconst (pc' := 171) X258 hx hby at_170 rfl (v := (2 : Int32)) (by decide) ?_
        refine Go.icmpY (pc' := 185) X258 hx hby at_171 (by decide) (by decide) (show (2 : Int32) ≤ (2 : Int32) from by decide) ?_
        refine Go.aload (pc' := 187) X258 hx hby at_185 rfl rfl rfl ?_
        refine Go.callS (pc' := 190) (W := 0) (argsL := [(.ref b221)]) (rest := []) X258 hx hby hZ hown (hw _ (List.mem_of_getElem? (i := 23) rfl)) (hw _ (List.mem_of_getElem? (i := 24) rfl)) (hw _ (List.mem_of_getElem? (i := 25) rfl)) (hw _ (List.mem_of_getElem? (i := 26) rfl)) (by decide) (rmCH2 l Z a0 hw b221 T245.heap h0.size kk sf u0 u1 u2 O1_ SS B0 B1 B2 S1_) e254 (by decide) (by decide) (by rw [hml]; rfl) pd_12 rfl rfl rfl (Nat.le_of_eq rfl) at_187 rfl (by decide) (by decide) ?_
        rintro r261 T262 L263 X264 ⟨rfl, rfl, e260⟩
        rw [List.append_nil] at X264
        show Go p e below _ (T262.setTop (mkF m 190 #[.val (.int x0), .val (.int x1), .val (.int x2), .val (.int x3), .val (.int (2 : Int32)), .val (.int u0), .val (.int u1), .val (.int u2), .val (.ref b1), .val (.ref b13), .val (.ref b27), .val (.ref b43), .val (.ref b27), .val (.ref b221), .val (.int (1 : Int32))] [(.int (own_can2 u0 u1 u2))]))
        refine Go.iload (pc' := 192) X264 hx hby at_190 rfl rfl ?_
        refine Go.icmpN (pc' := 195) X264 hx hby at_192 rfl (show ¬ ((own_can2 u0 u1 u2) ≠ (1 : Int32)) from fun q => q (by rw [own_r2]; simp [c253, c259])) ?_
        refine Go.iconst (pc' := 196) X264 hx hby at_195 rfl (v := (1 : Int32)) (by decide) ?_
        refine Go.goto (pc' := 200) X264 hx hby at_196 (by decide) (by decide) ?_
        exact Go.retZW X264 hx hby hlk hret (by simp) at_200 (by decide) (by decide) hS (Nat.zero_le _) ⟨rfl, (Fr.app N138 N1_)⟩
      ·
        refine Go.iconst (pc' := 166) X258 hx hby at_165 rfl (v := (0 : Int32)) (by decide) ?_
        refine Go.istore (Ls' := #[.val (.int x0), .val (.int x1), .val (.int x2), .val (.int x3), .val (.int (2 : Int32)), .val (.int u0), .val (.int u1), .val (.int u2), .val (.ref b1), .val (.ref b13), .val (.ref b27), .val (.ref b43), .val (.ref b27), .val (.ref b221), .val (.int (0 : Int32))]) (pc' := 168) X258 hx hby at_166 rfl rfl ?_
        refine Go.iload (pc' := 170) X258 hx hby at_168 rfl rfl ?_
        refine Go.iconst (pc' := 171) X258 hx hby at_170 rfl (v := (2 : Int32)) (by decide) ?_
        refine Go.icmpY (pc' := 185) X258 hx hby at_171 (by decide) (by decide) (show (2 : Int32) ≤ (2 : Int32) from by decide) ?_
        refine Go.aload (pc' := 187) X258 hx hby at_185 rfl rfl rfl ?_
        refine Go.callS (pc' := 190) (W := 0) (argsL := [(.ref b221)]) (rest := []) X258 hx hby hZ hown (hw _ (List.mem_of_getElem? (i := 23) rfl)) (hw _ (List.mem_of_getElem? (i := 24) rfl)) (hw _ (List.mem_of_getElem? (i := 25) rfl)) (hw _ (List.mem_of_getElem? (i := 26) rfl)) (by decide) (rmCH2 l Z a0 hw b221 T245.heap h0.size kk sf u0 u1 u2 O1_ SS B0 B1 B2 S1_) e254 (by decide) (by decide) (by rw [hml]; rfl) pd_12 rfl rfl rfl (Nat.le_of_eq rfl) at_187 rfl (by decide) (by decide) ?_
        rintro r266 T267 L268 X269 ⟨rfl, rfl, e265⟩
        rw [List.append_nil] at X269
        show Go p e below _ (T267.setTop (mkF m 190 #[.val (.int x0), .val (.int x1), .val (.int x2), .val (.int x3), .val (.int (2 : Int32)), .val (.int u0), .val (.int u1), .val (.int u2), .val (.ref b1), .val (.ref b13), .val (.ref b27), .val (.ref b43), .val (.ref b27), .val (.ref b221), .val (.int (0 : Int32))] [(.int (own_can2 u0 u1 u2))]))
        refine Go.iload (pc' := 192) X269 hx hby at_190 rfl rfl ?_
        refine Go.icmpN (pc' := 195) X269 hx hby at_192 rfl (show ¬ ((own_can2 u0 u1 u2) ≠ (0 : Int32)) from fun q => q (by rw [own_r2]; simp [c253, c259])) ?_
        refine Go.iconst (pc' := 196) X269 hx hby at_195 rfl (v := (1 : Int32)) (by decide) ?_
        refine Go.goto (pc' := 200) X269 hx hby at_196 (by decide) (by decide) ?_
        exact Go.retZW X269 hx hby hlk hret (by simp) at_200 (by decide) (by decide) hS (Nat.zero_le _) ⟨rfl, (Fr.app N138 N1_)⟩
    ·
      refine Go.iconst (pc' := 149) X252 hx hby at_148 rfl (v := (0 : Int32)) (by decide) ?_
      refine Go.istore (Ls' := #[.val (.int x0), .val (.int x1), .val (.int x2), .val (.int x3), .val (.int (2 : Int32)), .val (.int u0), .val (.int u1), .val (.int u2), .val (.ref b1), .val (.ref b13), .val (.ref b27), .val (.ref b43), .val (.ref b27), .val (.ref b221), .val (.int (0 : Int32))]) (pc' := 151) X252 hx hby at_149 rfl rfl ?_
      refine Go.iload (pc' := 153) X252 hx hby at_151 rfl rfl ?_
      refine Go.iconst (pc' := 154) X252 hx hby at_153 rfl (v := (1 : Int32)) (by decide) ?_
      refine Go.icmpN (pc' := 157) X252 hx hby at_154 rfl (show ¬ ((2 : Int32) ≤ (1 : Int32)) from by decide) ?_
      refine Go.iload (pc' := 159) X252 hx hby at_157 rfl rfl ?_
      refine Go.callS (pc' := 162) (W := 0) (argsL := [(.int u1)]) (rest := []) X252 hx hby hZ hown (hw _ (List.mem_of_getElem? (i := 77) rfl)) (hw _ (List.mem_of_getElem? (i := 78) rfl)) (hw _ (List.mem_of_getElem? (i := 79) rfl)) (hw _ (List.mem_of_getElem? (i := 80) rfl)) (by decide) (rmEnd l Z a0 hw u1 T245.heap) e248 (by decide) (by decide) (by rw [hml]; rfl) pd_4 rfl rfl rfl (Nat.le_of_eq rfl) at_159 rfl (by decide) (by decide) ?_
      rintro r271 T272 L273 X274 ⟨rfl, rfl, e270⟩
      rw [List.append_nil] at X274
      show Go p e below _ (T272.setTop (mkF m 162 #[.val (.int x0), .val (.int x1), .val (.int x2), .val (.int x3), .val (.int (2 : Int32)), .val (.int u0), .val (.int u1), .val (.int u2), .val (.ref b1), .val (.ref b13), .val (.ref b27), .val (.ref b43), .val (.ref b27), .val (.ref b221), .val (.int (0 : Int32))] [(.int (own_ends u1))]))
      refine Go.if_ (pc' := 168) (pn := 165) X274 hx hby at_162 (by decide) (by decide) rfl (fun (c275 : (own_ends u1) = 0) => ?_) (fun (c275 : ¬ ((own_ends u1) = 0)) => ?_)
      ·
        refine Go.iload (pc' := 170) X274 hx hby at_168 rfl rfl ?_
        refine Go.iconst (pc' := 171) X274 hx hby at_170 rfl (v := (2 : Int32)) (by decide) ?_
        refine Go.icmpY (pc' := 185) X274 hx hby at_171 (by decide) (by decide) (show (2 : Int32) ≤ (2 : Int32) from by decide) ?_
        refine Go.aload (pc' := 187) X274 hx hby at_185 rfl rfl rfl ?_
        refine Go.callS (pc' := 190) (W := 0) (argsL := [(.ref b221)]) (rest := []) X274 hx hby hZ hown (hw _ (List.mem_of_getElem? (i := 23) rfl)) (hw _ (List.mem_of_getElem? (i := 24) rfl)) (hw _ (List.mem_of_getElem? (i := 25) rfl)) (hw _ (List.mem_of_getElem? (i := 26) rfl)) (by decide) (rmCH2 l Z a0 hw b221 T245.heap h0.size kk sf u0 u1 u2 O1_ SS B0 B1 B2 S1_) e270 (by decide) (by decide) (by rw [hml]; rfl) pd_12 rfl rfl rfl (Nat.le_of_eq rfl) at_187 rfl (by decide) (by decide) ?_
        rintro r277 T278 L279 X280 ⟨rfl, rfl, e276⟩
        rw [List.append_nil] at X280
        show Go p e below _ (T278.setTop (mkF m 190 #[.val (.int x0), .val (.int x1), .val (.int x2), .val (.int x3), .val (.int (2 : Int32)), .val (.int u0), .val (.int u1), .val (.int u2), .val (.ref b1), .val (.ref b13), .val (.ref b27), .val (.ref b43), .val (.ref b27), .val (.ref b221), .val (.int (0 : Int32))] [(.int (own_can2 u0 u1 u2))]))
        refine Go.iload (pc' := 192) X280 hx hby at_190 rfl rfl ?_
        refine Go.icmpN (pc' := 195) X280 hx hby at_192 rfl (show ¬ ((own_can2 u0 u1 u2) ≠ (0 : Int32)) from fun q => q (by rw [own_r2]; simp [c253, c275])) ?_
        refine Go.iconst (pc' := 196) X280 hx hby at_195 rfl (v := (1 : Int32)) (by decide) ?_
        refine Go.goto (pc' := 200) X280 hx hby at_196 (by decide) (by decide) ?_
        exact Go.retZW X280 hx hby hlk hret (by simp) at_200 (by decide) (by decide) hS (Nat.zero_le _) ⟨rfl, (Fr.app N138 N1_)⟩
      ·
        refine Go.iconst (pc' := 166) X274 hx hby at_165 rfl (v := (0 : Int32)) (by decide) ?_
        refine Go.istore (Ls' := #[.val (.int x0), .val (.int x1), .val (.int x2), .val (.int x3), .val (.int (2 : Int32)), .val (.int u0), .val (.int u1), .val (.int u2), .val (.ref b1), .val (.ref b13), .val (.ref b27), .val (.ref b43), .val (.ref b27), .val (.ref b221), .val (.int (0 : Int32))]) (pc' := 168) X274 hx hby at_166 rfl rfl ?_
        refine Go.iload (pc' := 170) X274 hx hby at_168 rfl rfl ?_
        refine Go.iconst (pc' := 171) X274 hx hby at_170 rfl (v := (2 : Int32)) (by decide) ?_
        refine Go.icmpY (pc' := 185) X274 hx hby at_171 (by decide) (by decide) (show (2 : Int32) ≤ (2 : Int32) from by decide) ?_
        refine Go.aload (pc' := 187) X274 hx hby at_185 rfl rfl rfl ?_
        refine Go.callS (pc' := 190) (W := 0) (argsL := [(.ref b221)]) (rest := []) X274 hx hby hZ hown (hw _ (List.mem_of_getElem? (i := 23) rfl)) (hw _ (List.mem_of_getElem? (i := 24) rfl)) (hw _ (List.mem_of_getElem? (i := 25) rfl)) (hw _ (List.mem_of_getElem? (i := 26) rfl)) (by decide) (rmCH2 l Z a0 hw b221 T245.heap h0.size kk sf u0 u1 u2 O1_ SS B0 B1 B2 S1_) e270 (by decide) (by decide) (by rw [hml]; rfl) pd_12 rfl rfl rfl (Nat.le_of_eq rfl) at_187 rfl (by decide) (by decide) ?_
        rintro r282 T283 L284 X285 ⟨rfl, rfl, e281⟩
        rw [List.append_nil] at X285
        show Go p e below _ (T283.setTop (mkF m 190 #[.val (.int x0), .val (.int x1), .val (.int x2), .val (.int x3), .val (.int (2 : Int32)), .val (.int u0), .val (.int u1), .val (.int u2), .val (.ref b1), .val (.ref b13), .val (.ref b27), .val (.ref b43), .val (.ref b27), .val (.ref b221), .val (.int (0 : Int32))] [(.int (own_can2 u0 u1 u2))]))
        refine Go.iload (pc' := 192) X285 hx hby at_190 rfl rfl ?_
        refine Go.icmpN (pc' := 195) X285 hx hby at_192 rfl (show ¬ ((own_can2 u0 u1 u2) ≠ (0 : Int32)) from fun q => q (by rw [own_r2]; simp [c253, c275])) ?_
        refine Go.iconst (pc' := 196) X285 hx hby at_195 rfl (v := (1 : Int32)) (by decide) ?_
        refine Go.goto (pc' := 200) X285 hx hby at_196 (by decide) (by decide) ?_
        exact Go.retZW X285 hx hby hlk hret (by simp) at_200 (by decide) (by decide) hS (Nat.zero_le _) ⟨rfl, (Fr.app N138 N1_)⟩
  ·
    subst q
    show Go p e below _ (T126.setTop (mkF m 86 #[.val (.int x0), .val (.int x1), .val (.int x2), .val (.int x3), .val (.int (3 : Int32)), .val (.int u0), .val (.int u1), .val (.int u2), .val (.ref b1), .val (.ref b13), .val (.ref b27), .val (.ref b43), .val (.ref b43), .unset, .unset] []))
    refine Go.iload (pc' := 88) X128 hx hby at_86 rfl rfl ?_
    refine Go.ifY (pc' := 98) X128 hx hby at_88 (by decide) (by decide) (show (3 : Int32) ≠ 0 from by decide) ?_
    refine Go.iload (pc' := 100) X128 hx hby at_98 rfl rfl ?_
    refine Go.iconst (pc' := 101) X128 hx hby at_100 rfl (v := (1 : Int32)) (by decide) ?_
    refine Go.icmpY (pc' := 111) X128 hx hby at_101 (by decide) (by decide) (show (3 : Int32) ≠ (1 : Int32) from by decide) ?_
    refine Go.iload (pc' := 113) X128 hx hby at_111 rfl rfl ?_
    refine Go.iconst (pc' := 114) X128 hx hby at_113 rfl (v := (2 : Int32)) (by decide) ?_
    refine Go.icmpY (pc' := 121) X128 hx hby at_114 (by decide) (by decide) (show (3 : Int32) ≠ (2 : Int32) from by decide) ?_
    refine Go.new_ (pc' := 124) X128 hx hby hZ hown (hw _ (List.mem_of_getElem? (i := 2) rfl)) (hw _ (List.mem_of_getElem? (i := 3) rfl)) (hw _ (List.mem_of_getElem? (i := 4) rfl)) e129 at_121 rfl (by decide) (by decide) ?_
    intro b286 T287 h288 g289 X290 e291 E292 A293 D294
    have n295 : b1 ≠ b286 := Nat.ne_of_lt (by rw [g289]; exact f133.lt)
    have n296 : b13 ≠ b286 := Nat.ne_of_lt (by rw [g289]; exact f139.lt)
    have n297 : b27 ≠ b286 := Nat.ne_of_lt (by rw [g289]; exact f140.lt)
    have n298 : b43 ≠ b286 := Nat.ne_of_lt (by rw [g289]; exact f141.lt)
    have g299 : h0.size ≤ b286 := by rw [g289]; exact z136
    have f300 : Old Z h0.size h288 := f132.ext E292
    have f301 : Ar Z h288 b1 .char 0 (fun _ => (.int 0)) := f133.ext E292
    have f302 : Ar Z h288 b13 .char 1 (fun q => .int (own_c u0 u1 u2 q)) := f139.ext E292
    have f303 : Ar Z h288 b27 .char 2 (fun q => .int (own_c u0 u1 u2 q)) := f140.ext E292
    have f304 : Ar Z h288 b43 .char 3 (fun q => .int (own_c u0 u1 u2 q)) := f141.ext E292
    have z305 : h0.size ≤ h288.size := Nat.le_trans z136 E292.1
    have f306 : Exa Z h288 b286 "java/lang/String" := A293
    have f307 : Fld Z h288 b286 "java/lang/String" "value" "[B" .null := D294 (Or.inr (hw _ (List.mem_of_getElem? (i := 17) rfl))) (ty := (.array .byte)) (by decide)
    have f308 : Fld Z h288 b286 "java/lang/String" "coder" "B" (.int 0) := D294 (Or.inr (hw _ (List.mem_of_getElem? (i := 18) rfl))) (ty := .byte) (by decide)
    show Go p e below _ (T287.setTop (mkF m 124 #[.val (.int x0), .val (.int x1), .val (.int x2), .val (.int x3), .val (.int (3 : Int32)), .val (.int u0), .val (.int u1), .val (.int u2), .val (.ref b1), .val (.ref b13), .val (.ref b27), .val (.ref b43), .val (.ref b43), .unset, .unset] [(.ref b286)]))
    refine Go.dup (pc' := 125) X290 hx hby at_124 rfl rfl ?_
    refine Go.aload (pc' := 127) X290 hx hby at_125 rfl rfl rfl ?_
    refine Go.callI (pc' := 130) (a := b286) (W := 1) (argsL := [(.ref b43)]) (rest := [(.ref b286)]) X290 hx hby rfl hZ hown (hw _ (List.mem_of_getElem? (i := 5) rfl)) (hw _ (List.mem_of_getElem? (i := 6) rfl)) (hw _ (List.mem_of_getElem? (i := 4) rfl)) (hw _ (List.mem_of_getElem? (i := 7) rfl)) (by decide) (rmI1_3 l Z a0 hw b286 b43 h288 h0.size kk sf u0 u1 u2 f300 SS B0 B1 B2 z305 g299 f306 f307 f308 f304) e291 (by decide) (by decide) (by rw [hml]; rfl) pd_18 rfl rfl rfl (Nat.le_of_eq rfl) at_127 rfl (by decide) (by decide) ?_
    rintro r309 T310 L311 X312 ⟨rfl, N1_, K1_, S1_⟩
    have O1_ := f300.keep K1_ (allS g299 all0)
    show Go p e below _ (T310.setTop (mkF m 130 #[.val (.int x0), .val (.int x1), .val (.int x2), .val (.int x3), .val (.int (3 : Int32)), .val (.int u0), .val (.int u1), .val (.int u2), .val (.ref b1), .val (.ref b13), .val (.ref b27), .val (.ref b43), .val (.ref b43), .unset, .unset] [(.ref b286)]))
    refine Go.astore (Ls' := #[.val (.int x0), .val (.int x1), .val (.int x2), .val (.int x3), .val (.int (3 : Int32)), .val (.int u0), .val (.int u1), .val (.int u2), .val (.ref b1), .val (.ref b13), .val (.ref b27), .val (.ref b43), .val (.ref b43), .val (.ref b286), .unset]) (pc' := 132) X312 hx hby at_130 rfl rfl rfl ?_
    refine Go.iconst (pc' := 133) X312 hx hby at_132 rfl (v := (1 : Int32)) (by decide) ?_
    refine Go.istore (Ls' := #[.val (.int x0), .val (.int x1), .val (.int x2), .val (.int x3), .val (.int (3 : Int32)), .val (.int u0), .val (.int u1), .val (.int u2), .val (.ref b1), .val (.ref b13), .val (.ref b27), .val (.ref b43), .val (.ref b43), .val (.ref b286), .val (.int (1 : Int32))]) (pc' := 135) X312 hx hby at_133 rfl rfl ?_
    refine Go.iload (pc' := 137) X312 hx hby at_135 rfl rfl ?_
    refine Go.ifN (pc' := 140) X312 hx hby at_137 rfl (show ¬ ((3 : Int32) ≤ 0) from by decide) ?_
    refine Go.iload (pc' := 142) X312 hx hby at_140 rfl rfl ?_
    refine Go.callS (pc' := 145) (W := 0) (argsL := [(.int u0)]) (rest := []) X312 hx hby hZ hown (hw _ (List.mem_of_getElem? (i := 77) rfl)) (hw _ (List.mem_of_getElem? (i := 78) rfl)) (hw _ (List.mem_of_getElem? (i := 79) rfl)) (hw _ (List.mem_of_getElem? (i := 80) rfl)) (by decide) (rmEnd l Z a0 hw u0 T310.heap) rfl (by decide) (by decide) (by rw [hml]; rfl) pd_4 rfl rfl rfl (Nat.le_of_eq rfl) at_142 rfl (by decide) (by decide) ?_
    rintro r314 T315 L316 X317 ⟨rfl, rfl, e313⟩
    rw [List.append_nil] at X317
    show Go p e below _ (T315.setTop (mkF m 145 #[.val (.int x0), .val (.int x1), .val (.int x2), .val (.int x3), .val (.int (3 : Int32)), .val (.int u0), .val (.int u1), .val (.int u2), .val (.ref b1), .val (.ref b13), .val (.ref b27), .val (.ref b43), .val (.ref b43), .val (.ref b286), .val (.int (1 : Int32))] [(.int (own_ends u0))]))
    refine Go.if_ (pc' := 151) (pn := 148) X317 hx hby at_145 (by decide) (by decide) rfl (fun (c318 : (own_ends u0) = 0) => ?_) (fun (c318 : ¬ ((own_ends u0) = 0)) => ?_)
    ·
      refine Go.iload (pc' := 153) X317 hx hby at_151 rfl rfl ?_
      refine Go.iconst (pc' := 154) X317 hx hby at_153 rfl (v := (1 : Int32)) (by decide) ?_
      refine Go.icmpN (pc' := 157) X317 hx hby at_154 rfl (show ¬ ((3 : Int32) ≤ (1 : Int32)) from by decide) ?_
      refine Go.iload (pc' := 159) X317 hx hby at_157 rfl rfl ?_
      refine Go.callS (pc' := 162) (W := 0) (argsL := [(.int u1)]) (rest := []) X317 hx hby hZ hown (hw _ (List.mem_of_getElem? (i := 77) rfl)) (hw _ (List.mem_of_getElem? (i := 78) rfl)) (hw _ (List.mem_of_getElem? (i := 79) rfl)) (hw _ (List.mem_of_getElem? (i := 80) rfl)) (by decide) (rmEnd l Z a0 hw u1 T310.heap) e313 (by decide) (by decide) (by rw [hml]; rfl) pd_4 rfl rfl rfl (Nat.le_of_eq rfl) at_159 rfl (by decide) (by decide) ?_
      rintro r320 T321 L322 X323 ⟨rfl, rfl, e319⟩
      rw [List.append_nil] at X323
      show Go p e below _ (T321.setTop (mkF m 162 #[.val (.int x0), .val (.int x1), .val (.int x2), .val (.int x3), .val (.int (3 : Int32)), .val (.int u0), .val (.int u1), .val (.int u2), .val (.ref b1), .val (.ref b13), .val (.ref b27), .val (.ref b43), .val (.ref b43), .val (.ref b286), .val (.int (1 : Int32))] [(.int (own_ends u1))]))
      refine Go.if_ (pc' := 168) (pn := 165) X323 hx hby at_162 (by decide) (by decide) rfl (fun (c324 : (own_ends u1) = 0) => ?_) (fun (c324 : ¬ ((own_ends u1) = 0)) => ?_)
      ·
        refine Go.iload (pc' := 170) X323 hx hby at_168 rfl rfl ?_
        refine Go.iconst (pc' := 171) X323 hx hby at_170 rfl (v := (2 : Int32)) (by decide) ?_
        refine Go.icmpN (pc' := 174) X323 hx hby at_171 rfl (show ¬ ((3 : Int32) ≤ (2 : Int32)) from by decide) ?_
        refine Go.iload (pc' := 176) X323 hx hby at_174 rfl rfl ?_
        refine Go.callS (pc' := 179) (W := 0) (argsL := [(.int u2)]) (rest := []) X323 hx hby hZ hown (hw _ (List.mem_of_getElem? (i := 77) rfl)) (hw _ (List.mem_of_getElem? (i := 78) rfl)) (hw _ (List.mem_of_getElem? (i := 79) rfl)) (hw _ (List.mem_of_getElem? (i := 80) rfl)) (by decide) (rmEnd l Z a0 hw u2 T310.heap) e319 (by decide) (by decide) (by rw [hml]; rfl) pd_4 rfl rfl rfl (Nat.le_of_eq rfl) at_176 rfl (by decide) (by decide) ?_
        rintro r326 T327 L328 X329 ⟨rfl, rfl, e325⟩
        rw [List.append_nil] at X329
        show Go p e below _ (T327.setTop (mkF m 179 #[.val (.int x0), .val (.int x1), .val (.int x2), .val (.int x3), .val (.int (3 : Int32)), .val (.int u0), .val (.int u1), .val (.int u2), .val (.ref b1), .val (.ref b13), .val (.ref b27), .val (.ref b43), .val (.ref b43), .val (.ref b286), .val (.int (1 : Int32))] [(.int (own_ends u2))]))
        refine Go.if_ (pc' := 185) (pn := 182) X329 hx hby at_179 (by decide) (by decide) rfl (fun (c330 : (own_ends u2) = 0) => ?_) (fun (c330 : ¬ ((own_ends u2) = 0)) => ?_)
        ·
          refine Go.aload (pc' := 187) X329 hx hby at_185 rfl rfl rfl ?_
          refine Go.callS (pc' := 190) (W := 0) (argsL := [(.ref b286)]) (rest := []) X329 hx hby hZ hown (hw _ (List.mem_of_getElem? (i := 23) rfl)) (hw _ (List.mem_of_getElem? (i := 24) rfl)) (hw _ (List.mem_of_getElem? (i := 25) rfl)) (hw _ (List.mem_of_getElem? (i := 26) rfl)) (by decide) (rmCH3 l Z a0 hw b286 T310.heap h0.size kk sf u0 u1 u2 O1_ SS B0 B1 B2 S1_) e325 (by decide) (by decide) (by rw [hml]; rfl) pd_12 rfl rfl rfl (Nat.le_of_eq rfl) at_187 rfl (by decide) (by decide) ?_
          rintro r332 T333 L334 X335 ⟨rfl, rfl, e331⟩
          rw [List.append_nil] at X335
          show Go p e below _ (T333.setTop (mkF m 190 #[.val (.int x0), .val (.int x1), .val (.int x2), .val (.int x3), .val (.int (3 : Int32)), .val (.int u0), .val (.int u1), .val (.int u2), .val (.ref b1), .val (.ref b13), .val (.ref b27), .val (.ref b43), .val (.ref b43), .val (.ref b286), .val (.int (1 : Int32))] [(.int (own_can3 u0 u1 u2))]))
          refine Go.iload (pc' := 192) X335 hx hby at_190 rfl rfl ?_
          refine Go.icmpN (pc' := 195) X335 hx hby at_192 rfl (show ¬ ((own_can3 u0 u1 u2) ≠ (1 : Int32)) from fun q => q (by rw [own_r3]; simp [c318, c324, c330])) ?_
          refine Go.iconst (pc' := 196) X335 hx hby at_195 rfl (v := (1 : Int32)) (by decide) ?_
          refine Go.goto (pc' := 200) X335 hx hby at_196 (by decide) (by decide) ?_
          exact Go.retZW X335 hx hby hlk hret (by simp) at_200 (by decide) (by decide) hS (Nat.zero_le _) ⟨rfl, (Fr.app N138 N1_)⟩
        ·
          refine Go.iconst (pc' := 183) X329 hx hby at_182 rfl (v := (0 : Int32)) (by decide) ?_
          refine Go.istore (Ls' := #[.val (.int x0), .val (.int x1), .val (.int x2), .val (.int x3), .val (.int (3 : Int32)), .val (.int u0), .val (.int u1), .val (.int u2), .val (.ref b1), .val (.ref b13), .val (.ref b27), .val (.ref b43), .val (.ref b43), .val (.ref b286), .val (.int (0 : Int32))]) (pc' := 185) X329 hx hby at_183 rfl rfl ?_
          refine Go.aload (pc' := 187) X329 hx hby at_185 rfl rfl rfl ?_
          refine Go.callS (pc' := 190) (W := 0) (argsL := [(.ref b286)]) (rest := []) X329 hx hby hZ hown (hw _ (List.mem_of_getElem? (i := 23) rfl)) (hw _ (List.mem_of_getElem? (i := 24) rfl)) (hw _ (List.mem_of_getElem? (i := 25) rfl)) (hw _ (List.mem_of_getElem? (i := 26) rfl)) (by decide) (rmCH3 l Z a0 hw b286 T310.heap h0.size kk sf u0 u1 u2 O1_ SS B0 B1 B2 S1_) e325 (by decide) (by decide) (by rw [hml]; rfl) pd_12 rfl rfl rfl (Nat.le_of_eq rfl) at_187 rfl (by decide) (by decide) ?_
          rintro r337 T338 L339 X340 ⟨rfl, rfl, e336⟩
          rw [List.append_nil] at X340
          show Go p e below _ (T338.setTop (mkF m 190 #[.val (.int x0), .val (.int x1), .val (.int x2), .val (.int x3), .val (.int (3 : Int32)), .val (.int u0), .val (.int u1), .val (.int u2), .val (.ref b1), .val (.ref b13), .val (.ref b27), .val (.ref b43), .val (.ref b43), .val (.ref b286), .val (.int (0 : Int32))] [(.int (own_can3 u0 u1 u2))]))
          refine Go.iload (pc' := 192) X340 hx hby at_190 rfl rfl ?_
          refine Go.icmpN (pc' := 195) X340 hx hby at_192 rfl (show ¬ ((own_can3 u0 u1 u2) ≠ (0 : Int32)) from fun q => q (by rw [own_r3]; simp [c318, c324, c330])) ?_
          refine Go.iconst (pc' := 196) X340 hx hby at_195 rfl (v := (1 : Int32)) (by decide) ?_
          refine Go.goto (pc' := 200) X340 hx hby at_196 (by decide) (by decide) ?_
          exact Go.retZW X340 hx hby hlk hret (by simp) at_200 (by decide) (by decide) hS (Nat.zero_le _) ⟨rfl, (Fr.app N138 N1_)⟩
      ·
        refine Go.iconst (pc' := 166) X323 hx hby at_165 rfl (v := (0 : Int32)) (by decide) ?_
        refine Go.istore (Ls' := #[.val (.int x0), .val (.int x1), .val (.int x2), .val (.int x3), .val (.int (3 : Int32)), .val (.int u0), .val (.int u1), .val (.int u2), .val (.ref b1), .val (.ref b13), .val (.ref b27), .val (.ref b43), .val (.ref b43), .val (.ref b286), .val (.int (0 : Int32))]) (pc' := 168) X323 hx hby at_166 rfl rfl ?_
        refine Go.iload (pc' := 170) X323 hx hby at_168 rfl rfl ?_
        refine Go.iconst (pc' := 171) X323 hx hby at_170 rfl (v := (2 : Int32)) (by decide) ?_
        refine Go.icmpN (pc' := 174) X323 hx hby at_171 rfl (show ¬ ((3 : Int32) ≤ (2 : Int32)) from by decide) ?_
        refine Go.iload (pc' := 176) X323 hx hby at_174 rfl rfl ?_
        refine Go.callS (pc' := 179) (W := 0) (argsL := [(.int u2)]) (rest := []) X323 hx hby hZ hown (hw _ (List.mem_of_getElem? (i := 77) rfl)) (hw _ (List.mem_of_getElem? (i := 78) rfl)) (hw _ (List.mem_of_getElem? (i := 79) rfl)) (hw _ (List.mem_of_getElem? (i := 80) rfl)) (by decide) (rmEnd l Z a0 hw u2 T310.heap) e319 (by decide) (by decide) (by rw [hml]; rfl) pd_4 rfl rfl rfl (Nat.le_of_eq rfl) at_176 rfl (by decide) (by decide) ?_
        rintro r342 T343 L344 X345 ⟨rfl, rfl, e341⟩
        rw [List.append_nil] at X345
        show Go p e below _ (T343.setTop (mkF m 179 #[.val (.int x0), .val (.int x1), .val (.int x2), .val (.int x3), .val (.int (3 : Int32)), .val (.int u0), .val (.int u1), .val (.int u2), .val (.ref b1), .val (.ref b13), .val (.ref b27), .val (.ref b43), .val (.ref b43), .val (.ref b286), .val (.int (0 : Int32))] [(.int (own_ends u2))]))
        refine Go.if_ (pc' := 185) (pn := 182) X345 hx hby at_179 (by decide) (by decide) rfl (fun (c346 : (own_ends u2) = 0) => ?_) (fun (c346 : ¬ ((own_ends u2) = 0)) => ?_)
        ·
          refine Go.aload (pc' := 187) X345 hx hby at_185 rfl rfl rfl ?_
          refine Go.callS (pc' := 190) (W := 0) (argsL := [(.ref b286)]) (rest := []) X345 hx hby hZ hown (hw _ (List.mem_of_getElem? (i := 23) rfl)) (hw _ (List.mem_of_getElem? (i := 24) rfl)) (hw _ (List.mem_of_getElem? (i := 25) rfl)) (hw _ (List.mem_of_getElem? (i := 26) rfl)) (by decide) (rmCH3 l Z a0 hw b286 T310.heap h0.size kk sf u0 u1 u2 O1_ SS B0 B1 B2 S1_) e341 (by decide) (by decide) (by rw [hml]; rfl) pd_12 rfl rfl rfl (Nat.le_of_eq rfl) at_187 rfl (by decide) (by decide) ?_
          rintro r348 T349 L350 X351 ⟨rfl, rfl, e347⟩
          rw [List.append_nil] at X351
          show Go p e below _ (T349.setTop (mkF m 190 #[.val (.int x0), .val (.int x1), .val (.int x2), .val (.int x3), .val (.int (3 : Int32)), .val (.int u0), .val (.int u1), .val (.int u2), .val (.ref b1), .val (.ref b13), .val (.ref b27), .val (.ref b43), .val (.ref b43), .val (.ref b286), .val (.int (0 : Int32))] [(.int (own_can3 u0 u1 u2))]))
          refine Go.iload (pc' := 192) X351 hx hby at_190 rfl rfl ?_
          refine Go.icmpN (pc' := 195) X351 hx hby at_192 rfl (show ¬ ((own_can3 u0 u1 u2) ≠ (0 : Int32)) from fun q => q (by rw [own_r3]; simp [c318, c324, c346])) ?_
          refine Go.iconst (pc' := 196) X351 hx hby at_195 rfl (v := (1 : Int32)) (by decide) ?_
          refine Go.goto (pc' := 200) X351 hx hby at_196 (by decide) (by decide) ?_
          exact Go.retZW X351 hx hby hlk hret (by simp) at_200 (by decide) (by decide) hS (Nat.zero_le _) ⟨rfl, (Fr.app N138 N1_)⟩
        ·
          refine Go.iconst (pc' := 183) X345 hx hby at_182 rfl (v := (0 : Int32)) (by decide) ?_
          refine Go.istore (Ls' := #[.val (.int x0), .val (.int x1), .val (.int x2), .val (.int x3), .val (.int (3 : Int32)), .val (.int u0), .val (.int u1), .val (.int u2), .val (.ref b1), .val (.ref b13), .val (.ref b27), .val (.ref b43), .val (.ref b43), .val (.ref b286), .val (.int (0 : Int32))]) (pc' := 185) X345 hx hby at_183 rfl rfl ?_
          refine Go.aload (pc' := 187) X345 hx hby at_185 rfl rfl rfl ?_
          refine Go.callS (pc' := 190) (W := 0) (argsL := [(.ref b286)]) (rest := []) X345 hx hby hZ hown (hw _ (List.mem_of_getElem? (i := 23) rfl)) (hw _ (List.mem_of_getElem? (i := 24) rfl)) (hw _ (List.mem_of_getElem? (i := 25) rfl)) (hw _ (List.mem_of_getElem? (i := 26) rfl)) (by decide) (rmCH3 l Z a0 hw b286 T310.heap h0.size kk sf u0 u1 u2 O1_ SS B0 B1 B2 S1_) e341 (by decide) (by decide) (by rw [hml]; rfl) pd_12 rfl rfl rfl (Nat.le_of_eq rfl) at_187 rfl (by decide) (by decide) ?_
          rintro r353 T354 L355 X356 ⟨rfl, rfl, e352⟩
          rw [List.append_nil] at X356
          show Go p e below _ (T354.setTop (mkF m 190 #[.val (.int x0), .val (.int x1), .val (.int x2), .val (.int x3), .val (.int (3 : Int32)), .val (.int u0), .val (.int u1), .val (.int u2), .val (.ref b1), .val (.ref b13), .val (.ref b27), .val (.ref b43), .val (.ref b43), .val (.ref b286), .val (.int (0 : Int32))] [(.int (own_can3 u0 u1 u2))]))
          refine Go.iload (pc' := 192) X356 hx hby at_190 rfl rfl ?_
          refine Go.icmpN (pc' := 195) X356 hx hby at_192 rfl (show ¬ ((own_can3 u0 u1 u2) ≠ (0 : Int32)) from fun q => q (by rw [own_r3]; simp [c318, c324, c346])) ?_
          refine Go.iconst (pc' := 196) X356 hx hby at_195 rfl (v := (1 : Int32)) (by decide) ?_
          refine Go.goto (pc' := 200) X356 hx hby at_196 (by decide) (by decide) ?_
          exact Go.retZW X356 hx hby hlk hret (by simp) at_200 (by decide) (by decide) hS (Nat.zero_le _) ⟨rfl, (Fr.app N138 N1_)⟩
    ·
      refine Go.iconst (pc' := 149) X317 hx hby at_148 rfl (v := (0 : Int32)) (by decide) ?_
      refine Go.istore (Ls' := #[.val (.int x0), .val (.int x1), .val (.int x2), .val (.int x3), .val (.int (3 : Int32)), .val (.int u0), .val (.int u1), .val (.int u2), .val (.ref b1), .val (.ref b13), .val (.ref b27), .val (.ref b43), .val (.ref b43), .val (.ref b286), .val (.int (0 : Int32))]) (pc' := 151) X317 hx hby at_149 rfl rfl ?_
      refine Go.iload (pc' := 153) X317 hx hby at_151 rfl rfl ?_
      refine Go.iconst (pc' := 154) X317 hx hby at_153 rfl (v := (1 : Int32)) (by decide) ?_
      refine Go.icmpN (pc' := 157) X317 hx hby at_154 rfl (show ¬ ((3 : Int32) ≤ (1 : Int32)) from by decide) ?_
      refine Go.iload (pc' := 159) X317 hx hby at_157 rfl rfl ?_
      refine Go.callS (pc' := 162) (W := 0) (argsL := [(.int u1)]) (rest := []) X317 hx hby hZ hown (hw _ (List.mem_of_getElem? (i := 77) rfl)) (hw _ (List.mem_of_getElem? (i := 78) rfl)) (hw _ (List.mem_of_getElem? (i := 79) rfl)) (hw _ (List.mem_of_getElem? (i := 80) rfl)) (by decide) (rmEnd l Z a0 hw u1 T310.heap) e313 (by decide) (by decide) (by rw [hml]; rfl) pd_4 rfl rfl rfl (Nat.le_of_eq rfl) at_159 rfl (by decide) (by decide) ?_
      rintro r358 T359 L360 X361 ⟨rfl, rfl, e357⟩
      rw [List.append_nil] at X361
      show Go p e below _ (T359.setTop (mkF m 162 #[.val (.int x0), .val (.int x1), .val (.int x2), .val (.int x3), .val (.int (3 : Int32)), .val (.int u0), .val (.int u1), .val (.int u2), .val (.ref b1), .val (.ref b13), .val (.ref b27), .val (.ref b43), .val (.ref b43), .val (.ref b286), .val (.int (0 : Int32))] [(.int (own_ends u1))]))
      refine Go.if_ (pc' := 168) (pn := 165) X361 hx hby at_162 (by decide) (by decide) rfl (fun (c362 : (own_ends u1) = 0) => ?_) (fun (c362 : ¬ ((own_ends u1) = 0)) => ?_)
      ·
        refine Go.iload (pc' := 170) X361 hx hby at_168 rfl rfl ?_
        refine Go.iconst (pc' := 171) X361 hx hby at_170 rfl (v := (2 : Int32)) (by decide) ?_
        refine Go.icmpN (pc' := 174) X361 hx hby at_171 rfl (show ¬ ((3 : Int32) ≤ (2 : Int32)) from by decide) ?_
        refine Go.iload (pc' := 176) X361 hx hby at_174 rfl rfl ?_
        refine Go.callS (pc' := 179) (W := 0) (argsL := [(.int u2)]) (rest := []) X361 hx hby hZ hown (hw _ (List.mem_of_getElem? (i := 77) rfl)) (hw _ (List.mem_of_getElem? (i := 78) rfl)) (hw _ (List.mem_of_getElem? (i := 79) rfl)) (hw _ (List.mem_of_getElem? (i := 80) rfl)) (by decide) (rmEnd l Z a0 hw u2 T310.heap) e357 (by decide) (by decide) (by rw [hml]; rfl) pd_4 rfl rfl rfl (Nat.le_of_eq rfl) at_176 rfl (by decide) (by decide) ?_
        rintro r364 T365 L366 X367 ⟨rfl, rfl, e363⟩
        rw [List.append_nil] at X367
        show Go p e below _ (T365.setTop (mkF m 179 #[.val (.int x0), .val (.int x1), .val (.int x2), .val (.int x3), .val (.int (3 : Int32)), .val (.int u0), .val (.int u1), .val (.int u2), .val (.ref b1), .val (.ref b13), .val (.ref b27), .val (.ref b43), .val (.ref b43), .val (.ref b286), .val (.int (0 : Int32))] [(.int (own_ends u2))]))
        refine Go.if_ (pc' := 185) (pn := 182) X367 hx hby at_179 (by decide) (by decide) rfl (fun (c368 : (own_ends u2) = 0) => ?_) (fun (c368 : ¬ ((own_ends u2) = 0)) => ?_)
        ·
          refine Go.aload (pc' := 187) X367 hx hby at_185 rfl rfl rfl ?_
          refine Go.callS (pc' := 190) (W := 0) (argsL := [(.ref b286)]) (rest := []) X367 hx hby hZ hown (hw _ (List.mem_of_getElem? (i := 23) rfl)) (hw _ (List.mem_of_getElem? (i := 24) rfl)) (hw _ (List.mem_of_getElem? (i := 25) rfl)) (hw _ (List.mem_of_getElem? (i := 26) rfl)) (by decide) (rmCH3 l Z a0 hw b286 T310.heap h0.size kk sf u0 u1 u2 O1_ SS B0 B1 B2 S1_) e363 (by decide) (by decide) (by rw [hml]; rfl) pd_12 rfl rfl rfl (Nat.le_of_eq rfl) at_187 rfl (by decide) (by decide) ?_
          rintro r370 T371 L372 X373 ⟨rfl, rfl, e369⟩
          rw [List.append_nil] at X373
          show Go p e below _ (T371.setTop (mkF m 190 #[.val (.int x0), .val (.int x1), .val (.int x2), .val (.int x3), .val (.int (3 : Int32)), .val (.int u0), .val (.int u1), .val (.int u2), .val (.ref b1), .val (.ref b13), .val (.ref b27), .val (.ref b43), .val (.ref b43), .val (.ref b286), .val (.int (0 : Int32))] [(.int (own_can3 u0 u1 u2))]))
          refine Go.iload (pc' := 192) X373 hx hby at_190 rfl rfl ?_
          refine Go.icmpN (pc' := 195) X373 hx hby at_192 rfl (show ¬ ((own_can3 u0 u1 u2) ≠ (0 : Int32)) from fun q => q (by rw [own_r3]; simp [c318, c362, c368])) ?_
          refine Go.iconst (pc' := 196) X373 hx hby at_195 rfl (v := (1 : Int32)) (by decide) ?_
          refine Go.goto (pc' := 200) X373 hx hby at_196 (by decide) (by decide) ?_
          exact Go.retZW X373 hx hby hlk hret (by simp) at_200 (by decide) (by decide) hS (Nat.zero_le _) ⟨rfl, (Fr.app N138 N1_)⟩
        ·
          refine Go.iconst (pc' := 183) X367 hx hby at_182 rfl (v := (0 : Int32)) (by decide) ?_
          refine Go.istore (Ls' := #[.val (.int x0), .val (.int x1), .val (.int x2), .val (.int x3), .val (.int (3 : Int32)), .val (.int u0), .val (.int u1), .val (.int u2), .val (.ref b1), .val (.ref b13), .val (.ref b27), .val (.ref b43), .val (.ref b43), .val (.ref b286), .val (.int (0 : Int32))]) (pc' := 185) X367 hx hby at_183 rfl rfl ?_
          refine Go.aload (pc' := 187) X367 hx hby at_185 rfl rfl rfl ?_
          refine Go.callS (pc' := 190) (W := 0) (argsL := [(.ref b286)]) (rest := []) X367 hx hby hZ hown (hw _ (List.mem_of_getElem? (i := 23) rfl)) (hw _ (List.mem_of_getElem? (i := 24) rfl)) (hw _ (List.mem_of_getElem? (i := 25) rfl)) (hw _ (List.mem_of_getElem? (i := 26) rfl)) (by decide) (rmCH3 l Z a0 hw b286 T310.heap h0.size kk sf u0 u1 u2 O1_ SS B0 B1 B2 S1_) e363 (by decide) (by decide) (by rw [hml]; rfl) pd_12 rfl rfl rfl (Nat.le_of_eq rfl) at_187 rfl (by decide) (by decide) ?_
          rintro r375 T376 L377 X378 ⟨rfl, rfl, e374⟩
          rw [List.append_nil] at X378
          show Go p e below _ (T376.setTop (mkF m 190 #[.val (.int x0), .val (.int x1), .val (.int x2), .val (.int x3), .val (.int (3 : Int32)), .val (.int u0), .val (.int u1), .val (.int u2), .val (.ref b1), .val (.ref b13), .val (.ref b27), .val (.ref b43), .val (.ref b43), .val (.ref b286), .val (.int (0 : Int32))] [(.int (own_can3 u0 u1 u2))]))
          refine Go.iload (pc' := 192) X378 hx hby at_190 rfl rfl ?_
          refine Go.icmpN (pc' := 195) X378 hx hby at_192 rfl (show ¬ ((own_can3 u0 u1 u2) ≠ (0 : Int32)) from fun q => q (by rw [own_r3]; simp [c318, c362, c368])) ?_
          refine Go.iconst (pc' := 196) X378 hx hby at_195 rfl (v := (1 : Int32)) (by decide) ?_
          refine Go.goto (pc' := 200) X378 hx hby at_196 (by decide) (by decide) ?_
          exact Go.retZW X378 hx hby hlk hret (by simp) at_200 (by decide) (by decide) hS (Nat.zero_le _) ⟨rfl, (Fr.app N138 N1_)⟩
      ·
        refine Go.iconst (pc' := 166) X361 hx hby at_165 rfl (v := (0 : Int32)) (by decide) ?_
        refine Go.istore (Ls' := #[.val (.int x0), .val (.int x1), .val (.int x2), .val (.int x3), .val (.int (3 : Int32)), .val (.int u0), .val (.int u1), .val (.int u2), .val (.ref b1), .val (.ref b13), .val (.ref b27), .val (.ref b43), .val (.ref b43), .val (.ref b286), .val (.int (0 : Int32))]) (pc' := 168) X361 hx hby at_166 rfl rfl ?_
        refine Go.iload (pc' := 170) X361 hx hby at_168 rfl rfl ?_
        refine Go.iconst (pc' := 171) X361 hx hby at_170 rfl (v := (2 : Int32)) (by decide) ?_
        refine Go.icmpN (pc' := 174) X361 hx hby at_171 rfl (show ¬ ((3 : Int32) ≤ (2 : Int32)) from by decide) ?_
        refine Go.iload (pc' := 176) X361 hx hby at_174 rfl rfl ?_
        refine Go.callS (pc' := 179) (W := 0) (argsL := [(.int u2)]) (rest := []) X361 hx hby hZ hown (hw _ (List.mem_of_getElem? (i := 77) rfl)) (hw _ (List.mem_of_getElem? (i := 78) rfl)) (hw _ (List.mem_of_getElem? (i := 79) rfl)) (hw _ (List.mem_of_getElem? (i := 80) rfl)) (by decide) (rmEnd l Z a0 hw u2 T310.heap) e357 (by decide) (by decide) (by rw [hml]; rfl) pd_4 rfl rfl rfl (Nat.le_of_eq rfl) at_176 rfl (by decide) (by decide) ?_
        rintro r380 T381 L382 X383 ⟨rfl, rfl, e379⟩
        rw [List.append_nil] at X383
        show Go p e below _ (T381.setTop (mkF m 179 #[.val (.int x0), .val (.int x1), .val (.int x2), .val (.int x3), .val (.int (3 : Int32)), .val (.int u0), .val (.int u1), .val (.int u2), .val (.ref b1), .val (.ref b13), .val (.ref b27), .val (.ref b43), .val (.ref b43), .val (.ref b286), .val (.int (0 : Int32))] [(.int (own_ends u2))]))
        refine Go.if_ (pc' := 185) (pn := 182) X383 hx hby at_179 (by decide) (by decide) rfl (fun (c384 : (own_ends u2) = 0) => ?_) (fun (c384 : ¬ ((own_ends u2) = 0)) => ?_)
        ·
          refine Go.aload (pc' := 187) X383 hx hby at_185 rfl rfl rfl ?_
          refine Go.callS (pc' := 190) (W := 0) (argsL := [(.ref b286)]) (rest := []) X383 hx hby hZ hown (hw _ (List.mem_of_getElem? (i := 23) rfl)) (hw _ (List.mem_of_getElem? (i := 24) rfl)) (hw _ (List.mem_of_getElem? (i := 25) rfl)) (hw _ (List.mem_of_getElem? (i := 26) rfl)) (by decide) (rmCH3 l Z a0 hw b286 T310.heap h0.size kk sf u0 u1 u2 O1_ SS B0 B1 B2 S1_) e379 (by decide) (by decide) (by rw [hml]; rfl) pd_12 rfl rfl rfl (Nat.le_of_eq rfl) at_187 rfl (by decide) (by decide) ?_
          rintro r386 T387 L388 X389 ⟨rfl, rfl, e385⟩
          rw [List.append_nil] at X389
          show Go p e below _ (T387.setTop (mkF m 190 #[.val (.int x0), .val (.int x1), .val (.int x2), .val (.int x3), .val (.int (3 : Int32)), .val (.int u0), .val (.int u1), .val (.int u2), .val (.ref b1), .val (.ref b13), .val (.ref b27), .val (.ref b43), .val (.ref b43), .val (.ref b286), .val (.int (0 : Int32))] [(.int (own_can3 u0 u1 u2))]))
          refine Go.iload (pc' := 192) X389 hx hby at_190 rfl rfl ?_
          refine Go.icmpN (pc' := 195) X389 hx hby at_192 rfl (show ¬ ((own_can3 u0 u1 u2) ≠ (0 : Int32)) from fun q => q (by rw [own_r3]; simp [c318, c362, c384])) ?_
          refine Go.iconst (pc' := 196) X389 hx hby at_195 rfl (v := (1 : Int32)) (by decide) ?_
          refine Go.goto (pc' := 200) X389 hx hby at_196 (by decide) (by decide) ?_
          exact Go.retZW X389 hx hby hlk hret (by simp) at_200 (by decide) (by decide) hS (Nat.zero_le _) ⟨rfl, (Fr.app N138 N1_)⟩
        ·
          refine Go.iconst (pc' := 183) X383 hx hby at_182 rfl (v := (0 : Int32)) (by decide) ?_
          refine Go.istore (Ls' := #[.val (.int x0), .val (.int x1), .val (.int x2), .val (.int x3), .val (.int (3 : Int32)), .val (.int u0), .val (.int u1), .val (.int u2), .val (.ref b1), .val (.ref b13), .val (.ref b27), .val (.ref b43), .val (.ref b43), .val (.ref b286), .val (.int (0 : Int32))]) (pc' := 185) X383 hx hby at_183 rfl rfl ?_
          refine Go.aload (pc' := 187) X383 hx hby at_185 rfl rfl rfl ?_
          refine Go.callS (pc' := 190) (W := 0) (argsL := [(.ref b286)]) (rest := []) X383 hx hby hZ hown (hw _ (List.mem_of_getElem? (i := 23) rfl)) (hw _ (List.mem_of_getElem? (i := 24) rfl)) (hw _ (List.mem_of_getElem? (i := 25) rfl)) (hw _ (List.mem_of_getElem? (i := 26) rfl)) (by decide) (rmCH3 l Z a0 hw b286 T310.heap h0.size kk sf u0 u1 u2 O1_ SS B0 B1 B2 S1_) e379 (by decide) (by decide) (by rw [hml]; rfl) pd_12 rfl rfl rfl (Nat.le_of_eq rfl) at_187 rfl (by decide) (by decide) ?_
          rintro r391 T392 L393 X394 ⟨rfl, rfl, e390⟩
          rw [List.append_nil] at X394
          show Go p e below _ (T392.setTop (mkF m 190 #[.val (.int x0), .val (.int x1), .val (.int x2), .val (.int x3), .val (.int (3 : Int32)), .val (.int u0), .val (.int u1), .val (.int u2), .val (.ref b1), .val (.ref b13), .val (.ref b27), .val (.ref b43), .val (.ref b43), .val (.ref b286), .val (.int (0 : Int32))] [(.int (own_can3 u0 u1 u2))]))
          refine Go.iload (pc' := 192) X394 hx hby at_190 rfl rfl ?_
          refine Go.icmpN (pc' := 195) X394 hx hby at_192 rfl (show ¬ ((own_can3 u0 u1 u2) ≠ (0 : Int32)) from fun q => q (by rw [own_r3]; simp [c318, c362, c384])) ?_
          refine Go.iconst (pc' := 196) X394 hx hby at_195 rfl (v := (1 : Int32)) (by decide) ?_
          refine Go.goto (pc' := 200) X394 hx hby at_196 (by decide) (by decide) ?_
          exact Go.retZW X394 hx hby hlk hret (by simp) at_200 (by decide) (by decide) hS (Nat.zero_le _) ⟨rfl, (Fr.app N138 N1_)⟩
set_option maxRecDepth 65536 in
set_option maxHeartbeats 40000000 in
theorem comes_1 {Post : Tables → Env → Array Value → State → Outcome → State → Prop} (hpost : ∀ tb e args s v u, (limb_1_1.after args s (.returned v) u = true ∧ limb_1_2.after args s (.returned v) u = true ∧ True) → ReturnedEndW s (.returned v) u (Jvm.fieldLocs frame_1_writes args s ++ Jvm.arrayLocs frame_1_arrays args s ++ Jvm.staticLocs frame_1_statics s) 24 1152 → Post tb e args s (.returned v) u) :
    ArmFor flags0 classFile x code maxLocals ret World_1 tables_1 room_1 Calls_1 rest_1 Pre_1 Post := by
  intro l hfl _ _ p e ha hc hk s m args below hf hA hF happ hP
  obtain ⟨hcalls, hrest, hpre⟩ := hP
  obtain ⟨-, -, -, hnamed, -, -, -, hat⟩ := (Spec.applies_iff hf).mp happ
  obtain ⟨hg, hn⟩ := and_e (Cond.before_iff.mp (show (Jvm.Cond.and given_1 narrow_1).before args s = true from hpre))
  obtain ⟨h1, g0⟩ := and_e hg
  obtain ⟨w0, w1, w2, w3, rfl⟩ : ∃ w0 w1 w2 w3 : Value, args = #[w0, w1, w2, w3] := by
    have hs : args.size = 4 := by simpa [Cond.value, given_1] using h1
    obtain ⟨L⟩ := args
    match L, hs with
    | [w0, w1, w2, w3], _ => exact ⟨w0, w1, w2, w3, rfl⟩
  have hw := fun d (hd : d ∈ tables_1) => atoms_spec (ws := Jvm.Cond.code x code maxLocals ret :: tables_1) hat d (List.mem_cons_of_mem _ hd)
  have hfit : Fit s := fun {y c} hc i hi => by
    obtain ⟨ha, rfl⟩ := Array.getElem?_eq_some_iff.mp hc
    have q := List.all_eq_true.mp ((Array.all_eq_true_iff_forall_mem.mp hF) _ (Array.getElem_mem ha)) i (List.mem_range.mpr hi)
    simpa [Array.getElem?_eq_getElem hi] using q
  obtain ⟨k0, g1⟩ := and_e g0
  obtain ⟨i0, e0⟩ := is_v k0
  obtain rfl : w0 = (.int i0) := Option.some.inj e0
  obtain ⟨k1, g2⟩ := and_e g1
  obtain ⟨i1, e1⟩ := is_v k1
  obtain rfl : w1 = (.int i1) := Option.some.inj e1
  obtain ⟨k2, g3⟩ := and_e g2
  obtain ⟨i2, e2⟩ := is_v k2
  obtain rfl : w2 = (.int i2) := Option.some.inj e2
  obtain ⟨i3, e3⟩ := is_v g3
  obtain rfl : w3 = (.int i3) := Option.some.inj e3
  obtain ⟨hsets, -⟩ := atoms_of jdkStatics_1 (by rw [← rest_1_c_eq]; exact hrest)
  have hset := fun (k : Nat) (d : Jvm.Cond) (hk : jdkStatics_1[k]? = some d) => hsets d (List.mem_of_getElem? hk)
  obtain ⟨kk, ev0⟩ := is_v (Cond.before_iff.mp (hset 1 _ rfl))
  have hkk := own_nei (Cond.before_iff.mp (hset 2 _ rfl)) ev0
  have S0 := Sta.start ev0 (Or.inl (hset 0 _ rfl))
  have S1 := Sta.start (own_eqi (Cond.before_iff.mp (hset 12 _ rfl))) (Or.inl (hset 11 _ rfl))
  have S2 := Sta.start (own_eqi (Cond.before_iff.mp (hset 15 _ rfl))) (Or.inl (hset 14 _ rfl))
  have S3 := Sta.start (own_eqi (Cond.before_iff.mp (hset 18 _ rfl))) (Or.inl (hset 17 _ rfl))
  obtain ⟨sf, ev4, hsf⟩ := isR_v (Cond.before_iff.mp (hset 8 _ rfl))
  have S4 := Sta.start ev4 (Or.inl (hset 7 _ rfl))
  have hsf' : sf = .null ∨ ∃ r, sf = .ref r := by cases sf <;> simp [Value.isRef] at hsf ⊢
  have SS : own_S s kk sf := ⟨hkk, S0, S1, S2, S3, S4, hsf'⟩
  have HC : CHv s own_EL s.vm s.heap := CHv.start (own_ew (hw _ (List.mem_of_getElem? (i := 15) rfl))) (fun q hq => hcalls.1 q hq) (hset 2 _ rfl) (hw _ (List.mem_of_getElem? (i := 16) rfl)) (hw _ (List.mem_of_getElem? (i := 3) rfl))
  obtain ⟨n, o, h1, h2, h3, _, L, rfl, ⟨rfl, N⟩, hq⟩ := rm0 l s _ hw i0 i1 i2 i3 s.heap kk sf (Old.start s) SS rfl p e ha hc hk s m _ below hf ((Spec.applies_iff_loose hf).mp happ).1 ⟨rfl, State.Warmed39.refl s, rfl, HC⟩ trivial
  refine ⟨n, _, h1, h2, h3, hpost _ _ _ _ _ _ ⟨Cond.after_iff.mpr rfl, Cond.after_iff.mpr (eq_i res_at (Term.int_eval (1)) rfl), trivial⟩ ⟨hq.1, hq.2.1, hq.2.2.1, (hq.2.2.2.sift fun y hy => Or.inr (N y hy)).mono (by decide) (by decide)⟩⟩
theorem main_1_1 : Claimed_1_1 := comes_1 fun _ _ _ _ _ _ h hF => ⟨h.1, hF⟩
theorem main_1_2 : Claimed_1_2 := comes_1 fun _ _ _ _ _ _ h hF => ⟨h.2.1, hF⟩
end Jvm.Pilot.@@N@@
namespace Jvm.Pilot.@@N@@
open Jvm Jvm.ClassFile Sem Op Lib Jvm.Free Jvm.Stand Jvm.Pilot.@@N@@.Jvm.D
/-! MADE BY PROGRAM (witnessworld.py) out of the Statement's table words and the real class files: 21 classes; the members and pool entries that the words name. The judged class is class 1, her method 2. -/
namespace start1
open Jvm.ClassFile
def u (s : String) : CpInfo := .utf8 (stringToUtf16 s)
/-- a pool by its gaps: so many unusable entries, then the entry; so many at the end -/
def gap : Nat → List CpInfo → List CpInfo
  | 0, r => r
  | n + 1, r => .unusable :: gap n r
def poolList (es : List (Nat × CpInfo)) (last : Nat) : List CpInfo := es.foldr (fun e r => gap e.1 (e.2 :: r)) (gap last [])
def pool (es : List (Nat × CpInfo)) (last : Nat) : Array CpInfo := ⟨poolList es last⟩
def fileOf (pool : Array CpInfo) (this : Nat) (attrs : Array Attribute := #[]) (ms : Array MethodInfo := #[]) (fl : Nat := 33) (sup : Nat := 0) (ifs : Array Nat := #[]) (fds : Array FieldInfo := #[]) : ClassFile where
  minorVersion := 0
  majorVersion := 65
  constantPool := pool
  accessFlags := fl
  thisClass := this
  superClass := sup
  interfaces := ifs
  fields := fds
  methods := ms
  attributes := attrs
def plain (name : String) (sup : Option ClassId) : Class where
  name := name
  kind := .ordinary
  loader := none
  accessFlags := 33
  super := sup
  interfaces := #[]
  cf := none
  fields := #[]
  methods := #[]
  instanceTypes := #[]
  staticTypes := #[]
  resolved := #[]
  callSites := []
  init := .initialized
  statics := none
  mirror := none

def pool0 : Array CpInfo := pool [(5, u "<init>"), (0, u "()V"), (1, .class_ 10), (1, u "java/lang/Object")] 113

def k0c0 : Code := { maxStack := 0, maxLocals := 1, code := object_method_1_code, exceptionTable := #[], attributes := #[] }
def k0m0 : Method := { name := "<init>", desc := "()V", sig := { parameters := [], returnType := none }, accessFlags := 1, code := some k0c0 }
/-- java/lang/Object -/
def k0 : Class := { plain "java/lang/Object" none with
  accessFlags := 33
  interfaces := #[]
  cf := some (fileOf pool0 8 #[] #[{ accessFlags := 1, nameIndex := 5, descriptorIndex := 6, attributes := #[] }] 33 0 #[] #[])
  fields := #[]
  methods := #[k0m0]
  instanceTypes := #[]
  staticTypes := #[]
  resolved := Array.replicate 124 none
  statics := none }

def pool1 : Array CpInfo := pool [(2, .class_ 4), (1, u "java/lang/Object"), (0, u "<init>"), (0, u "()V"), (0, .integer 65535), (0, .class_ 9), (0, u "java/lang/String"), (0, .methodref 8 11), (0, .nameAndType 5 12), (0, u "([C)V"), (0, .methodref 14 15), (0, .class_ 16), (0, .nameAndType 17 18), (0, u "com/example/tame_recursion/tamerecursion/io/FactsFileCanHoldPinLaw"), (0, u "endsValue"), (0, u "(C)Z"), (0, .methodref 20 21), (0, .class_ 22), (0, .nameAndType 23 24), (0, u "com/example/tame_recursion/tamerecursion/io/FactsFile"), (0, u "canHold"), (0, u "(Ljava/lang/String;)Z"), (3, u "law"), (0, u "(IIII)Z")] 4

def k1m0 : Method := { name := "<init>", desc := "()V", sig := { parameters := [], returnType := none }, accessFlags := 2, code := none }
def k1c1 : Code := { maxStack := 2, maxLocals := 1, code := method_2_code, exceptionTable := #[], attributes := #[] }
def k1m1 : Method := { name := "endsValue", desc := "(C)Z", sig := { parameters := [.char], returnType := some .boolean }, accessFlags := 10, code := some k1c1 }
def k1c2 : Code := { maxStack := 3, maxLocals := 15, code := code, exceptionTable := #[], attributes := #[] }
def k1m2 : Method := { name := "law", desc := "(IIII)Z", sig := { parameters := [.int, .int, .int, .int], returnType := some .boolean }, accessFlags := 9, code := some k1c2 }
/-- com/example/tame_recursion/tamerecursion/io/FactsFileCanHoldPinLaw -/
def k1 : Class := { plain "com/example/tame_recursion/tamerecursion/io/FactsFileCanHoldPinLaw" (some 0) with
  accessFlags := 49
  interfaces := #[]
  cf := some (fileOf pool1 14 #[] #[{ accessFlags := 2, nameIndex := 5, descriptorIndex := 6, attributes := #[] }, { accessFlags := 10, nameIndex := 17, descriptorIndex := 18, attributes := #[] }, { accessFlags := 9, nameIndex := 28, descriptorIndex := 29, attributes := #[] }] 49 2 #[] #[])
  fields := #[]
  methods := #[k1m0, k1m1, k1m2]
  instanceTypes := #[]
  staticTypes := #[]
  resolved := Array.replicate 34 none
  statics := none }

def pool2 : Array CpInfo := pool [(1, .class_ 2), (0, u "java/io/Serializable"), (0, .class_ 4), (0, u "java/lang/Object")] 2

/-- java/io/Serializable -/
def k2 : Class := { plain "java/io/Serializable" (some 0) with
  accessFlags := 1537
  interfaces := #[]
  cf := some (fileOf pool2 1 #[] #[] 1537 3 #[] #[])
  fields := #[]
  methods := #[]
  instanceTypes := #[]
  staticTypes := #[]
  resolved := Array.replicate 7 none
  statics := none }

def pool3 : Array CpInfo := pool [(1, .class_ 2), (0, u "java/lang/Comparable"), (0, .class_ 4), (0, u "java/lang/Object")] 7

/-- java/lang/Comparable -/
def k3 : Class := { plain "java/lang/Comparable" (some 0) with
  accessFlags := 1537
  interfaces := #[]
  cf := some (fileOf pool3 1 #[] #[] 1537 3 #[] #[])
  fields := #[]
  methods := #[]
  instanceTypes := #[]
  staticTypes := #[]
  resolved := Array.replicate 12 none
  statics := none }

def pool4 : Array CpInfo := pool [(2, .class_ 4), (1, u "java/lang/CharSequence"), (42, .class_ 48), (0, u "java/lang/CharSequence$1CodePointIterator"), (10, .class_ 60), (0, u "java/lang/CharSequence$1CharIterator"), (5, .class_ 67), (0, u "java/lang/Object")] 63

/-- java/lang/CharSequence -/
def k4 : Class := { plain "java/lang/CharSequence" (some 0) with
  accessFlags := 1537
  interfaces := #[]
  cf := some (fileOf pool4 2 #[.nestMembers #[47, 59]] #[] 1537 66 #[] #[])
  fields := #[]
  methods := #[]
  instanceTypes := #[]
  staticTypes := #[]
  resolved := Array.replicate 131 none
  statics := none }

def pool5 : Array CpInfo := pool [(1, .class_ 2), (0, u "java/lang/constant/Constable"), (0, .class_ 4), (0, u "java/lang/Object")] 6

/-- java/lang/constant/Constable -/
def k5 : Class := { plain "java/lang/constant/Constable" (some 0) with
  accessFlags := 1537
  interfaces := #[]
  cf := some (fileOf pool5 1 #[] #[] 1537 3 #[] #[])
  fields := #[]
  methods := #[]
  instanceTypes := #[]
  staticTypes := #[]
  resolved := Array.replicate 11 none
  statics := none }

def pool6 : Array CpInfo := pool [(1, .class_ 2), (0, u "java/lang/constant/ConstantDesc"), (0, .class_ 4), (0, u "java/lang/Object")] 32

/-- java/lang/constant/ConstantDesc -/
def k6 : Class := { plain "java/lang/constant/ConstantDesc" (some 0) with
  accessFlags := 1537
  interfaces := #[]
  cf := some (fileOf pool6 1 #[] #[] 1537 3 #[] #[])
  fields := #[]
  methods := #[]
  instanceTypes := #[]
  staticTypes := #[]
  resolved := Array.replicate 37 none
  statics := none }

def pool7 : Array CpInfo := pool [(1, .methodref 2 3), (0, .class_ 4), (0, .nameAndType 5 6), (0, u "java/lang/Object"), (0, u "<init>"), (0, u "()V"), (0, .string 8), (0, u ""), (0, .fieldref 10 11), (0, .class_ 12), (0, .nameAndType 13 14), (0, u "java/lang/String"), (0, u "value"), (0, u "[B"), (0, .fieldref 10 16), (0, .nameAndType 17 18), (0, u "coder"), (0, u "B"), (2, u "hash"), (0, u "I"), (2, u "hashIsZero"), (0, u "Z"), (0, .methodref 10 28), (0, .nameAndType 5 29), (0, u "([CIILjava/lang/Void;)V"), (8, .fieldref 10 39), (0, .nameAndType 40 26), (0, u "COMPACT_STRINGS"), (1, .class_ 44), (1, u "java/lang/StringUTF16"), (0, u "compress"), (1, .methodref 42 48), (0, .nameAndType 49 50), (0, u "coderFromArrayLen"), (0, u "([BI)B"), (56, .class_ 109), (1, u "java/lang/StringLatin1"), (32, u "()Z"), (34, .methodref 42 178), (0, .nameAndType 45 179), (0, u "([CII)[B"), (154, u "()I"), (0, .methodref 10 336), (0, .nameAndType 17 337), (0, u "()B"), (154, .methodref 10 493), (0, .nameAndType 494 142), (0, u "isLatin1"), (10, .methodref 10 506), (0, .nameAndType 507 334), (0, u "length"), (5, u "checkFromToIndex"), (9, u "checkBoundsBeginEnd"), (0, u "(III)V"), (50, .class_ 576), (0, u "java/lang/CharSequence"), (22, u "CASE_INSENSITIVE_ORDER"), (0, u "Ljava/util/Comparator;"), (32, .methodref 10 634), (0, .nameAndType 635 636), (0, u "indexOf"), (0, u "(II)I"), (0, .methodref 107 638), (0, .nameAndType 635 639), (0, u "([BIII)I"), (0, .methodref 42 638), (124, u "(I)I"), (244, u "([C)V"), (42, .fieldref 1054 1055), (0, .class_ 1056), (0, .nameAndType 1057 1058), (0, u "jdk/internal/util/Preconditions"), (0, u "SIOOBE_FORMATTER"), (0, u "Ljava/util/function/BiFunction;"), (3, .methodref 1054 1063), (0, .nameAndType 513 1064), (0, u "(IIILjava/util/function/BiFunction;)I"), (36, u "serialPersistentFields"), (0, u "[Ljava/io/ObjectStreamField;"), (0, .class_ 1104), (0, u "java/lang/String$CaseInsensitiveComparator"), (1, .class_ 1107), (0, u "java/io/Serializable"), (0, .class_ 1109), (0, u "java/lang/Comparable"), (0, .class_ 1111), (0, u "java/lang/constant/Constable"), (0, .class_ 1113), (0, u "java/lang/constant/ConstantDesc"), (2, u "serialVersionUID"), (0, u "J"), (3, u "REPL"), (0, u "C"), (2, u "LATIN1"), (1, u "UTF16")] 323

def k7m0 : Method := { name := "<init>", desc := "()V", sig := { parameters := [], returnType := none }, accessFlags := 1, code := none }
def k7c1 : Code := { maxStack := 5, maxLocals := 2, code := jdk_42_method_3_code, exceptionTable := #[], attributes := #[] }
def k7m1 : Method := { name := "<init>", desc := "([C)V", sig := { parameters := [(.array .char)], returnType := none }, accessFlags := 1, code := some k7c1 }
def k7c2 : Code := { maxStack := 2, maxLocals := 1, code := jdk_42_method_54_code, exceptionTable := #[], attributes := #[] }
def k7m2 : Method := { name := "length", desc := "()I", sig := { parameters := [], returnType := some .int }, accessFlags := 1, code := some k7c2 }
def k7c3 : Code := { maxStack := 3, maxLocals := 2, code := jdk_42_method_79_code, exceptionTable := #[], attributes := #[] }
def k7m3 : Method := { name := "indexOf", desc := "(I)I", sig := { parameters := [.int], returnType := some .int }, accessFlags := 1, code := some k7c3 }
def k7c4 : Code := { maxStack := 4, maxLocals := 3, code := jdk_42_method_80_code, exceptionTable := #[], attributes := #[] }
def k7m4 : Method := { name := "indexOf", desc := "(II)I", sig := { parameters := [.int, .int], returnType := some .int }, accessFlags := 1, code := some k7c4 }
def k7c5 : Code := { maxStack := 4, maxLocals := 6, code := jdk_42_method_149_code, exceptionTable := #[], attributes := #[] }
def k7m5 : Method := { name := "<init>", desc := "([CIILjava/lang/Void;)V", sig := { parameters := [(.array .char), .int, .int, (.object "java/lang/Void")], returnType := none }, accessFlags := 2, code := some k7c5 }
def k7c6 : Code := { maxStack := 1, maxLocals := 1, code := jdk_42_method_152_code, exceptionTable := #[], attributes := #[] }
def k7m6 : Method := { name := "coder", desc := "()B", sig := { parameters := [], returnType := some .byte }, accessFlags := 0, code := some k7c6 }
def k7c7 : Code := { maxStack := 1, maxLocals := 1, code := jdk_42_method_154_code, exceptionTable := #[], attributes := #[] }
def k7m7 : Method := { name := "isLatin1", desc := "()Z", sig := { parameters := [], returnType := some .boolean }, accessFlags := 0, code := some k7c7 }
def k7c8 : Code := { maxStack := 4, maxLocals := 3, code := jdk_42_method_158_code, exceptionTable := #[], attributes := #[] }
def k7m8 : Method := { name := "checkBoundsBeginEnd", desc := "(III)V", sig := { parameters := [.int, .int, .int], returnType := none }, accessFlags := 8, code := some k7c8 }
/-- java/lang/String -/
def k7 : Class := { plain "java/lang/String" (some 0) with
  accessFlags := 49
  interfaces := #[2, 3, 4, 5, 6]
  cf := some (fileOf pool7 10 #[.nestMembers #[1103]] #[{ accessFlags := 1, nameIndex := 5, descriptorIndex := 6, attributes := #[] }, { accessFlags := 1, nameIndex := 5, descriptorIndex := 1010, attributes := #[] }, { accessFlags := 1, nameIndex := 507, descriptorIndex := 334, attributes := #[] }, { accessFlags := 1, nameIndex := 635, descriptorIndex := 765, attributes := #[] }, { accessFlags := 1, nameIndex := 635, descriptorIndex := 636, attributes := #[] }, { accessFlags := 2, nameIndex := 5, descriptorIndex := 29, attributes := #[] }, { accessFlags := 0, nameIndex := 17, descriptorIndex := 337, attributes := #[] }, { accessFlags := 0, nameIndex := 494, descriptorIndex := 142, attributes := #[] }, { accessFlags := 8, nameIndex := 523, descriptorIndex := 524, attributes := #[] }] 49 2 #[1106, 1108, 575, 1110, 1112] #[{ accessFlags := 18, nameIndex := 13, descriptorIndex := 14, attributes := #[] }, { accessFlags := 18, nameIndex := 17, descriptorIndex := 18, attributes := #[] }, { accessFlags := 2, nameIndex := 21, descriptorIndex := 22, attributes := #[] }, { accessFlags := 2, nameIndex := 25, descriptorIndex := 26, attributes := #[] }, { accessFlags := 26, nameIndex := 1116, descriptorIndex := 1117, attributes := #[] }, { accessFlags := 24, nameIndex := 40, descriptorIndex := 26, attributes := #[] }, { accessFlags := 26, nameIndex := 1101, descriptorIndex := 1102, attributes := #[] }, { accessFlags := 26, nameIndex := 1121, descriptorIndex := 1122, attributes := #[] }, { accessFlags := 25, nameIndex := 599, descriptorIndex := 600, attributes := #[] }, { accessFlags := 24, nameIndex := 1125, descriptorIndex := 18, attributes := #[] }, { accessFlags := 24, nameIndex := 1127, descriptorIndex := 18, attributes := #[] }])
  fields := #[{ name := "value", type := (.array .byte), accessFlags := 18, slot := 0, constantValue := 0 }, { name := "coder", type := .byte, accessFlags := 18, slot := 1, constantValue := 0 }, { name := "hash", type := .int, accessFlags := 2, slot := 2, constantValue := 0 }, { name := "hashIsZero", type := .boolean, accessFlags := 2, slot := 3, constantValue := 0 }, { name := "serialVersionUID", type := .long, accessFlags := 26, slot := 0, constantValue := 0 }, { name := "COMPACT_STRINGS", type := .boolean, accessFlags := 24, slot := 1, constantValue := 0 }, { name := "serialPersistentFields", type := (.array (.object "java/io/ObjectStreamField")), accessFlags := 26, slot := 2, constantValue := 0 }, { name := "REPL", type := .char, accessFlags := 26, slot := 3, constantValue := 0 }, { name := "CASE_INSENSITIVE_ORDER", type := (.object "java/util/Comparator"), accessFlags := 25, slot := 4, constantValue := 0 }, { name := "LATIN1", type := .byte, accessFlags := 24, slot := 5, constantValue := 0 }, { name := "UTF16", type := .byte, accessFlags := 24, slot := 6, constantValue := 0 }]
  methods := #[k7m0, k7m1, k7m2, k7m3, k7m4, k7m5, k7m6, k7m7, k7m8]
  instanceTypes := #[(.array .byte), .byte, .int, .boolean]
  staticTypes := #[.long, .boolean, (.array (.object "java/io/ObjectStreamField")), .char, (.object "java/util/Comparator"), .byte, .byte]
  resolved := Array.replicate 1451 none
  statics := some 0 }

def pool8 : Array CpInfo := pool [(2, .class_ 4), (1, u "java/lang/Object"), (3, .class_ 10), (1, u "com/example/tame_recursion/tamerecursion/io/FactsFile"), (0, u "values"), (0, u "[I"), (2, u "name"), (0, u "Ljava/lang/String;"), (8, u "format"), (0, u "Lcom/example/tame_recursion/tamerecursion/io/FactsFormat;"), (10, u "records"), (0, u "Lcom/example/tame_recursion/tamerecursion/io/CsvRecords;"), (2, u "predicate"), (0, u "Lcom/example/tame_recursion/tamerecursion/model/Predicate;"), (4, u "arity"), (3, u "I"), (2, u "unread"), (0, u "[Z"), (2, u "symbols"), (0, u "Lcom/example/tame_recursion/tamerecursion/model/SymbolTable;"), (24, .class_ 86), (1, u "java/lang/String"), (13, .methodref 84 101), (0, .nameAndType 102 103), (0, u "indexOf"), (0, u "(I)I"), (2, u "BYTE_ORDER_MARK"), (0, u "[B"), (8, u "size"), (2, u "valueCount"), (59, u "lineValues"), (12, u "lineNumber"), (0, u "J"), (34, u "decoder"), (0, u "Ljava/nio/charset/CharsetDecoder;"), (35, u "TAB"), (0, u "B"), (2, u "NEWLINE"), (1, u "BUFFER_SIZE"), (11, u "canHold"), (0, u "(Ljava/lang/String;)Z")] 30

def k8c0 : Code := { maxStack := 2, maxLocals := 1, code := prog_42_method_5_code, exceptionTable := #[], attributes := #[] }
def k8m0 : Method := { name := "canHold", desc := "(Ljava/lang/String;)Z", sig := { parameters := [(.object "java/lang/String")], returnType := some .boolean }, accessFlags := 9, code := some k8c0 }
/-- com/example/tame_recursion/tamerecursion/io/FactsFile -/
def k8 : Class := { plain "com/example/tame_recursion/tamerecursion/io/FactsFile" (some 0) with
  accessFlags := 49
  interfaces := #[]
  cf := some (fileOf pool8 8 #[] #[{ accessFlags := 9, nameIndex := 283, descriptorIndex := 284, attributes := #[] }] 49 2 #[] #[{ accessFlags := 26, nameIndex := 265, descriptorIndex := 266, attributes := #[] }, { accessFlags := 26, nameIndex := 269, descriptorIndex := 266, attributes := #[] }, { accessFlags := 26, nameIndex := 271, descriptorIndex := 51, attributes := #[] }, { accessFlags := 24, nameIndex := 106, descriptorIndex := 107, attributes := #[] }, { accessFlags := 18, nameIndex := 15, descriptorIndex := 16, attributes := #[] }, { accessFlags := 18, nameIndex := 25, descriptorIndex := 26, attributes := #[] }, { accessFlags := 18, nameIndex := 37, descriptorIndex := 38, attributes := #[] }, { accessFlags := 2, nameIndex := 41, descriptorIndex := 42, attributes := #[] }, { accessFlags := 2, nameIndex := 47, descriptorIndex := 51, attributes := #[] }, { accessFlags := 18, nameIndex := 54, descriptorIndex := 55, attributes := #[] }, { accessFlags := 18, nameIndex := 58, descriptorIndex := 59, attributes := #[] }, { accessFlags := 2, nameIndex := 228, descriptorIndex := 229, attributes := #[] }, { accessFlags := 2, nameIndex := 11, descriptorIndex := 12, attributes := #[] }, { accessFlags := 2, nameIndex := 119, descriptorIndex := 51, attributes := #[] }, { accessFlags := 2, nameIndex := 116, descriptorIndex := 51, attributes := #[] }, { accessFlags := 2, nameIndex := 192, descriptorIndex := 193, attributes := #[] }, { accessFlags := 2, nameIndex := 179, descriptorIndex := 51, attributes := #[] }])
  fields := #[{ name := "TAB", type := .byte, accessFlags := 26, slot := 0, constantValue := 0 }, { name := "NEWLINE", type := .byte, accessFlags := 26, slot := 1, constantValue := 0 }, { name := "BUFFER_SIZE", type := .int, accessFlags := 26, slot := 2, constantValue := 0 }, { name := "BYTE_ORDER_MARK", type := (.array .byte), accessFlags := 24, slot := 3, constantValue := 0 }, { name := "name", type := (.object "java/lang/String"), accessFlags := 18, slot := 0, constantValue := 0 }, { name := "format", type := (.object "com/example/tame_recursion/tamerecursion/io/FactsFormat"), accessFlags := 18, slot := 1, constantValue := 0 }, { name := "records", type := (.object "com/example/tame_recursion/tamerecursion/io/CsvRecords"), accessFlags := 18, slot := 2, constantValue := 0 }, { name := "predicate", type := (.object "com/example/tame_recursion/tamerecursion/model/Predicate"), accessFlags := 2, slot := 3, constantValue := 0 }, { name := "arity", type := .int, accessFlags := 2, slot := 4, constantValue := 0 }, { name := "unread", type := (.array .boolean), accessFlags := 18, slot := 5, constantValue := 0 }, { name := "symbols", type := (.object "com/example/tame_recursion/tamerecursion/model/SymbolTable"), accessFlags := 18, slot := 6, constantValue := 0 }, { name := "decoder", type := (.object "java/nio/charset/CharsetDecoder"), accessFlags := 2, slot := 7, constantValue := 0 }, { name := "values", type := (.array .int), accessFlags := 2, slot := 8, constantValue := 0 }, { name := "valueCount", type := .int, accessFlags := 2, slot := 9, constantValue := 0 }, { name := "size", type := .int, accessFlags := 2, slot := 10, constantValue := 0 }, { name := "lineNumber", type := .long, accessFlags := 2, slot := 11, constantValue := 0 }, { name := "lineValues", type := .int, accessFlags := 2, slot := 12, constantValue := 0 }]
  methods := #[k8m0]
  instanceTypes := #[(.object "java/lang/String"), (.object "com/example/tame_recursion/tamerecursion/io/FactsFormat"), (.object "com/example/tame_recursion/tamerecursion/io/CsvRecords"), (.object "com/example/tame_recursion/tamerecursion/model/Predicate"), .int, (.array .boolean), (.object "com/example/tame_recursion/tamerecursion/model/SymbolTable"), (.object "java/nio/charset/CharsetDecoder"), (.array .int), .int, .int, .long, .int]
  staticTypes := #[.byte, .byte, .int, (.array .byte)]
  resolved := Array.replicate 315 none
  statics := none }

def pool9 : Array CpInfo := pool [(4, .class_ 6), (1, u "java/lang/Object"), (0, u "<init>"), (0, u "()V"), (5, .class_ 16), (1, u "java/lang/StringLatin1"), (21, .methodref 39 40), (0, .class_ 41), (0, .nameAndType 42 43), (0, u "java/lang/Math"), (0, u "min"), (0, u "(II)I"), (44, .methodref 14 89), (0, .nameAndType 90 91), (0, u "canEncode"), (0, u "(I)Z"), (0, .methodref 39 93), (0, .nameAndType 94 43), (0, u "max"), (0, .methodref 14 96), (0, .nameAndType 97 98), (0, u "indexOfChar"), (0, u "([BIII)I"), (2, u "indexOf"), (19, u "$assertionsDisabled"), (0, u "Z"), (98, .class_ 223), (1, u "java/lang/StringLatin1$LinesSpliterator"), (166, .class_ 391), (0, u "java/lang/StringLatin1$CharsSpliterator")] 3

def k9m0 : Method := { name := "<init>", desc := "()V", sig := { parameters := [], returnType := none }, accessFlags := 0, code := none }
def k9c1 : Code := { maxStack := 2, maxLocals := 1, code := jdk_43_method_4_code, exceptionTable := #[], attributes := #[] }
def k9m1 : Method := { name := "canEncode", desc := "(I)Z", sig := { parameters := [.int], returnType := some .boolean }, accessFlags := 9, code := some k9c1 }
def k9c2 : Code := { maxStack := 4, maxLocals := 4, code := jdk_43_method_22_code, exceptionTable := #[], attributes := #[] }
def k9m2 : Method := { name := "indexOf", desc := "([BIII)I", sig := { parameters := [(.array .byte), .int, .int, .int], returnType := some .int }, accessFlags := 9, code := some k9c2 }
def k9c3 : Code := { maxStack := 2, maxLocals := 6, code := jdk_43_method_23_code, exceptionTable := #[], attributes := #[] }
def k9m3 : Method := { name := "indexOfChar", desc := "([BIII)I", sig := { parameters := [(.array .byte), .int, .int, .int], returnType := some .int }, accessFlags := 10, code := some k9c3 }
/-- java/lang/StringLatin1 -/
def k9 : Class := { plain "java/lang/StringLatin1" (some 0) with
  accessFlags := 48
  interfaces := #[]
  cf := some (fileOf pool9 14 #[.nestMembers #[390, 221]] #[{ accessFlags := 0, nameIndex := 7, descriptorIndex := 8, attributes := #[] }, { accessFlags := 9, nameIndex := 90, descriptorIndex := 91, attributes := #[] }, { accessFlags := 9, nameIndex := 101, descriptorIndex := 98, attributes := #[] }, { accessFlags := 10, nameIndex := 97, descriptorIndex := 98, attributes := #[] }] 48 4 #[] #[{ accessFlags := 4120, nameIndex := 121, descriptorIndex := 122, attributes := #[] }])
  fields := #[{ name := "$assertionsDisabled", type := .boolean, accessFlags := 4120, slot := 0, constantValue := 0 }]
  methods := #[k9m0, k9m1, k9m2, k9m3]
  instanceTypes := #[]
  staticTypes := #[.boolean]
  resolved := Array.replicate 395 none
  statics := none }

def pool10 : Array CpInfo := pool [(1, .class_ 2), (0, u "java/lang/Math"), (1, .class_ 6), (1, u "java/lang/Object"), (0, u "<init>"), (0, u "()V"), (89, .class_ 100), (1, u "java/lang/Math$RandomNumberGeneratorHolder"), (71, u "negativeZeroFloatBits"), (0, u "J"), (2, u "negativeZeroDoubleBits"), (21, u "max"), (2, u "min"), (43, u "$assertionsDisabled"), (0, u "Z"), (88, u "(II)I"), (2, u "twoToTheDoubleScaleDown"), (0, u "D"), (4, u "twoToTheDoubleScaleUp"), (9, u "E"), (3, u "PI"), (2, u "TAU"), (2, u "DEGREES_TO_RADIANS"), (0, u "RADIANS_TO_DEGREES")] 94

def k10m0 : Method := { name := "<init>", desc := "()V", sig := { parameters := [], returnType := none }, accessFlags := 2, code := none }
def k10c1 : Code := { maxStack := 2, maxLocals := 2, code := jdk_29_method_65_code, exceptionTable := #[], attributes := #[] }
def k10m1 : Method := { name := "max", desc := "(II)I", sig := { parameters := [.int, .int], returnType := some .int }, accessFlags := 9, code := some k10c1 }
def k10c2 : Code := { maxStack := 2, maxLocals := 2, code := jdk_29_method_69_code, exceptionTable := #[], attributes := #[] }
def k10m2 : Method := { name := "min", desc := "(II)I", sig := { parameters := [.int, .int], returnType := some .int }, accessFlags := 9, code := some k10c2 }
/-- java/lang/Math -/
def k10 : Class := { plain "java/lang/Math" (some 0) with
  accessFlags := 49
  interfaces := #[]
  cf := some (fileOf pool10 1 #[.nestMembers #[98]] #[{ accessFlags := 2, nameIndex := 7, descriptorIndex := 8, attributes := #[] }, { accessFlags := 9, nameIndex := 198, descriptorIndex := 335, attributes := #[] }, { accessFlags := 9, nameIndex := 201, descriptorIndex := 335, attributes := #[] }] 49 4 #[] #[{ accessFlags := 25, nameIndex := 354, descriptorIndex := 339, attributes := #[] }, { accessFlags := 25, nameIndex := 358, descriptorIndex := 339, attributes := #[] }, { accessFlags := 25, nameIndex := 361, descriptorIndex := 339, attributes := #[] }, { accessFlags := 26, nameIndex := 364, descriptorIndex := 339, attributes := #[] }, { accessFlags := 26, nameIndex := 365, descriptorIndex := 339, attributes := #[] }, { accessFlags := 26, nameIndex := 172, descriptorIndex := 173, attributes := #[] }, { accessFlags := 26, nameIndex := 176, descriptorIndex := 173, attributes := #[] }, { accessFlags := 8, nameIndex := 344, descriptorIndex := 339, attributes := #[] }, { accessFlags := 8, nameIndex := 338, descriptorIndex := 339, attributes := #[] }, { accessFlags := 4120, nameIndex := 245, descriptorIndex := 246, attributes := #[] }])
  fields := #[{ name := "E", type := .double, accessFlags := 25, slot := 0, constantValue := 0 }, { name := "PI", type := .double, accessFlags := 25, slot := 1, constantValue := 0 }, { name := "TAU", type := .double, accessFlags := 25, slot := 2, constantValue := 0 }, { name := "DEGREES_TO_RADIANS", type := .double, accessFlags := 26, slot := 3, constantValue := 0 }, { name := "RADIANS_TO_DEGREES", type := .double, accessFlags := 26, slot := 4, constantValue := 0 }, { name := "negativeZeroFloatBits", type := .long, accessFlags := 26, slot := 5, constantValue := 0 }, { name := "negativeZeroDoubleBits", type := .long, accessFlags := 26, slot := 6, constantValue := 0 }, { name := "twoToTheDoubleScaleUp", type := .double, accessFlags := 8, slot := 7, constantValue := 0 }, { name := "twoToTheDoubleScaleDown", type := .double, accessFlags := 8, slot := 8, constantValue := 0 }, { name := "$assertionsDisabled", type := .boolean, accessFlags := 4120, slot := 9, constantValue := 0 }]
  methods := #[k10m0, k10m1, k10m2]
  instanceTypes := #[]
  staticTypes := #[.double, .double, .double, .double, .double, .long, .long, .double, .double, .boolean]
  resolved := Array.replicate 460 none
  statics := none }

def pool11 : Array CpInfo := pool [(3, .class_ 4), (0, u "java/lang/String"), (1, .class_ 8), (1, u "java/lang/Object"), (0, u "<init>"), (0, u "()V"), (0, .methodref 12 13), (0, .class_ 14), (0, .nameAndType 15 16), (0, u "java/lang/StringUTF16"), (0, u "newBytesLength"), (0, u "(I)I"), (3, .integer 1073741823), (23, .fieldref 12 45), (0, .nameAndType 46 47), (0, u "$assertionsDisabled"), (0, u "Z"), (0, .methodref 12 49), (0, .nameAndType 50 51), (0, u "length"), (0, u "([B)I"), (7, .fieldref 12 60), (0, .nameAndType 61 62), (0, u "HI_BYTE_SHIFT"), (0, u "I"), (0, .fieldref 12 64), (0, .nameAndType 65 62), (0, u "LO_BYTE_SHIFT"), (5, .methodref 12 72), (0, .nameAndType 73 74), (0, u "getChar"), (0, u "([BI)C"), (21, .methodref 12 97), (0, .nameAndType 98 99), (0, u "checkBoundsBeginEnd"), (0, u "(II[B)V"), (7, .methodref 12 108), (0, .nameAndType 109 110), (0, u "newBytesFor"), (0, u "(I)[B"), (0, .methodref 12 112), (0, .nameAndType 113 114), (0, u "putChar"), (0, u "([BII)V"), (0, .methodref 12 116), (0, .nameAndType 117 118), (0, u "compress"), (0, u "([CI[BII)I"), (0, .methodref 12 120), (0, .nameAndType 121 122), (0, u "toBytes"), (0, u "([CII)[B"), (60, .methodref 184 185), (0, .class_ 186), (0, .nameAndType 187 188), (0, u "java/lang/Math"), (0, u "min"), (0, u "(II)I"), (35, .methodref 184 225), (0, .nameAndType 226 188), (0, u "max"), (0, .integer 65536), (0, .methodref 12 229), (0, .nameAndType 230 231), (0, u "indexOfChar"), (0, u "([BIII)I"), (9, .methodref 3 242), (0, .nameAndType 98 243), (0, u "(III)V"), (0, .methodref 12 245), (0, .nameAndType 246 231), (0, u "indexOfCharUnsafe"), (14, u "coderFromArrayLen"), (0, u "([BI)B"), (5, u "indexOf"), (100, .class_ 371), (1, u "java/lang/StringUTF16$LinesSpliterator"), (58, u "MAX_LENGTH"), (196, .class_ 628), (0, u "java/lang/StringUTF16$CodePointsSpliterator"), (0, .class_ 630), (0, u "java/lang/StringUTF16$CharsSpliterator")] 4

def k11m0 : Method := { name := "<init>", desc := "()V", sig := { parameters := [], returnType := none }, accessFlags := 0, code := none }
def k11c1 : Code := { maxStack := 1, maxLocals := 1, code := jdk_52_method_2_code, exceptionTable := #[], attributes := #[] }
def k11m1 : Method := { name := "newBytesFor", desc := "(I)[B", sig := { parameters := [.int], returnType := some (.array .byte) }, accessFlags := 9, code := some k11c1 }
def k11c2 : Code := { maxStack := 4, maxLocals := 1, code := jdk_52_method_3_code, exceptionTable := #[], attributes := #[] }
def k11m2 : Method := { name := "newBytesLength", desc := "(I)I", sig := { parameters := [.int], returnType := some .int }, accessFlags := 9, code := some k11c2 }
def k11c3 : Code := { maxStack := 4, maxLocals := 3, code := jdk_52_method_4_code, exceptionTable := #[], attributes := #[] }
def k11m3 : Method := { name := "putChar", desc := "([BII)V", sig := { parameters := [(.array .byte), .int, .int], returnType := none }, accessFlags := 8, code := some k11c3 }
def k11c4 : Code := { maxStack := 3, maxLocals := 2, code := jdk_52_method_5_code, exceptionTable := #[], attributes := #[] }
def k11m4 : Method := { name := "getChar", desc := "([BI)C", sig := { parameters := [(.array .byte), .int], returnType := some .char }, accessFlags := 8, code := some k11c4 }
def k11c5 : Code := { maxStack := 2, maxLocals := 1, code := jdk_52_method_6_code, exceptionTable := #[], attributes := #[] }
def k11m5 : Method := { name := "length", desc := "([B)I", sig := { parameters := [(.array .byte)], returnType := some .int }, accessFlags := 9, code := some k11c5 }
def k11c6 : Code := { maxStack := 4, maxLocals := 5, code := jdk_52_method_14_code, exceptionTable := #[], attributes := #[] }
def k11m6 : Method := { name := "toBytes", desc := "([CII)[B", sig := { parameters := [(.array .char), .int, .int], returnType := some (.array .byte) }, accessFlags := 9, code := some k11c6 }
def k11c7 : Code := { maxStack := 2, maxLocals := 2, code := jdk_52_method_15_code, exceptionTable := #[], attributes := #[] }
def k11m7 : Method := { name := "coderFromArrayLen", desc := "([BI)B", sig := { parameters := [(.array .byte), .int], returnType := some .byte }, accessFlags := 8, code := some k11c7 }
def k11c8 : Code := { maxStack := 5, maxLocals := 6, code := jdk_52_method_16_code, exceptionTable := #[], attributes := #[] }
def k11m8 : Method := { name := "compress", desc := "([CII)[B", sig := { parameters := [(.array .char), .int, .int], returnType := some (.array .byte) }, accessFlags := 9, code := some k11c8 }
def k11c9 : Code := { maxStack := 3, maxLocals := 7, code := jdk_52_method_21_code, exceptionTable := #[], attributes := #[] }
def k11m9 : Method := { name := "compress", desc := "([CI[BII)I", sig := { parameters := [(.array .char), .int, (.array .byte), .int, .int], returnType := some .int }, accessFlags := 9, code := some k11c9 }
def k11c10 : Code := { maxStack := 4, maxLocals := 4, code := jdk_52_method_40_code, exceptionTable := #[], attributes := #[] }
def k11m10 : Method := { name := "indexOf", desc := "([BIII)I", sig := { parameters := [(.array .byte), .int, .int, .int], returnType := some .int }, accessFlags := 9, code := some k11c10 }
def k11c11 : Code := { maxStack := 4, maxLocals := 4, code := jdk_52_method_47_code, exceptionTable := #[], attributes := #[] }
def k11m11 : Method := { name := "indexOfChar", desc := "([BIII)I", sig := { parameters := [(.array .byte), .int, .int, .int], returnType := some .int }, accessFlags := 10, code := some k11c11 }
def k11c12 : Code := { maxStack := 2, maxLocals := 5, code := jdk_52_method_48_code, exceptionTable := #[], attributes := #[] }
def k11m12 : Method := { name := "indexOfCharUnsafe", desc := "([BIII)I", sig := { parameters := [(.array .byte), .int, .int, .int], returnType := some .int }, accessFlags := 10, code := some k11c12 }
def k11c13 : Code := { maxStack := 3, maxLocals := 3, code := jdk_52_method_93_code, exceptionTable := #[], attributes := #[] }
def k11m13 : Method := { name := "checkBoundsBeginEnd", desc := "(II[B)V", sig := { parameters := [.int, .int, (.array .byte)], returnType := none }, accessFlags := 9, code := some k11c13 }
/-- java/lang/StringUTF16 -/
def k11 : Class := { plain "java/lang/StringUTF16" (some 0) with
  accessFlags := 48
  interfaces := #[]
  cf := some (fileOf pool11 12 #[.nestMembers #[627, 629, 369]] #[{ accessFlags := 0, nameIndex := 9, descriptorIndex := 10, attributes := #[] }, { accessFlags := 9, nameIndex := 109, descriptorIndex := 110, attributes := #[] }, { accessFlags := 9, nameIndex := 15, descriptorIndex := 16, attributes := #[] }, { accessFlags := 8, nameIndex := 113, descriptorIndex := 114, attributes := #[] }, { accessFlags := 8, nameIndex := 73, descriptorIndex := 74, attributes := #[] }, { accessFlags := 9, nameIndex := 50, descriptorIndex := 51, attributes := #[] }, { accessFlags := 9, nameIndex := 121, descriptorIndex := 122, attributes := #[] }, { accessFlags := 8, nameIndex := 261, descriptorIndex := 262, attributes := #[] }, { accessFlags := 9, nameIndex := 117, descriptorIndex := 122, attributes := #[] }, { accessFlags := 9, nameIndex := 117, descriptorIndex := 118, attributes := #[] }, { accessFlags := 9, nameIndex := 268, descriptorIndex := 231, attributes := #[] }, { accessFlags := 10, nameIndex := 230, descriptorIndex := 231, attributes := #[] }, { accessFlags := 10, nameIndex := 246, descriptorIndex := 231, attributes := #[] }, { accessFlags := 9, nameIndex := 98, descriptorIndex := 99, attributes := #[] }] 48 6 #[] #[{ accessFlags := 26, nameIndex := 61, descriptorIndex := 62, attributes := #[] }, { accessFlags := 26, nameIndex := 65, descriptorIndex := 62, attributes := #[] }, { accessFlags := 24, nameIndex := 430, descriptorIndex := 62, attributes := #[] }, { accessFlags := 4120, nameIndex := 46, descriptorIndex := 47, attributes := #[] }])
  fields := #[{ name := "HI_BYTE_SHIFT", type := .int, accessFlags := 26, slot := 0, constantValue := 0 }, { name := "LO_BYTE_SHIFT", type := .int, accessFlags := 26, slot := 1, constantValue := 0 }, { name := "MAX_LENGTH", type := .int, accessFlags := 24, slot := 2, constantValue := 0 }, { name := "$assertionsDisabled", type := .boolean, accessFlags := 4120, slot := 3, constantValue := 0 }]
  methods := #[k11m0, k11m1, k11m2, k11m3, k11m4, k11m5, k11m6, k11m7, k11m8, k11m9, k11m10, k11m11, k11m12, k11m13]
  instanceTypes := #[]
  staticTypes := #[.int, .int, .int, .boolean]
  resolved := Array.replicate 635 none
  statics := some 1 }

def pool12 : Array CpInfo := pool [(2, .class_ 4), (1, u "java/lang/Object"), (0, u "<init>"), (0, u "()V"), (17, .class_ 26), (1, u "jdk/internal/util/Preconditions"), (20, u "checkFromToIndex"), (7, .class_ 56), (0, u "jdk/internal/util/Preconditions$4"), (57, .class_ 115), (0, u "jdk/internal/util/Preconditions$1"), (7, u "SIOOBE_FORMATTER"), (0, u "Ljava/util/function/BiFunction;"), (0, .class_ 126), (0, u "jdk/internal/util/Preconditions$2"), (3, u "AIOOBE_FORMATTER"), (0, .class_ 132), (0, u "jdk/internal/util/Preconditions$3"), (3, u "IOOBE_FORMATTER"), (46, u "(IIILjava/util/function/BiFunction;)I")] 10

def k12m0 : Method := { name := "<init>", desc := "()V", sig := { parameters := [], returnType := none }, accessFlags := 1, code := none }
def k12c1 : Code := { maxStack := 4, maxLocals := 4, code := jdk_41_method_12_code, exceptionTable := #[], attributes := #[] }
def k12m1 : Method := { name := "checkFromToIndex", desc := "(IIILjava/util/function/BiFunction;)I", sig := { parameters := [.int, .int, .int, (.object "java/util/function/BiFunction")], returnType := some .int }, accessFlags := 9, code := some k12c1 }
/-- jdk/internal/util/Preconditions -/
def k12 : Class := { plain "jdk/internal/util/Preconditions" (some 0) with
  accessFlags := 33
  interfaces := #[]
  cf := some (fileOf pool12 24 #[.nestMembers #[55, 131, 125, 114]] #[{ accessFlags := 1, nameIndex := 5, descriptorIndex := 6, attributes := #[] }, { accessFlags := 9, nameIndex := 47, descriptorIndex := 183, attributes := #[] }] 33 2 #[] #[{ accessFlags := 25, nameIndex := 123, descriptorIndex := 124, attributes := #[] }, { accessFlags := 25, nameIndex := 130, descriptorIndex := 124, attributes := #[] }, { accessFlags := 25, nameIndex := 136, descriptorIndex := 124, attributes := #[] }])
  fields := #[{ name := "SIOOBE_FORMATTER", type := (.object "java/util/function/BiFunction"), accessFlags := 25, slot := 0, constantValue := 0 }, { name := "AIOOBE_FORMATTER", type := (.object "java/util/function/BiFunction"), accessFlags := 25, slot := 1, constantValue := 0 }, { name := "IOOBE_FORMATTER", type := (.object "java/util/function/BiFunction"), accessFlags := 25, slot := 2, constantValue := 0 }]
  methods := #[k12m0, k12m1]
  instanceTypes := #[]
  staticTypes := #[(.object "java/util/function/BiFunction"), (.object "java/util/function/BiFunction"), (.object "java/util/function/BiFunction")]
  resolved := Array.replicate 194 none
  statics := some 2 }

def pool13 : Array CpInfo := pool [(9, u "<init>"), (6, .class_ 18), (1, u "java/lang/Object"), (0, u "()V"), (1, .class_ 23), (1, u "jdk/internal/util/ArraysSupport"), (0, u "LOG2_ARRAY_LONG_INDEX_SCALE"), (0, u "I"), (2, u "U"), (0, u "Ljdk/internal/misc/Unsafe;"), (8, u "BIG_ENDIAN"), (0, u "Z"), (8, u "LOG2_BYTE_BIT_SIZE"), (4, u "LOG2_ARRAY_INT_INDEX_SCALE"), (54, u "JLA"), (0, u "Ljdk/internal/access/JavaLangAccess;"), (11, u "LOG2_ARRAY_BOOLEAN_INDEX_SCALE"), (9, u "LOG2_ARRAY_BYTE_INDEX_SCALE"), (5, u "LOG2_ARRAY_CHAR_INDEX_SCALE"), (5, u "LOG2_ARRAY_SHORT_INDEX_SCALE"), (18, u "LOG2_ARRAY_FLOAT_INDEX_SCALE"), (24, u "LOG2_ARRAY_DOUBLE_INDEX_SCALE"), (89, u "T_BOOLEAN"), (2, u "T_CHAR"), (1, u "T_FLOAT"), (1, u "T_DOUBLE"), (1, u "T_BYTE"), (1, u "T_SHORT"), (1, u "T_INT"), (1, u "T_LONG"), (1, u "SOFT_MAX_ARRAY_LENGTH")] 83

def k13m0 : Method := { name := "<init>", desc := "()V", sig := { parameters := [], returnType := none }, accessFlags := 2, code := none }
/-- jdk/internal/util/ArraysSupport -/
def k13 : Class := { plain "jdk/internal/util/ArraysSupport" (some 0) with
  accessFlags := 33
  interfaces := #[]
  cf := some (fileOf pool13 21 #[] #[{ accessFlags := 2, nameIndex := 9, descriptorIndex := 19, attributes := #[] }] 33 16 #[] #[{ accessFlags := 24, nameIndex := 28, descriptorIndex := 29, attributes := #[] }, { accessFlags := 26, nameIndex := 38, descriptorIndex := 39, attributes := #[] }, { accessFlags := 25, nameIndex := 121, descriptorIndex := 25, attributes := #[] }, { accessFlags := 25, nameIndex := 131, descriptorIndex := 25, attributes := #[] }, { accessFlags := 25, nameIndex := 137, descriptorIndex := 25, attributes := #[] }, { accessFlags := 25, nameIndex := 143, descriptorIndex := 25, attributes := #[] }, { accessFlags := 25, nameIndex := 53, descriptorIndex := 25, attributes := #[] }, { accessFlags := 25, nameIndex := 24, descriptorIndex := 25, attributes := #[] }, { accessFlags := 25, nameIndex := 162, descriptorIndex := 25, attributes := #[] }, { accessFlags := 25, nameIndex := 187, descriptorIndex := 25, attributes := #[] }, { accessFlags := 26, nameIndex := 48, descriptorIndex := 25, attributes := #[] }, { accessFlags := 25, nameIndex := 277, descriptorIndex := 25, attributes := #[] }, { accessFlags := 25, nameIndex := 280, descriptorIndex := 25, attributes := #[] }, { accessFlags := 25, nameIndex := 282, descriptorIndex := 25, attributes := #[] }, { accessFlags := 25, nameIndex := 284, descriptorIndex := 25, attributes := #[] }, { accessFlags := 25, nameIndex := 286, descriptorIndex := 25, attributes := #[] }, { accessFlags := 25, nameIndex := 288, descriptorIndex := 25, attributes := #[] }, { accessFlags := 25, nameIndex := 290, descriptorIndex := 25, attributes := #[] }, { accessFlags := 25, nameIndex := 292, descriptorIndex := 25, attributes := #[] }, { accessFlags := 26, nameIndex := 108, descriptorIndex := 109, attributes := #[] }, { accessFlags := 25, nameIndex := 294, descriptorIndex := 25, attributes := #[] }])
  fields := #[{ name := "U", type := (.object "jdk/internal/misc/Unsafe"), accessFlags := 24, slot := 0, constantValue := 0 }, { name := "BIG_ENDIAN", type := .boolean, accessFlags := 26, slot := 1, constantValue := 0 }, { name := "LOG2_ARRAY_BOOLEAN_INDEX_SCALE", type := .int, accessFlags := 25, slot := 2, constantValue := 0 }, { name := "LOG2_ARRAY_BYTE_INDEX_SCALE", type := .int, accessFlags := 25, slot := 3, constantValue := 0 }, { name := "LOG2_ARRAY_CHAR_INDEX_SCALE", type := .int, accessFlags := 25, slot := 4, constantValue := 0 }, { name := "LOG2_ARRAY_SHORT_INDEX_SCALE", type := .int, accessFlags := 25, slot := 5, constantValue := 0 }, { name := "LOG2_ARRAY_INT_INDEX_SCALE", type := .int, accessFlags := 25, slot := 6, constantValue := 0 }, { name := "LOG2_ARRAY_LONG_INDEX_SCALE", type := .int, accessFlags := 25, slot := 7, constantValue := 0 }, { name := "LOG2_ARRAY_FLOAT_INDEX_SCALE", type := .int, accessFlags := 25, slot := 8, constantValue := 0 }, { name := "LOG2_ARRAY_DOUBLE_INDEX_SCALE", type := .int, accessFlags := 25, slot := 9, constantValue := 0 }, { name := "LOG2_BYTE_BIT_SIZE", type := .int, accessFlags := 26, slot := 10, constantValue := 0 }, { name := "T_BOOLEAN", type := .int, accessFlags := 25, slot := 11, constantValue := 0 }, { name := "T_CHAR", type := .int, accessFlags := 25, slot := 12, constantValue := 0 }, { name := "T_FLOAT", type := .int, accessFlags := 25, slot := 13, constantValue := 0 }, { name := "T_DOUBLE", type := .int, accessFlags := 25, slot := 14, constantValue := 0 }, { name := "T_BYTE", type := .int, accessFlags := 25, slot := 15, constantValue := 0 }, { name := "T_SHORT", type := .int, accessFlags := 25, slot := 16, constantValue := 0 }, { name := "T_INT", type := .int, accessFlags := 25, slot := 17, constantValue := 0 }, { name := "T_LONG", type := .int, accessFlags := 25, slot := 18, constantValue := 0 }, { name := "JLA", type := (.object "jdk/internal/access/JavaLangAccess"), accessFlags := 26, slot := 19, constantValue := 0 }, { name := "SOFT_MAX_ARRAY_LENGTH", type := .int, accessFlags := 25, slot := 20, constantValue := 0 }]
  methods := #[k13m0]
  instanceTypes := #[]
  staticTypes := #[(.object "jdk/internal/misc/Unsafe"), .boolean, .int, .int, .int, .int, .int, .int, .int, .int, .int, .int, .int, .int, .int, .int, .int, .int, .int, (.object "jdk/internal/access/JavaLangAccess"), .int]
  resolved := Array.replicate 378 none
  statics := none }

def pool14 : Array CpInfo := pool [(1, u "java/lang/Cloneable"), (0, .class_ 1), (0, u "java/lang/Object"), (0, .class_ 3)] 3

/-- java/lang/Cloneable -/
def k14 : Class := { plain "java/lang/Cloneable" (some 0) with
  accessFlags := 1537
  interfaces := #[]
  cf := some (fileOf pool14 2 #[] #[] 1537 4 #[] #[])
  fields := #[]
  methods := #[]
  instanceTypes := #[]
  staticTypes := #[]
  resolved := Array.replicate 8 none
  statics := none }

/-- the primitive byte -/
def k15 : Class := { plain "byte" none with kind := .primitive 'B', accessFlags := 0x411 }
/-- [B -/
def k16 : Class := { plain "[B" (some 0) with kind := .array 15 .byte, interfaces := #[14, 2], accessFlags := 1041 }

/-- the primitive char -/
def k17 : Class := { plain "char" none with kind := .primitive 'C', accessFlags := 0x411 }
/-- [C -/
def k18 : Class := { plain "[C" (some 0) with kind := .array 17 .char, interfaces := #[14, 2], accessFlags := 1041 }

/-- the primitive int -/
def k19 : Class := { plain "int" none with kind := .primitive 'I', accessFlags := 0x411 }
/-- [I -/
def k20 : Class := { plain "[I" (some 0) with kind := .array 19 .int, interfaces := #[14, 2], accessFlags := 1041 }

def heap : Heap := #[{ cls := 7, slots := #[.long 0, .int 1, .null, .int 0, .null, .int 0, .int 0], vm := .statics 7 },
  { cls := 11, slots := #[.int 0, .int 8, .int 0, .int 1], vm := .statics 11 },
  { cls := 12, slots := #[.null, .null, .null], vm := .statics 12 }]
def classes : Array Class := #[k0, k1, k2, k3, k4, k5, k6, k7, k8, k9, k10, k11, k12, k13, k14, k15, k16, k17, k18, k19, k20]
def interned : List (Array UInt16 × Addr) := []
def slotsUsed : Nat := 14
def theMethod : MethodId := ⟨1, 2⟩
def args0 : Array Value := #[.int 3, .int 300, .int 98, .int 9]
def aboutOver (below : List Frame) : State where
  vm := { classes := classes, interned := interned.toArray }
  heap := heap
  slotsUsed := slotsUsed
  threads := #[{ frames := .invoking theMethod args0 :: below }]
def below0 : List Frame := [.native { method := ⟨0, 0⟩, args := #[] }]
def about1 : State := aboutOver below0
def p0 : Program := .bare "" "" ""
def e0 : Env := launch0.env 0 0 0
theorem w_frames : about1.frames = Frame.invoking theMethod args0 :: below0 := rfl
set_option maxRecDepth 65536 in
theorem w_args : argsFit about1.vm theMethod args0 = true := by decide +kernel
set_option maxRecDepth 65536 in
theorem w_heap : heapFits about1 = true := by decide +kernel
set_option maxRecDepth 65536 in
theorem w_runnable : about1.curStatus? = some .runnable := by decide +kernel
set_option maxRecDepth 65536 in
theorem w_alone : about1.alone = true := by decide +kernel
set_option maxRecDepth 65536 in
theorem w_named : about1.methodNamed? x = some theMethod := by decide +kernel
set_option maxRecDepth 65536 in
theorem w_hears : about1.hears theMethod below0 = true := by decide +kernel
set_option maxRecDepth 65536 in
theorem w_ripe : about1.ripe theMethod args0 below0 = true := by decide +kernel
theorem w_running : about1.status = .running := rfl
set_option maxRecDepth 65536 in
theorem w_room : about1.hasRoom e0.platform room_1 = true :=
  launch0.hasRoom_least _ room_1 (by decide +kernel) (by decide +kernel) (by decide +kernel) (by decide +kernel) (by decide +kernel) (by decide +kernel)
theorem allAtoms_all (ts : List Jvm.Cond) (a : Array Jvm.Value) (st : Jvm.State) : (allAtoms ts).before a st = ts.all (fun c => c.before a st) := by
  induction ts with
  | nil => rfl
  | cons c t ih =>
    show (Jvm.Cond.and c (allAtoms t)).before a st = _
    rw [Jvm.Cond.before_and, ih, List.all_cons]
def words1 : List Jvm.Cond := Jvm.Cond.code x code maxLocals ret :: tables_1
/-- a 'code' word, met by the world's own term for the bytes: nothing is compared byte by byte -/
theorem code_word {y : MethodName} {bytes : ByteArray} {mx : Nat} {rt : Option FieldType} {a : Array Value} {s : State} {m : MethodId} {meth : Method} {c : Code} (h1 : s.methodNamed? y = some m) (h2 : s.vm.method? m = some meth) (h3 : meth.code = some c) (h4 : c.code = bytes)
    (h5 : (c.maxLocals == mx && c.exceptionTable.isEmpty && decide (c.maxStack ≤ mostOperands) && decide (meth.sig.returnType = rt) && !meth.locks && decide (parseMethodDescriptor y.desc = some meth.sig)) = true) : (Jvm.Cond.code y bytes mx rt).before a s = true := by
  simp only [Bool.and_eq_true, beq_iff_eq, Bool.not_eq_true', decide_eq_true_eq] at h5
  obtain ⟨⟨⟨⟨⟨g1, g2⟩, g3⟩, g4⟩, g5⟩, g6⟩ := h5
  simp [Cond.before, Cond.holds, Cond.value, h1, h2, h3, h4, g1, g2, g3, g4, g5, g6]
def isCode : Jvm.Cond → Bool
  | .code _ _ _ _ => true
  | _ => false
theorem all_split {L : List Jvm.Cond} {P : Jvm.Cond → Bool} (h1 : L.all (fun c => isCode c || P c) = true) (h2 : ∀ c ∈ L.filter isCode, P c = true) : L.all P = true := by
  refine List.all_eq_true.mpr fun c hc => ?_
  have h := List.all_eq_true.mp h1 c hc
  rcases Bool.eq_false_or_eq_true (isCode c) with hi | hi
  · exact h2 c (List.mem_filter.mpr ⟨hc, hi⟩)
  · simpa [hi] using h
set_option maxRecDepth 65536 in
theorem w_c0 : (Jvm.Cond.code x code maxLocals ret).before args0 about1 = true := code_word (m := ⟨1, 2⟩) (meth := k1m2) (c := k1c2) (by decide +kernel) rfl rfl rfl (by decide +kernel)
set_option maxRecDepth 65536 in
theorem w_c1 : (Jvm.Cond.code ({ cls := "java/lang/String", name := "<init>", desc := "([C)V" } : Jvm.MethodName) jdk_42_method_3_code (2 : Nat) (Option.none : Option Jvm.ClassFile.FieldType)).before args0 about1 = true := code_word (m := ⟨7, 1⟩) (meth := k7m1) (c := k7c1) (by decide +kernel) rfl rfl rfl (by decide +kernel)
set_option maxRecDepth 65536 in
theorem w_c2 : (Jvm.Cond.code ({ cls := "java/lang/String", name := "<init>", desc := "([CIILjava/lang/Void;)V" } : Jvm.MethodName) jdk_42_method_149_code (6 : Nat) (Option.none : Option Jvm.ClassFile.FieldType)).before args0 about1 = true := code_word (m := ⟨7, 5⟩) (meth := k7m5) (c := k7c5) (by decide +kernel) rfl rfl rfl (by decide +kernel)
set_option maxRecDepth 65536 in
theorem w_c3 : (Jvm.Cond.code ({ cls := "java/lang/Object", name := "<init>", desc := "()V" } : Jvm.MethodName) object_method_1_code (1 : Nat) (Option.none : Option Jvm.ClassFile.FieldType)).before args0 about1 = true := code_word (m := ⟨0, 0⟩) (meth := k0m0) (c := k0c0) (by decide +kernel) rfl rfl rfl (by decide +kernel)
set_option maxRecDepth 65536 in
theorem w_c4 : (Jvm.Cond.code ({ cls := "com/example/tame_recursion/tamerecursion/io/FactsFile", name := "canHold", desc := "(Ljava/lang/String;)Z" } : Jvm.MethodName) prog_42_method_5_code (1 : Nat) (Option.some Jvm.ClassFile.FieldType.boolean)).before args0 about1 = true := code_word (m := ⟨8, 0⟩) (meth := k8m0) (c := k8c0) (by decide +kernel) rfl rfl rfl (by decide +kernel)
set_option maxRecDepth 65536 in
theorem w_c5 : (Jvm.Cond.code ({ cls := "java/lang/String", name := "indexOf", desc := "(I)I" } : Jvm.MethodName) jdk_42_method_79_code (2 : Nat) (Option.some Jvm.ClassFile.FieldType.int)).before args0 about1 = true := code_word (m := ⟨7, 3⟩) (meth := k7m3) (c := k7c3) (by decide +kernel) rfl rfl rfl (by decide +kernel)
set_option maxRecDepth 65536 in
theorem w_c6 : (Jvm.Cond.code ({ cls := "java/lang/String", name := "indexOf", desc := "(II)I" } : Jvm.MethodName) jdk_42_method_80_code (3 : Nat) (Option.some Jvm.ClassFile.FieldType.int)).before args0 about1 = true := code_word (m := ⟨7, 4⟩) (meth := k7m4) (c := k7c4) (by decide +kernel) rfl rfl rfl (by decide +kernel)
set_option maxRecDepth 65536 in
theorem w_c7 : (Jvm.Cond.code ({ cls := "java/lang/String", name := "isLatin1", desc := "()Z" } : Jvm.MethodName) jdk_42_method_154_code (1 : Nat) (Option.some Jvm.ClassFile.FieldType.boolean)).before args0 about1 = true := code_word (m := ⟨7, 7⟩) (meth := k7m7) (c := k7c7) (by decide +kernel) rfl rfl rfl (by decide +kernel)
set_option maxRecDepth 65536 in
theorem w_c8 : (Jvm.Cond.code ({ cls := "java/lang/String", name := "length", desc := "()I" } : Jvm.MethodName) jdk_42_method_54_code (1 : Nat) (Option.some Jvm.ClassFile.FieldType.int)).before args0 about1 = true := code_word (m := ⟨7, 2⟩) (meth := k7m2) (c := k7c2) (by decide +kernel) rfl rfl rfl (by decide +kernel)
set_option maxRecDepth 65536 in
theorem w_c9 : (Jvm.Cond.code ({ cls := "java/lang/String", name := "coder", desc := "()B" } : Jvm.MethodName) jdk_42_method_152_code (1 : Nat) (Option.some Jvm.ClassFile.FieldType.byte)).before args0 about1 = true := code_word (m := ⟨7, 6⟩) (meth := k7m6) (c := k7c6) (by decide +kernel) rfl rfl rfl (by decide +kernel)
set_option maxRecDepth 65536 in
theorem w_c10 : (Jvm.Cond.code ({ cls := "java/lang/StringLatin1", name := "indexOf", desc := "([BIII)I" } : Jvm.MethodName) jdk_43_method_22_code (4 : Nat) (Option.some Jvm.ClassFile.FieldType.int)).before args0 about1 = true := code_word (m := ⟨9, 2⟩) (meth := k9m2) (c := k9c2) (by decide +kernel) rfl rfl rfl (by decide +kernel)
set_option maxRecDepth 65536 in
theorem w_c11 : (Jvm.Cond.code ({ cls := "java/lang/StringLatin1", name := "canEncode", desc := "(I)Z" } : Jvm.MethodName) jdk_43_method_4_code (1 : Nat) (Option.some Jvm.ClassFile.FieldType.boolean)).before args0 about1 = true := code_word (m := ⟨9, 1⟩) (meth := k9m1) (c := k9c1) (by decide +kernel) rfl rfl rfl (by decide +kernel)
set_option maxRecDepth 65536 in
theorem w_c12 : (Jvm.Cond.code ({ cls := "java/lang/Math", name := "max", desc := "(II)I" } : Jvm.MethodName) jdk_29_method_65_code (2 : Nat) (Option.some Jvm.ClassFile.FieldType.int)).before args0 about1 = true := code_word (m := ⟨10, 1⟩) (meth := k10m1) (c := k10c1) (by decide +kernel) rfl rfl rfl (by decide +kernel)
set_option maxRecDepth 65536 in
theorem w_c13 : (Jvm.Cond.code ({ cls := "java/lang/Math", name := "min", desc := "(II)I" } : Jvm.MethodName) jdk_29_method_69_code (2 : Nat) (Option.some Jvm.ClassFile.FieldType.int)).before args0 about1 = true := code_word (m := ⟨10, 2⟩) (meth := k10m2) (c := k10c2) (by decide +kernel) rfl rfl rfl (by decide +kernel)
set_option maxRecDepth 65536 in
theorem w_c14 : (Jvm.Cond.code ({ cls := "java/lang/StringUTF16", name := "compress", desc := "([CII)[B" } : Jvm.MethodName) jdk_52_method_16_code (6 : Nat) (Option.some (Jvm.ClassFile.FieldType.array Jvm.ClassFile.FieldType.byte))).before args0 about1 = true := code_word (m := ⟨11, 8⟩) (meth := k11m8) (c := k11c8) (by decide +kernel) rfl rfl rfl (by decide +kernel)
set_option maxRecDepth 65536 in
theorem w_c15 : (Jvm.Cond.code ({ cls := "java/lang/StringUTF16", name := "compress", desc := "([CI[BII)I" } : Jvm.MethodName) jdk_52_method_21_code (7 : Nat) (Option.some Jvm.ClassFile.FieldType.int)).before args0 about1 = true := code_word (m := ⟨11, 9⟩) (meth := k11m9) (c := k11c9) (by decide +kernel) rfl rfl rfl (by decide +kernel)
set_option maxRecDepth 65536 in
theorem w_c16 : (Jvm.Cond.code ({ cls := "java/lang/StringUTF16", name := "coderFromArrayLen", desc := "([BI)B" } : Jvm.MethodName) jdk_52_method_15_code (2 : Nat) (Option.some Jvm.ClassFile.FieldType.byte)).before args0 about1 = true := code_word (m := ⟨11, 7⟩) (meth := k11m7) (c := k11c7) (by decide +kernel) rfl rfl rfl (by decide +kernel)
set_option maxRecDepth 65536 in
theorem w_c17 : (Jvm.Cond.code ({ cls := "com/example/tame_recursion/tamerecursion/io/FactsFileCanHoldPinLaw", name := "endsValue", desc := "(C)Z" } : Jvm.MethodName) method_2_code (1 : Nat) (Option.some Jvm.ClassFile.FieldType.boolean)).before args0 about1 = true := code_word (m := ⟨1, 1⟩) (meth := k1m1) (c := k1c1) (by decide +kernel) rfl rfl rfl (by decide +kernel)
set_option maxRecDepth 65536 in
theorem w_c18 : (Jvm.Cond.code ({ cls := "java/lang/StringLatin1", name := "indexOfChar", desc := "([BIII)I" } : Jvm.MethodName) jdk_43_method_23_code (6 : Nat) (Option.some Jvm.ClassFile.FieldType.int)).before args0 about1 = true := code_word (m := ⟨9, 3⟩) (meth := k9m3) (c := k9c3) (by decide +kernel) rfl rfl rfl (by decide +kernel)
set_option maxRecDepth 65536 in
theorem w_c19 : (Jvm.Cond.code ({ cls := "java/lang/StringUTF16", name := "toBytes", desc := "([CII)[B" } : Jvm.MethodName) jdk_52_method_14_code (5 : Nat) (Option.some (Jvm.ClassFile.FieldType.array Jvm.ClassFile.FieldType.byte))).before args0 about1 = true := code_word (m := ⟨11, 6⟩) (meth := k11m6) (c := k11c6) (by decide +kernel) rfl rfl rfl (by decide +kernel)
set_option maxRecDepth 65536 in
theorem w_c20 : (Jvm.Cond.code ({ cls := "java/lang/StringUTF16", name := "newBytesFor", desc := "(I)[B" } : Jvm.MethodName) jdk_52_method_2_code (1 : Nat) (Option.some (Jvm.ClassFile.FieldType.array Jvm.ClassFile.FieldType.byte))).before args0 about1 = true := code_word (m := ⟨11, 1⟩) (meth := k11m1) (c := k11c1) (by decide +kernel) rfl rfl rfl (by decide +kernel)
set_option maxRecDepth 65536 in
theorem w_c21 : (Jvm.Cond.code ({ cls := "java/lang/StringUTF16", name := "newBytesLength", desc := "(I)I" } : Jvm.MethodName) jdk_52_method_3_code (1 : Nat) (Option.some Jvm.ClassFile.FieldType.int)).before args0 about1 = true := code_word (m := ⟨11, 2⟩) (meth := k11m2) (c := k11c2) (by decide +kernel) rfl rfl rfl (by decide +kernel)
set_option maxRecDepth 65536 in
theorem w_c22 : (Jvm.Cond.code ({ cls := "java/lang/StringUTF16", name := "putChar", desc := "([BII)V" } : Jvm.MethodName) jdk_52_method_4_code (3 : Nat) (Option.none : Option Jvm.ClassFile.FieldType)).before args0 about1 = true := code_word (m := ⟨11, 3⟩) (meth := k11m3) (c := k11c3) (by decide +kernel) rfl rfl rfl (by decide +kernel)
set_option maxRecDepth 65536 in
theorem w_c23 : (Jvm.Cond.code ({ cls := "java/lang/StringUTF16", name := "getChar", desc := "([BI)C" } : Jvm.MethodName) jdk_52_method_5_code (2 : Nat) (Option.some Jvm.ClassFile.FieldType.char)).before args0 about1 = true := code_word (m := ⟨11, 4⟩) (meth := k11m4) (c := k11c4) (by decide +kernel) rfl rfl rfl (by decide +kernel)
set_option maxRecDepth 65536 in
theorem w_c24 : (Jvm.Cond.code ({ cls := "java/lang/StringUTF16", name := "indexOf", desc := "([BIII)I" } : Jvm.MethodName) jdk_52_method_40_code (4 : Nat) (Option.some Jvm.ClassFile.FieldType.int)).before args0 about1 = true := code_word (m := ⟨11, 10⟩) (meth := k11m10) (c := k11c10) (by decide +kernel) rfl rfl rfl (by decide +kernel)
set_option maxRecDepth 65536 in
theorem w_c25 : (Jvm.Cond.code ({ cls := "java/lang/StringUTF16", name := "indexOfChar", desc := "([BIII)I" } : Jvm.MethodName) jdk_52_method_47_code (4 : Nat) (Option.some Jvm.ClassFile.FieldType.int)).before args0 about1 = true := code_word (m := ⟨11, 11⟩) (meth := k11m11) (c := k11c11) (by decide +kernel) rfl rfl rfl (by decide +kernel)
set_option maxRecDepth 65536 in
theorem w_c26 : (Jvm.Cond.code ({ cls := "java/lang/StringUTF16", name := "checkBoundsBeginEnd", desc := "(II[B)V" } : Jvm.MethodName) jdk_52_method_93_code (3 : Nat) (Option.none : Option Jvm.ClassFile.FieldType)).before args0 about1 = true := code_word (m := ⟨11, 13⟩) (meth := k11m13) (c := k11c13) (by decide +kernel) rfl rfl rfl (by decide +kernel)
set_option maxRecDepth 65536 in
theorem w_c27 : (Jvm.Cond.code ({ cls := "java/lang/StringUTF16", name := "length", desc := "([B)I" } : Jvm.MethodName) jdk_52_method_6_code (1 : Nat) (Option.some Jvm.ClassFile.FieldType.int)).before args0 about1 = true := code_word (m := ⟨11, 5⟩) (meth := k11m5) (c := k11c5) (by decide +kernel) rfl rfl rfl (by decide +kernel)
set_option maxRecDepth 65536 in
theorem w_c28 : (Jvm.Cond.code ({ cls := "java/lang/String", name := "checkBoundsBeginEnd", desc := "(III)V" } : Jvm.MethodName) jdk_42_method_158_code (3 : Nat) (Option.none : Option Jvm.ClassFile.FieldType)).before args0 about1 = true := code_word (m := ⟨7, 8⟩) (meth := k7m8) (c := k7c8) (by decide +kernel) rfl rfl rfl (by decide +kernel)
set_option maxRecDepth 65536 in
theorem w_c29 : (Jvm.Cond.code ({ cls := "jdk/internal/util/Preconditions", name := "checkFromToIndex", desc := "(IIILjava/util/function/BiFunction;)I" } : Jvm.MethodName) jdk_41_method_12_code (4 : Nat) (Option.some Jvm.ClassFile.FieldType.int)).before args0 about1 = true := code_word (m := ⟨12, 1⟩) (meth := k12m1) (c := k12c1) (by decide +kernel) rfl rfl rfl (by decide +kernel)
set_option maxRecDepth 65536 in
theorem w_c30 : (Jvm.Cond.code ({ cls := "java/lang/StringUTF16", name := "indexOfCharUnsafe", desc := "([BIII)I" } : Jvm.MethodName) jdk_52_method_48_code (5 : Nat) (Option.some Jvm.ClassFile.FieldType.int)).before args0 about1 = true := code_word (m := ⟨11, 12⟩) (meth := k11m12) (c := k11c12) (by decide +kernel) rfl rfl rfl (by decide +kernel)
def codes1 : List Jvm.Cond := [Jvm.Cond.code x code maxLocals ret, Jvm.Cond.code ({ cls := "java/lang/String", name := "<init>", desc := "([C)V" } : Jvm.MethodName) jdk_42_method_3_code (2 : Nat) (Option.none : Option Jvm.ClassFile.FieldType), Jvm.Cond.code ({ cls := "java/lang/String", name := "<init>", desc := "([CIILjava/lang/Void;)V" } : Jvm.MethodName) jdk_42_method_149_code (6 : Nat) (Option.none : Option Jvm.ClassFile.FieldType), Jvm.Cond.code ({ cls := "java/lang/Object", name := "<init>", desc := "()V" } : Jvm.MethodName) object_method_1_code (1 : Nat) (Option.none : Option Jvm.ClassFile.FieldType), Jvm.Cond.code ({ cls := "com/example/tame_recursion/tamerecursion/io/FactsFile", name := "canHold", desc := "(Ljava/lang/String;)Z" } : Jvm.MethodName) prog_42_method_5_code (1 : Nat) (Option.some Jvm.ClassFile.FieldType.boolean), Jvm.Cond.code ({ cls := "java/lang/String", name := "indexOf", desc := "(I)I" } : Jvm.MethodName) jdk_42_method_79_code (2 : Nat) (Option.some Jvm.ClassFile.FieldType.int), Jvm.Cond.code ({ cls := "java/lang/String", name := "indexOf", desc := "(II)I" } : Jvm.MethodName) jdk_42_method_80_code (3 : Nat) (Option.some Jvm.ClassFile.FieldType.int), Jvm.Cond.code ({ cls := "java/lang/String", name := "isLatin1", desc := "()Z" } : Jvm.MethodName) jdk_42_method_154_code (1 : Nat) (Option.some Jvm.ClassFile.FieldType.boolean), Jvm.Cond.code ({ cls := "java/lang/String", name := "length", desc := "()I" } : Jvm.MethodName) jdk_42_method_54_code (1 : Nat) (Option.some Jvm.ClassFile.FieldType.int), Jvm.Cond.code ({ cls := "java/lang/String", name := "coder", desc := "()B" } : Jvm.MethodName) jdk_42_method_152_code (1 : Nat) (Option.some Jvm.ClassFile.FieldType.byte), Jvm.Cond.code ({ cls := "java/lang/StringLatin1", name := "indexOf", desc := "([BIII)I" } : Jvm.MethodName) jdk_43_method_22_code (4 : Nat) (Option.some Jvm.ClassFile.FieldType.int), Jvm.Cond.code ({ cls := "java/lang/StringLatin1", name := "canEncode", desc := "(I)Z" } : Jvm.MethodName) jdk_43_method_4_code (1 : Nat) (Option.some Jvm.ClassFile.FieldType.boolean), Jvm.Cond.code ({ cls := "java/lang/Math", name := "max", desc := "(II)I" } : Jvm.MethodName) jdk_29_method_65_code (2 : Nat) (Option.some Jvm.ClassFile.FieldType.int), Jvm.Cond.code ({ cls := "java/lang/Math", name := "min", desc := "(II)I" } : Jvm.MethodName) jdk_29_method_69_code (2 : Nat) (Option.some Jvm.ClassFile.FieldType.int), Jvm.Cond.code ({ cls := "java/lang/StringUTF16", name := "compress", desc := "([CII)[B" } : Jvm.MethodName) jdk_52_method_16_code (6 : Nat) (Option.some (Jvm.ClassFile.FieldType.array Jvm.ClassFile.FieldType.byte)), Jvm.Cond.code ({ cls := "java/lang/StringUTF16", name := "compress", desc := "([CI[BII)I" } : Jvm.MethodName) jdk_52_method_21_code (7 : Nat) (Option.some Jvm.ClassFile.FieldType.int), Jvm.Cond.code ({ cls := "java/lang/StringUTF16", name := "coderFromArrayLen", desc := "([BI)B" } : Jvm.MethodName) jdk_52_method_15_code (2 : Nat) (Option.some Jvm.ClassFile.FieldType.byte), Jvm.Cond.code ({ cls := "com/example/tame_recursion/tamerecursion/io/FactsFileCanHoldPinLaw", name := "endsValue", desc := "(C)Z" } : Jvm.MethodName) method_2_code (1 : Nat) (Option.some Jvm.ClassFile.FieldType.boolean), Jvm.Cond.code ({ cls := "java/lang/StringLatin1", name := "indexOfChar", desc := "([BIII)I" } : Jvm.MethodName) jdk_43_method_23_code (6 : Nat) (Option.some Jvm.ClassFile.FieldType.int), Jvm.Cond.code ({ cls := "java/lang/StringUTF16", name := "toBytes", desc := "([CII)[B" } : Jvm.MethodName) jdk_52_method_14_code (5 : Nat) (Option.some (Jvm.ClassFile.FieldType.array Jvm.ClassFile.FieldType.byte)), Jvm.Cond.code ({ cls := "java/lang/StringUTF16", name := "newBytesFor", desc := "(I)[B" } : Jvm.MethodName) jdk_52_method_2_code (1 : Nat) (Option.some (Jvm.ClassFile.FieldType.array Jvm.ClassFile.FieldType.byte)), Jvm.Cond.code ({ cls := "java/lang/StringUTF16", name := "newBytesLength", desc := "(I)I" } : Jvm.MethodName) jdk_52_method_3_code (1 : Nat) (Option.some Jvm.ClassFile.FieldType.int), Jvm.Cond.code ({ cls := "java/lang/StringUTF16", name := "putChar", desc := "([BII)V" } : Jvm.MethodName) jdk_52_method_4_code (3 : Nat) (Option.none : Option Jvm.ClassFile.FieldType), Jvm.Cond.code ({ cls := "java/lang/StringUTF16", name := "getChar", desc := "([BI)C" } : Jvm.MethodName) jdk_52_method_5_code (2 : Nat) (Option.some Jvm.ClassFile.FieldType.char), Jvm.Cond.code ({ cls := "java/lang/StringUTF16", name := "indexOf", desc := "([BIII)I" } : Jvm.MethodName) jdk_52_method_40_code (4 : Nat) (Option.some Jvm.ClassFile.FieldType.int), Jvm.Cond.code ({ cls := "java/lang/StringUTF16", name := "indexOfChar", desc := "([BIII)I" } : Jvm.MethodName) jdk_52_method_47_code (4 : Nat) (Option.some Jvm.ClassFile.FieldType.int), Jvm.Cond.code ({ cls := "java/lang/StringUTF16", name := "checkBoundsBeginEnd", desc := "(II[B)V" } : Jvm.MethodName) jdk_52_method_93_code (3 : Nat) (Option.none : Option Jvm.ClassFile.FieldType), Jvm.Cond.code ({ cls := "java/lang/StringUTF16", name := "length", desc := "([B)I" } : Jvm.MethodName) jdk_52_method_6_code (1 : Nat) (Option.some Jvm.ClassFile.FieldType.int), Jvm.Cond.code ({ cls := "java/lang/String", name := "checkBoundsBeginEnd", desc := "(III)V" } : Jvm.MethodName) jdk_42_method_158_code (3 : Nat) (Option.none : Option Jvm.ClassFile.FieldType), Jvm.Cond.code ({ cls := "jdk/internal/util/Preconditions", name := "checkFromToIndex", desc := "(IIILjava/util/function/BiFunction;)I" } : Jvm.MethodName) jdk_41_method_12_code (4 : Nat) (Option.some Jvm.ClassFile.FieldType.int), Jvm.Cond.code ({ cls := "java/lang/StringUTF16", name := "indexOfCharUnsafe", desc := "([BIII)I" } : Jvm.MethodName) jdk_52_method_48_code (5 : Nat) (Option.some Jvm.ClassFile.FieldType.int)]
set_option maxRecDepth 65536 in
theorem codes_eq : words1.filter isCode = codes1 := rfl
theorem w_codes : ∀ c ∈ words1.filter isCode, c.before args0 about1 = true := by
  rw [codes_eq]
  intro c hc
  simp only [codes1, List.mem_cons, List.not_mem_nil, or_false] at hc
  rcases hc with rfl | rfl | rfl | rfl | rfl | rfl | rfl | rfl | rfl | rfl | rfl | rfl | rfl | rfl | rfl | rfl | rfl | rfl | rfl | rfl | rfl | rfl | rfl | rfl | rfl | rfl | rfl | rfl | rfl | rfl | rfl
  · exact w_c0
  · exact w_c1
  · exact w_c2
  · exact w_c3
  · exact w_c4
  · exact w_c5
  · exact w_c6
  · exact w_c7
  · exact w_c8
  · exact w_c9
  · exact w_c10
  · exact w_c11
  · exact w_c12
  · exact w_c13
  · exact w_c14
  · exact w_c15
  · exact w_c16
  · exact w_c17
  · exact w_c18
  · exact w_c19
  · exact w_c20
  · exact w_c21
  · exact w_c22
  · exact w_c23
  · exact w_c24
  · exact w_c25
  · exact w_c26
  · exact w_c27
  · exact w_c28
  · exact w_c29
  · exact w_c30
set_option maxRecDepth 65536 in
theorem w_t1 : (words1.take 24).all (fun c => isCode c || c.before args0 about1) = true := by decide +kernel
set_option maxRecDepth 65536 in
theorem w_t2 : ((words1.drop 24).take 24).all (fun c => isCode c || c.before args0 about1) = true := by decide +kernel
set_option maxRecDepth 65536 in
theorem w_t3 : (((words1.drop 24).drop 24).take 24).all (fun c => isCode c || c.before args0 about1) = true := by decide +kernel
set_option maxRecDepth 65536 in
theorem w_t4 : ((((words1.drop 24).drop 24).drop 24).take 24).all (fun c => isCode c || c.before args0 about1) = true := by decide +kernel
set_option maxRecDepth 65536 in
theorem w_t5 : (((((words1.drop 24).drop 24).drop 24).drop 24).take 24).all (fun c => isCode c || c.before args0 about1) = true := by decide +kernel
set_option maxRecDepth 65536 in
theorem w_t6 : (((((words1.drop 24).drop 24).drop 24).drop 24).drop 24).all (fun c => isCode c || c.before args0 about1) = true := by decide +kernel
theorem w_tables : (allAtoms (Jvm.Cond.code x code maxLocals ret :: tables_1)).before args0 about1 = true := by
  rw [allAtoms_all]
  show words1.all (fun c => c.before args0 about1) = true
  refine all_split ?_ w_codes
  rw [← List.take_append_drop 24 words1, List.all_append, w_t1, ← List.take_append_drop 24 (words1.drop 24), List.all_append, w_t2, ← List.take_append_drop 24 ((words1.drop 24).drop 24), List.all_append, w_t3, ← List.take_append_drop 24 (((words1.drop 24).drop 24).drop 24), List.all_append, w_t4, ← List.take_append_drop 24 ((((words1.drop 24).drop 24).drop 24).drop 24), List.all_append, w_t5, w_t6]
  rfl
set_option maxRecDepth 65536 in
theorem w_rest : rest_1_c.before args0 about1 = true := by decide +kernel
set_option maxRecDepth 65536 in
theorem w_case : (Jvm.Cond.and given_1 narrow_1).before args0 about1 = true := by decide +kernel
set_option maxRecDepth 65536 in
theorem w_consts : constsHeld consts_1 about1 := Jvm.Lit.constsHeldB_iff.mp (by decide +kernel)
theorem w_applies : (headSpec (Jvm.Cond.code x code maxLocals ret :: tables_1) room_1).applies x e0.platform about1 = true :=
  (Spec.applies_iff w_frames).mpr ⟨w_running, w_runnable, w_alone, w_named, w_hears, w_ripe, w_room, w_tables⟩
theorem atStart : AtStart classFile x code maxLocals ret World_1 tables_1 room_1 Calls_1 rest_1 Pre_1 launch0 p0 e0 about1 theMethod args0 below0 :=
  ⟨lists_1, trivial, launch0.admits_env _ _ _, launch0.least_env, fairChoices_fair.cas, fairChoices_fair.clock, w_frames, w_args, w_heap, w_applies, ⟨w_consts, trivial⟩, w_rest, w_case⟩
end start1
theorem witness_1 : WitnessClaimed_1 := ⟨start1.p0, start1.e0, start1.about1, start1.theMethod, start1.args0, start1.below0, start1.atStart⟩
end Jvm.Pilot.@@N@@
