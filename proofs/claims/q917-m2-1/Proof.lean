import JvmDerived
import JvmDerived.Pilot.@@N@@Statement
import JvmDerived.Pilot.@@N@@Code
set_option linter.unusedVariables false
set_option linter.unusedSimpArgs false
namespace Jvm.Pilot.@@N@@
open Jvm Jvm.ClassFile Sem Op Lib Jvm.Free Jvm.Stand Jvm.LawKit Jvm.RoadKit Bundle Jvm.Pilot.@@N@@.Jvm.D
/-- from the frame (pc, ls, st) over the heap h the goal G is reached -/
def Run (p : Program) (l : Launch) (e : Env) (R : Room) (s : State) (m : MethodId) (args : Array Value) (below : List Frame) (meth : Method) (c : Code) (Z : State) (own : String) (V : Vm → Nat → Prop) (n0 : Nat) (G : State → Outcome → Prop) (h : Heap) (cells slots pc : Nat) (ls : Array Slot) (st : List Value) : Prop :=
  ∀ (vm0 : Vm) (k0 : Nat) (T : State) (L : List Loc), Stand p l e R (s.setVm vm0) m args below meth c T L cells slots → V vm0 k0 → k0 ≤ h.size → Z.Warmed39 vm0 → vm0.findClass own = some m.cls → Fr n0 L → T.heap = h →
    ∃ U o, Steps p.tables e below (T.setTop (mkF m pc ls st)) U ∧ U.status = .running ∧ Ended U below o ∧ G U o
/-- what is known of the body -/
def Cx (p : Program) (c : Code) (meth : Method) (bytes : ByteArray) (maxL : Nat) (ret : Option FieldType) (nm : String) : Prop := p.tables.exec = Jvm.exec ∧ c.code = bytes ∧ c.maxLocals = maxL ∧ meth.sig.returnType = ret ∧ meth.locks = false ∧ meth.name = nm
def plainV (s : State) (vm : Vm) (_ : Nat) : Prop := vm = s.vm
def Gq (s : State) (n0 : Nat) (rm : Room) (P : Option Value → Heap → Prop) (U : State) (o : Outcome) : Prop := ∃ v L, o = .returned v ∧ (P v U.heap ∧ Fr n0 L) ∧ FrameEnd s o U L rm.cells rm.slots
/-- a contract -/
def Con (l : Launch) (Z : State) (y : MethodName) (bytes : ByteArray) (maxL : Nat) (ret : Option FieldType) (rm : Room) (as : Array Value) (h0 : Heap) (n0 : Nat) (P : Option Value → Heap → Prop) : Prop :=
  ∀ ws : List Jvm.Cond, MetFree l y (head1 (Jvm.Cond.code y bytes maxL ret :: ws) rm) (fun a U => a = as ∧ Z.Warmed39 U.vm ∧ U.heap = h0) (fun _ _ _ _ _ => True) (fun _ U o U' => Gq U n0 rm P U' o)
section Kit
variable {p : Program} {l : Launch} {e : Env} {R : Room} {s : State} {m : MethodId} {args : Array Value} {below : List Frame} {meth : Method} {c : Code} {Z : State} {own : String} {V : Vm → Nat → Prop} {n0 : Nat} {G : State → Outcome → Prop} {h : Heap} {cells slots pc pc' : Nat} {ls ls' : Array Slot} {st st' : List Value} {bytes : ByteArray} {maxL : Nat} {ret : Option FieldType} {nm : String} {a0 : Array Value}
theorem Con.of_body {y : MethodName} {rm : Room} {as : Array Value} {h0 : Heap} {P : Option Value → Heap → Prop} (hp : plainFor y = true) (Ls : Array Slot) (hent : ∀ m, entryFrame m as maxL = mkF m 0 Ls [])
    (body : ∀ p e s m below meth c, Cx p c meth bytes maxL ret y.name → Run p l e rm s m as below meth c Z y.cls (plainV s) n0 (Gq s n0 rm P) h0 0 0 0 Ls []) : Con l Z y bytes maxL ret rm as h0 n0 P := by
  intro ws
  refine MetFree.of_bodySF hp hisR ?_
  intro p e s m args below meth c s₁ Bd hml0 hP hK
  obtain ⟨rfl, hZ, hh⟩ := hP
  have hown : s.vm.findClass y.cls = some m.cls := findClass_of_methodNamed Bd.named
  have hnm := (name_of_methodNamed Bd.named Bd.method).1
  obtain ⟨U, o, h1, h2, h3, h4⟩ := body p e s m below meth c ⟨Bd.exec, Bd.bytes, hml0, Bd.returns, BodyLoose.notSynchronized Bd, hnm⟩ s.vm 0 s₁ [] (Stand.of_body Bd) rfl (Nat.zero_le _) hZ hown (Fr.nil n0) (by rw [← hh, Bd.state]; rfl)
  exact ⟨U, o, castTop (hent m) h1, h2, h3, h4⟩
theorem Run.go (hs : ∀ (T t : State), At T m c below → Steps p.tables e below (T.setTop (mkF m pc' ls' st')) t → Steps p.tables e below (T.setTop (mkF m pc ls st)) t) (k : Run p l e R s m args below meth c Z own V n0 G h cells slots pc' ls' st') : Run p l e R s m args below meth c Z own V n0 G h cells slots pc ls st :=
  fun vm0 k0 T L X hV hk hZ ho N eT => by
    obtain ⟨U, o, h1, r⟩ := k vm0 k0 T L X hV hk hZ ho N eT
    exact ⟨U, o, hs T U X.here h1, r⟩
theorem r_iadd {x y z : Int32} (C : Cx p c meth bytes maxL ret nm) (hd : decode bytes pc = .ok (.iadd, 1)) (hp : pc + 1 = pc') (hz : x + y = z) (k : Run p l e R s m args below meth c Z own V n0 G h cells slots pc' ls (.int z :: st)) : Run p l e R s m args below meth c Z own V n0 G h cells slots pc ls (.int y :: .int x :: st) := by
  subst hp hz
  exact k.go fun T t A q => XS.iadd (g := mkF m pc ls (.int y :: .int x :: st)) A C.1 rfl (hb C.2.1 hd) rfl q
theorem r_isub {x y z : Int32} (C : Cx p c meth bytes maxL ret nm) (hd : decode bytes pc = .ok (.isub, 1)) (hp : pc + 1 = pc') (hz : x - y = z) (k : Run p l e R s m args below meth c Z own V n0 G h cells slots pc' ls (.int z :: st)) : Run p l e R s m args below meth c Z own V n0 G h cells slots pc ls (.int y :: .int x :: st) := by
  subst hp hz
  exact k.go fun T t A q => XS.isub (g := mkF m pc ls (.int y :: .int x :: st)) A C.1 rfl (hb C.2.1 hd) rfl q
theorem r_imul {x y z : Int32} (C : Cx p c meth bytes maxL ret nm) (hd : decode bytes pc = .ok (.imul, 1)) (hp : pc + 1 = pc') (hz : x * y = z) (k : Run p l e R s m args below meth c Z own V n0 G h cells slots pc' ls (.int z :: st)) : Run p l e R s m args below meth c Z own V n0 G h cells slots pc ls (.int y :: .int x :: st) := by
  subst hp hz
  exact k.go fun T t A q => XS.imul (g := mkF m pc ls (.int y :: .int x :: st)) A C.1 rfl (hb C.2.1 hd) rfl q
theorem r_iand {x y z : Int32} (C : Cx p c meth bytes maxL ret nm) (hd : decode bytes pc = .ok (.iand, 1)) (hp : pc + 1 = pc') (hz : x &&& y = z) (k : Run p l e R s m args below meth c Z own V n0 G h cells slots pc' ls (.int z :: st)) : Run p l e R s m args below meth c Z own V n0 G h cells slots pc ls (.int y :: .int x :: st) := by
  subst hp hz
  exact k.go fun T t A q => XS.iand (g := mkF m pc ls (.int y :: .int x :: st)) A C.1 rfl (hb C.2.1 hd) rfl q
theorem r_ixor {x y z : Int32} (C : Cx p c meth bytes maxL ret nm) (hd : decode bytes pc = .ok (.ixor, 1)) (hp : pc + 1 = pc') (hz : x ^^^ y = z) (k : Run p l e R s m args below meth c Z own V n0 G h cells slots pc' ls (.int z :: st)) : Run p l e R s m args below meth c Z own V n0 G h cells slots pc ls (.int y :: .int x :: st) := by
  subst hp hz
  exact k.go fun T t A q => XT.ixor (g := mkF m pc ls (.int y :: .int x :: st)) A C.1 rfl (hb C.2.1 hd) rfl q
theorem r_ior {x y z : Int32} (C : Cx p c meth bytes maxL ret nm) (hd : decode bytes pc = .ok (.ior, 1)) (hp : pc + 1 = pc') (hz : x ||| y = z) (k : Run p l e R s m args below meth c Z own V n0 G h cells slots pc' ls (.int z :: st)) : Run p l e R s m args below meth c Z own V n0 G h cells slots pc ls (.int y :: .int x :: st) := by
  subst hp hz
  exact k.go fun T t A q => XT.ior (g := mkF m pc ls (.int y :: .int x :: st)) A C.1 rfl (hb C.2.1 hd) rfl q
theorem r_ishl {x y z : Int32} (C : Cx p c meth bytes maxL ret nm) (hd : decode bytes pc = .ok (.ishl, 1)) (hp : pc + 1 = pc') (hz : x <<< (y &&& 31) = z) (k : Run p l e R s m args below meth c Z own V n0 G h cells slots pc' ls (.int z :: st)) : Run p l e R s m args below meth c Z own V n0 G h cells slots pc ls (.int y :: .int x :: st) := by
  subst hp hz
  exact k.go fun T t A q => XT.ishl (g := mkF m pc ls (.int y :: .int x :: st)) A C.1 rfl (hb C.2.1 hd) rfl q
theorem r_ishr {x y z : Int32} (C : Cx p c meth bytes maxL ret nm) (hd : decode bytes pc = .ok (.ishr, 1)) (hp : pc + 1 = pc') (hz : x >>> (y &&& 31) = z) (k : Run p l e R s m args below meth c Z own V n0 G h cells slots pc' ls (.int z :: st)) : Run p l e R s m args below meth c Z own V n0 G h cells slots pc ls (.int y :: .int x :: st) := by
  subst hp hz
  exact k.go fun T t A q => XT.ishr (g := mkF m pc ls (.int y :: .int x :: st)) A C.1 rfl (hb C.2.1 hd) rfl q
theorem r_iushr {x y z : Int32} (C : Cx p c meth bytes maxL ret nm) (hd : decode bytes pc = .ok (.iushr, 1)) (hp : pc + 1 = pc') (hz : XT.ushr x y = z) (k : Run p l e R s m args below meth c Z own V n0 G h cells slots pc' ls (.int z :: st)) : Run p l e R s m args below meth c Z own V n0 G h cells slots pc ls (.int y :: .int x :: st) := by
  subst hp hz
  exact k.go fun T t A q => XT.iushr (g := mkF m pc ls (.int y :: .int x :: st)) A C.1 rfl (hb C.2.1 hd) rfl q
theorem r_ladd {x y z : Int64} (C : Cx p c meth bytes maxL ret nm) (hd : decode bytes pc = .ok (.ladd, 1)) (hp : pc + 1 = pc') (hz : x + y = z) (k : Run p l e R s m args below meth c Z own V n0 G h cells slots pc' ls (.long z :: st)) : Run p l e R s m args below meth c Z own V n0 G h cells slots pc ls (.long y :: .long x :: st) := by
  subst hp hz
  exact k.go fun T t A q => XT.ladd (g := mkF m pc ls (.long y :: .long x :: st)) A C.1 rfl (hb C.2.1 hd) rfl q
theorem r_lsub {x y z : Int64} (C : Cx p c meth bytes maxL ret nm) (hd : decode bytes pc = .ok (.lsub, 1)) (hp : pc + 1 = pc') (hz : x - y = z) (k : Run p l e R s m args below meth c Z own V n0 G h cells slots pc' ls (.long z :: st)) : Run p l e R s m args below meth c Z own V n0 G h cells slots pc ls (.long y :: .long x :: st) := by
  subst hp hz
  exact k.go fun T t A q => XT.lsub (g := mkF m pc ls (.long y :: .long x :: st)) A C.1 rfl (hb C.2.1 hd) rfl q
theorem r_lmul {x y z : Int64} (C : Cx p c meth bytes maxL ret nm) (hd : decode bytes pc = .ok (.lmul, 1)) (hp : pc + 1 = pc') (hz : x * y = z) (k : Run p l e R s m args below meth c Z own V n0 G h cells slots pc' ls (.long z :: st)) : Run p l e R s m args below meth c Z own V n0 G h cells slots pc ls (.long y :: .long x :: st) := by
  subst hp hz
  exact k.go fun T t A q => XT.lmul (g := mkF m pc ls (.long y :: .long x :: st)) A C.1 rfl (hb C.2.1 hd) rfl q
theorem r_land {x y z : Int64} (C : Cx p c meth bytes maxL ret nm) (hd : decode bytes pc = .ok (.land, 1)) (hp : pc + 1 = pc') (hz : x &&& y = z) (k : Run p l e R s m args below meth c Z own V n0 G h cells slots pc' ls (.long z :: st)) : Run p l e R s m args below meth c Z own V n0 G h cells slots pc ls (.long y :: .long x :: st) := by
  subst hp hz
  exact k.go fun T t A q => XT.land (g := mkF m pc ls (.long y :: .long x :: st)) A C.1 rfl (hb C.2.1 hd) rfl q
theorem r_lor {x y z : Int64} (C : Cx p c meth bytes maxL ret nm) (hd : decode bytes pc = .ok (.lor, 1)) (hp : pc + 1 = pc') (hz : x ||| y = z) (k : Run p l e R s m args below meth c Z own V n0 G h cells slots pc' ls (.long z :: st)) : Run p l e R s m args below meth c Z own V n0 G h cells slots pc ls (.long y :: .long x :: st) := by
  subst hp hz
  exact k.go fun T t A q => XT.lor (g := mkF m pc ls (.long y :: .long x :: st)) A C.1 rfl (hb C.2.1 hd) rfl q
theorem r_lxor {x y z : Int64} (C : Cx p c meth bytes maxL ret nm) (hd : decode bytes pc = .ok (.lxor, 1)) (hp : pc + 1 = pc') (hz : x ^^^ y = z) (k : Run p l e R s m args below meth c Z own V n0 G h cells slots pc' ls (.long z :: st)) : Run p l e R s m args below meth c Z own V n0 G h cells slots pc ls (.long y :: .long x :: st) := by
  subst hp hz
  exact k.go fun T t A q => XT.lxor (g := mkF m pc ls (.long y :: .long x :: st)) A C.1 rfl (hb C.2.1 hd) rfl q
theorem r_lshl {x z : Int64} {y : Int32} (C : Cx p c meth bytes maxL ret nm) (hd : decode bytes pc = .ok (.lshl, 1)) (hp : pc + 1 = pc') (hz : x <<< (y.toInt64 &&& 63) = z) (k : Run p l e R s m args below meth c Z own V n0 G h cells slots pc' ls (.long z :: st)) : Run p l e R s m args below meth c Z own V n0 G h cells slots pc ls (.int y :: .long x :: st) := by
  subst hp hz
  exact k.go fun T t A q => XT.lshl (g := mkF m pc ls (.int y :: .long x :: st)) A C.1 rfl (hb C.2.1 hd) rfl q
theorem r_lshr {x z : Int64} {y : Int32} (C : Cx p c meth bytes maxL ret nm) (hd : decode bytes pc = .ok (.lshr, 1)) (hp : pc + 1 = pc') (hz : x >>> (y.toInt64 &&& 63) = z) (k : Run p l e R s m args below meth c Z own V n0 G h cells slots pc' ls (.long z :: st)) : Run p l e R s m args below meth c Z own V n0 G h cells slots pc ls (.int y :: .long x :: st) := by
  subst hp hz
  exact k.go fun T t A q => XT.lshr (g := mkF m pc ls (.int y :: .long x :: st)) A C.1 rfl (hb C.2.1 hd) rfl q
theorem r_lushr {x z : Int64} {y : Int32} (C : Cx p c meth bytes maxL ret nm) (hd : decode bytes pc = .ok (.lushr, 1)) (hp : pc + 1 = pc') (hz : XT.ushrL x y = z) (k : Run p l e R s m args below meth c Z own V n0 G h cells slots pc' ls (.long z :: st)) : Run p l e R s m args below meth c Z own V n0 G h cells slots pc ls (.int y :: .long x :: st) := by
  subst hp hz
  exact k.go fun T t A q => XT.lushr (g := mkF m pc ls (.int y :: .long x :: st)) A C.1 rfl (hb C.2.1 hd) rfl q
theorem irem_mod (x y : Int32) : x - (x / y) * y = x % y := by
  have h : ∀ a b : Int, a - a.tdiv b * b = a.tmod b := fun a b => by have := Int.mul_tdiv_add_tmod a b; rw [Int.mul_comm] at this; omega
  by_cases hy : y = -1
  · subst hy
    apply Int32.toInt_inj.mp
    have h1 := c_isub x ((x / -1) * -1)
    have h2 := c_imul (x / -1) (-1)
    have h3 := c_idivM x (-1) rfl
    have h4 : (x % (-1 : Int32)).toInt = 0 := by rw [Int32.toInt_mod]; show x.toInt.tmod (-1) = 0; simp
    have h5 := rng32 (x - (x / -1) * -1)
    have h6 : ((-1 : Int32)).toInt = -1 := by decide
    rw [h6] at h2
    rw [h4]
    omega
  · apply Int32.toInt_inj.mp
    have h1 := c_isub x ((x / y) * y)
    have h2 := c_imul (x / y) y
    have h3 := Int32.toInt_div_of_ne_right x y hy
    have h4 := Int32.toInt_mod x y
    have h5 := rng32 (x - (x / y) * y)
    have h6 := rng32 (x % y)
    have h7 := h x.toInt y.toInt
    rw [h3] at h2
    rw [← h7] at h4
    omega
theorem r_idiv {x y z : Int32} (C : Cx p c meth bytes maxL ret nm) (hd : decode bytes pc = .ok (.idiv, 1)) (hp : pc + 1 = pc') (hy : y ≠ 0) (hz : x / y = z) (k : Run p l e R s m args below meth c Z own V n0 G h cells slots pc' ls (.int z :: st)) : Run p l e R s m args below meth c Z own V n0 G h cells slots pc ls (.int y :: .int x :: st) := by
  subst hp hz
  exact k.go fun T t A q => XS.idiv (g := mkF m pc ls (.int y :: .int x :: st)) A C.1 rfl (hb C.2.1 hd) rfl hy q
theorem r_irem {x y z : Int32} (C : Cx p c meth bytes maxL ret nm) (hd : decode bytes pc = .ok (.irem, 1)) (hp : pc + 1 = pc') (hy : y ≠ 0) (hz : x % y = z) (k : Run p l e R s m args below meth c Z own V n0 G h cells slots pc' ls (.int z :: st)) : Run p l e R s m args below meth c Z own V n0 G h cells slots pc ls (.int y :: .int x :: st) := by
  subst hp hz
  exact k.go fun T t A q => XS.irem (g := mkF m pc ls (.int y :: .int x :: st)) A C.1 rfl (hb C.2.1 hd) rfl hy (by rw [irem_mod]; exact q)
theorem r_ldiv {x y z : Int64} (C : Cx p c meth bytes maxL ret nm) (hd : decode bytes pc = .ok (.ldiv, 1)) (hp : pc + 1 = pc') (hy : y ≠ 0) (hz : x / y = z) (k : Run p l e R s m args below meth c Z own V n0 G h cells slots pc' ls (.long z :: st)) : Run p l e R s m args below meth c Z own V n0 G h cells slots pc ls (.long y :: .long x :: st) := by
  subst hp hz
  exact k.go fun T t A q => XT.ldiv (g := mkF m pc ls (.long y :: .long x :: st)) A C.1 rfl (hb C.2.1 hd) rfl hy q
theorem r_lrem {x y z : Int64} (C : Cx p c meth bytes maxL ret nm) (hd : decode bytes pc = .ok (.lrem, 1)) (hp : pc + 1 = pc') (hy : y ≠ 0) (hz : x % y = z) (k : Run p l e R s m args below meth c Z own V n0 G h cells slots pc' ls (.long z :: st)) : Run p l e R s m args below meth c Z own V n0 G h cells slots pc ls (.long y :: .long x :: st) := by
  subst hp hz
  exact k.go fun T t A q => XT.lrem (g := mkF m pc ls (.long y :: .long x :: st)) A C.1 rfl (hb C.2.1 hd) rfl hy (by rw [lrem_mod]; exact q)
theorem r_ineg {x z : Int32} (C : Cx p c meth bytes maxL ret nm) (hd : decode bytes pc = .ok (.ineg, 1)) (hp : pc + 1 = pc') (hz : -x = z) (k : Run p l e R s m args below meth c Z own V n0 G h cells slots pc' ls (.int z :: st)) : Run p l e R s m args below meth c Z own V n0 G h cells slots pc ls (.int x :: st) := by
  subst hp hz
  exact k.go fun T t A q => XS.ineg (g := mkF m pc ls (.int x :: st)) A C.1 rfl (hb C.2.1 hd) rfl q
theorem r_lneg {x z : Int64} (C : Cx p c meth bytes maxL ret nm) (hd : decode bytes pc = .ok (.lneg, 1)) (hp : pc + 1 = pc') (hz : -x = z) (k : Run p l e R s m args below meth c Z own V n0 G h cells slots pc' ls (.long z :: st)) : Run p l e R s m args below meth c Z own V n0 G h cells slots pc ls (.long x :: st) := by
  subst hp hz
  exact k.go fun T t A q => XT.lneg (g := mkF m pc ls (.long x :: st)) A C.1 rfl (hb C.2.1 hd) rfl q
theorem r_i2l {x : Int32} {z : Int64} (C : Cx p c meth bytes maxL ret nm) (hd : decode bytes pc = .ok (.i2l, 1)) (hp : pc + 1 = pc') (hz : x.toInt64 = z) (k : Run p l e R s m args below meth c Z own V n0 G h cells slots pc' ls (.long z :: st)) : Run p l e R s m args below meth c Z own V n0 G h cells slots pc ls (.int x :: st) := by
  subst hp hz
  exact k.go fun T t A q => XT.i2l (g := mkF m pc ls (.int x :: st)) A C.1 rfl (hb C.2.1 hd) rfl q
theorem r_l2i {x : Int64} {z : Int32} (C : Cx p c meth bytes maxL ret nm) (hd : decode bytes pc = .ok (.l2i, 1)) (hp : pc + 1 = pc') (hz : x.toInt32 = z) (k : Run p l e R s m args below meth c Z own V n0 G h cells slots pc' ls (.int z :: st)) : Run p l e R s m args below meth c Z own V n0 G h cells slots pc ls (.long x :: st) := by
  subst hp hz
  exact k.go fun T t A q => XT.l2i (g := mkF m pc ls (.long x :: st)) A C.1 rfl (hb C.2.1 hd) rfl q
theorem r_i2b {x : Int32} {z : Int32} (C : Cx p c meth bytes maxL ret nm) (hd : decode bytes pc = .ok (.i2b, 1)) (hp : pc + 1 = pc') (hz : x.toInt8.toInt32 = z) (k : Run p l e R s m args below meth c Z own V n0 G h cells slots pc' ls (.int z :: st)) : Run p l e R s m args below meth c Z own V n0 G h cells slots pc ls (.int x :: st) := by
  subst hp hz
  exact k.go fun T t A q => XT.i2b (g := mkF m pc ls (.int x :: st)) A C.1 rfl (hb C.2.1 hd) rfl q
theorem r_i2c {x : Int32} {z : Int32} (C : Cx p c meth bytes maxL ret nm) (hd : decode bytes pc = .ok (.i2c, 1)) (hp : pc + 1 = pc') (hz : x.toUInt32.toUInt16.toUInt32.toInt32 = z) (k : Run p l e R s m args below meth c Z own V n0 G h cells slots pc' ls (.int z :: st)) : Run p l e R s m args below meth c Z own V n0 G h cells slots pc ls (.int x :: st) := by
  subst hp hz
  exact k.go fun T t A q => XT.i2c (g := mkF m pc ls (.int x :: st)) A C.1 rfl (hb C.2.1 hd) rfl q
theorem r_i2s {x : Int32} {z : Int32} (C : Cx p c meth bytes maxL ret nm) (hd : decode bytes pc = .ok (.i2s, 1)) (hp : pc + 1 = pc') (hz : x.toInt16.toInt32 = z) (k : Run p l e R s m args below meth c Z own V n0 G h cells slots pc' ls (.int z :: st)) : Run p l e R s m args below meth c Z own V n0 G h cells slots pc ls (.int x :: st) := by
  subst hp hz
  exact k.go fun T t A q => XT.i2s (g := mkF m pc ls (.int x :: st)) A C.1 rfl (hb C.2.1 hd) rfl q
theorem r_iconst {i : Int} {z : Int32} (C : Cx p c meth bytes maxL ret nm) (hd : decode bytes pc = .ok (.iconst i, 1)) (hp : pc + 1 = pc') (hz : Int32.ofInt i = z) (k : Run p l e R s m args below meth c Z own V n0 G h cells slots pc' ls (.int z :: st)) : Run p l e R s m args below meth c Z own V n0 G h cells slots pc ls st := by
  subst hp hz
  exact k.go fun T t A q => XS.iconst (g := mkF m pc ls st) A C.1 rfl (hb C.2.1 hd) q
theorem r_bipush {i : Int} {z : Int32} (C : Cx p c meth bytes maxL ret nm) (hd : decode bytes pc = .ok (.bipush i, 2)) (hp : pc + 2 = pc') (hz : (Int8.ofInt i).toInt32 = z) (k : Run p l e R s m args below meth c Z own V n0 G h cells slots pc' ls (.int z :: st)) : Run p l e R s m args below meth c Z own V n0 G h cells slots pc ls st := by
  subst hp hz
  exact k.go fun T t A q => XS.bipush (g := mkF m pc ls st) A C.1 rfl (hb C.2.1 hd) q
theorem r_sipush {i : Int} {z : Int32} (C : Cx p c meth bytes maxL ret nm) (hd : decode bytes pc = .ok (.sipush i, 3)) (hp : pc + 3 = pc') (hz : (Int16.ofInt i).toInt32 = z) (k : Run p l e R s m args below meth c Z own V n0 G h cells slots pc' ls (.int z :: st)) : Run p l e R s m args below meth c Z own V n0 G h cells slots pc ls st := by
  subst hp hz
  exact k.go fun T t A q => XS.sipush (g := mkF m pc ls st) A C.1 rfl (hb C.2.1 hd) q
theorem r_lconst {i : Fin 2} {z : Int64} (C : Cx p c meth bytes maxL ret nm) (hd : decode bytes pc = .ok (.lconst i, 1)) (hp : pc + 1 = pc') (hz : Int64.ofNat i = z) (k : Run p l e R s m args below meth c Z own V n0 G h cells slots pc' ls (.long z :: st)) : Run p l e R s m args below meth c Z own V n0 G h cells slots pc ls st := by
  subst hp hz
  exact k.go fun T t A q => XT.lconst (g := mkF m pc ls st) A C.1 rfl (hb C.2.1 hd) q
theorem r_aconst_null  (C : Cx p c meth bytes maxL ret nm) (hd : decode bytes pc = .ok (.aconst_null, 1)) (hp : pc + 1 = pc')  (k : Run p l e R s m args below meth c Z own V n0 G h cells slots pc' ls (.null :: st)) : Run p l e R s m args below meth c Z own V n0 G h cells slots pc ls st := by
  subst hp
  exact k.go fun T t A q => XS.aconstNull (g := mkF m pc ls st) A C.1 rfl (hb C.2.1 hd) q
theorem r_iload_n {i : Fin 4} {x : Int32} (C : Cx p c meth bytes maxL ret nm) (hd : decode bytes pc = .ok (.iload_n i, 1)) (hp : pc + 1 = pc') (hl : ls[i.val]? = some (.val (.int x))) (k : Run p l e R s m args below meth c Z own V n0 G h cells slots pc' ls (.int x :: st)) : Run p l e R s m args below meth c Z own V n0 G h cells slots pc ls st := by
  subst hp
  exact k.go fun T t A q => XS.iloadN (g := mkF m pc ls st) A C.1 rfl (hb C.2.1 hd) hl q
theorem r_iload {i : Nat} {x : Int32} (C : Cx p c meth bytes maxL ret nm) (hd : decode bytes pc = .ok (.iload i, 2)) (hp : pc + 2 = pc') (hl : ls[i]? = some (.val (.int x))) (k : Run p l e R s m args below meth c Z own V n0 G h cells slots pc' ls (.int x :: st)) : Run p l e R s m args below meth c Z own V n0 G h cells slots pc ls st := by
  subst hp
  exact k.go fun T t A q => XS.iload (g := mkF m pc ls st) A C.1 rfl (hb C.2.1 hd) hl q
theorem r_istore_n {i : Fin 4} {x : Int32} (C : Cx p c meth bytes maxL ret nm) (hd : decode bytes pc = .ok (.istore_n i, 1)) (hp : pc + 1 = pc') (hl : storeLocals ls i.val (.int x) = some ls') (k : Run p l e R s m args below meth c Z own V n0 G h cells slots pc' ls' st) : Run p l e R s m args below meth c Z own V n0 G h cells slots pc ls (.int x :: st) := by
  subst hp
  exact k.go fun T t A q => XS.istoreN (g := mkF m pc ls (.int x :: st)) A C.1 rfl (hb C.2.1 hd) rfl hl q
theorem r_istore {i : Nat} {x : Int32} (C : Cx p c meth bytes maxL ret nm) (hd : decode bytes pc = .ok (.istore i, 2)) (hp : pc + 2 = pc') (hl : storeLocals ls i (.int x) = some ls') (k : Run p l e R s m args below meth c Z own V n0 G h cells slots pc' ls' st) : Run p l e R s m args below meth c Z own V n0 G h cells slots pc ls (.int x :: st) := by
  subst hp
  exact k.go fun T t A q => XS.istore (g := mkF m pc ls (.int x :: st)) A C.1 rfl (hb C.2.1 hd) rfl hl q
theorem r_lload_n {i : Fin 4} {x : Int64} (C : Cx p c meth bytes maxL ret nm) (hd : decode bytes pc = .ok (.lload_n i, 1)) (hp : pc + 1 = pc') (hl : ls[i.val]? = some (.val (.long x))) (k : Run p l e R s m args below meth c Z own V n0 G h cells slots pc' ls (.long x :: st)) : Run p l e R s m args below meth c Z own V n0 G h cells slots pc ls st := by
  subst hp
  exact k.go fun T t A q => XT.lloadN (g := mkF m pc ls st) A C.1 rfl (hb C.2.1 hd) hl q
theorem r_lload {i : Nat} {x : Int64} (C : Cx p c meth bytes maxL ret nm) (hd : decode bytes pc = .ok (.lload i, 2)) (hp : pc + 2 = pc') (hl : ls[i]? = some (.val (.long x))) (k : Run p l e R s m args below meth c Z own V n0 G h cells slots pc' ls (.long x :: st)) : Run p l e R s m args below meth c Z own V n0 G h cells slots pc ls st := by
  subst hp
  exact k.go fun T t A q => XT.lload (g := mkF m pc ls st) A C.1 rfl (hb C.2.1 hd) hl q
theorem r_lstore_n {i : Fin 4} {x : Int64} (C : Cx p c meth bytes maxL ret nm) (hd : decode bytes pc = .ok (.lstore_n i, 1)) (hp : pc + 1 = pc') (hl : storeLocals ls i.val (.long x) = some ls') (k : Run p l e R s m args below meth c Z own V n0 G h cells slots pc' ls' st) : Run p l e R s m args below meth c Z own V n0 G h cells slots pc ls (.long x :: st) := by
  subst hp
  exact k.go fun T t A q => XT.lstoreN (g := mkF m pc ls (.long x :: st)) A C.1 rfl (hb C.2.1 hd) rfl hl q
theorem r_lstore {i : Nat} {x : Int64} (C : Cx p c meth bytes maxL ret nm) (hd : decode bytes pc = .ok (.lstore i, 2)) (hp : pc + 2 = pc') (hl : storeLocals ls i (.long x) = some ls') (k : Run p l e R s m args below meth c Z own V n0 G h cells slots pc' ls' st) : Run p l e R s m args below meth c Z own V n0 G h cells slots pc ls (.long x :: st) := by
  subst hp
  exact k.go fun T t A q => XT.lstore (g := mkF m pc ls (.long x :: st)) A C.1 rfl (hb C.2.1 hd) rfl hl q
theorem r_aload_n {i : Fin 4} {x : Value} (C : Cx p c meth bytes maxL ret nm) (hd : decode bytes pc = .ok (.aload_n i, 1)) (hp : pc + 1 = pc') (hl : ls[i.val]? = some (.val x)) (hv : x.isRef = true) (k : Run p l e R s m args below meth c Z own V n0 G h cells slots pc' ls (x :: st)) : Run p l e R s m args below meth c Z own V n0 G h cells slots pc ls st := by
  subst hp
  exact k.go fun T t A q => XS.aloadN (g := mkF m pc ls st) A C.1 rfl (hb C.2.1 hd) hl hv q
theorem r_aload {i : Nat} {x : Value} (C : Cx p c meth bytes maxL ret nm) (hd : decode bytes pc = .ok (.aload i, 2)) (hp : pc + 2 = pc') (hl : ls[i]? = some (.val x)) (hv : x.isRef = true) (k : Run p l e R s m args below meth c Z own V n0 G h cells slots pc' ls (x :: st)) : Run p l e R s m args below meth c Z own V n0 G h cells slots pc ls st := by
  subst hp
  exact k.go fun T t A q => XS.aload (g := mkF m pc ls st) A C.1 rfl (hb C.2.1 hd) hl hv q
theorem r_astore_n {i : Fin 4} {x : Value} (C : Cx p c meth bytes maxL ret nm) (hd : decode bytes pc = .ok (.astore_n i, 1)) (hp : pc + 1 = pc') (hv : x.isRef = true) (hl : storeLocals ls i.val x = some ls') (k : Run p l e R s m args below meth c Z own V n0 G h cells slots pc' ls' st) : Run p l e R s m args below meth c Z own V n0 G h cells slots pc ls (x :: st) := by
  subst hp
  exact k.go fun T t A q => XS.astoreN (g := mkF m pc ls (x :: st)) A C.1 rfl (hb C.2.1 hd) rfl hv hl q
theorem r_astore {i : Nat} {x : Value} (C : Cx p c meth bytes maxL ret nm) (hd : decode bytes pc = .ok (.astore i, 2)) (hp : pc + 2 = pc') (hv : x.isRef = true) (hl : storeLocals ls i x = some ls') (k : Run p l e R s m args below meth c Z own V n0 G h cells slots pc' ls' st) : Run p l e R s m args below meth c Z own V n0 G h cells slots pc ls (x :: st) := by
  subst hp
  exact k.go fun T t A q => XS.astore (g := mkF m pc ls (x :: st)) A C.1 rfl (hb C.2.1 hd) rfl hv hl q
theorem r_iinc {i : Nat} {cst : Int} {x z : Int32} (C : Cx p c meth bytes maxL ret nm) (hd : decode bytes pc = .ok (.iinc i cst, 3)) (hp : pc + 3 = pc') (hl : ls[i]? = some (.val (.int x))) (hz : x + Int32.ofInt cst = z) (hl' : storeLocals ls i (.int z) = some ls') (k : Run p l e R s m args below meth c Z own V n0 G h cells slots pc' ls' st) : Run p l e R s m args below meth c Z own V n0 G h cells slots pc ls st := by
  subst hp hz
  exact k.go fun T t A q => XS.iinc (g := mkF m pc ls st) A C.1 rfl (hb C.2.1 hd) hl hl' q
theorem r_pop {x : Value} (C : Cx p c meth bytes maxL ret nm) (hd : decode bytes pc = .ok (.pop, 1)) (hp : pc + 1 = pc') (hc : x.category = 1) (k : Run p l e R s m args below meth c Z own V n0 G h cells slots pc' ls st) : Run p l e R s m args below meth c Z own V n0 G h cells slots pc ls (x :: st) := by
  subst hp
  exact k.go fun T t A q => XT.pop (g := mkF m pc ls (x :: st)) A C.1 rfl (hb C.2.1 hd) rfl hc q
theorem r_dup {x : Value} (C : Cx p c meth bytes maxL ret nm) (hd : decode bytes pc = .ok (.dup, 1)) (hp : pc + 1 = pc') (hc : x.category = 1) (k : Run p l e R s m args below meth c Z own V n0 G h cells slots pc' ls (x :: x :: st)) : Run p l e R s m args below meth c Z own V n0 G h cells slots pc ls (x :: st) := by
  subst hp
  exact k.go fun T t A q => XS.dup (g := mkF m pc ls (x :: st)) A C.1 rfl (hb C.2.1 hd) rfl hc q
theorem r_dup_x1 {x y : Value} (C : Cx p c meth bytes maxL ret nm) (hd : decode bytes pc = .ok (.dup_x1, 1)) (hp : pc + 1 = pc') (hc : x.category = 1) (hc' : y.category = 1) (k : Run p l e R s m args below meth c Z own V n0 G h cells slots pc' ls (x :: y :: x :: st)) : Run p l e R s m args below meth c Z own V n0 G h cells slots pc ls (x :: y :: st) := by
  subst hp
  exact k.go fun T t A q => XT.dupX1 (g := mkF m pc ls (x :: y :: st)) A C.1 rfl (hb C.2.1 hd) rfl hc hc' q
theorem r_dup2 {x y : Value} (C : Cx p c meth bytes maxL ret nm) (hd : decode bytes pc = .ok (.dup2, 1)) (hp : pc + 1 = pc') (hc : x.category = 1) (hc' : y.category = 1) (k : Run p l e R s m args below meth c Z own V n0 G h cells slots pc' ls (x :: y :: x :: y :: st)) : Run p l e R s m args below meth c Z own V n0 G h cells slots pc ls (x :: y :: st) := by
  subst hp
  exact k.go fun T t A q => XT.dup2 (g := mkF m pc ls (x :: y :: st)) A C.1 rfl (hb C.2.1 hd) rfl hc hc' q
theorem r_dup2L {x : Int64} (C : Cx p c meth bytes maxL ret nm) (hd : decode bytes pc = .ok (.dup2, 1)) (hp : pc + 1 = pc')  (k : Run p l e R s m args below meth c Z own V n0 G h cells slots pc' ls (.long x :: .long x :: st)) : Run p l e R s m args below meth c Z own V n0 G h cells slots pc ls (.long x :: st) := by
  subst hp
  exact k.go fun T t A q => XT.dup2L (g := mkF m pc ls (.long x :: st)) A C.1 rfl (hb C.2.1 hd) rfl q
theorem toN {a : Nat} {o : Int} {b : Nat} (h : (a : Int) + o = (b : Int)) : 0 ≤ (a : Int) + o ∧ ((a : Int) + o).toNat = b := by omega
theorem r_goto {o : Int} (C : Cx p c meth bytes maxL ret nm) (hd : decode bytes pc = .ok (.goto o, 3)) (hp : (pc : Int) + o = (pc' : Int)) (k : Run p l e R s m args below meth c Z own V n0 G h cells slots pc' ls st) : Run p l e R s m args below meth c Z own V n0 G h cells slots pc ls st :=
  k.go fun T t A q => XS.goto (g := mkF m pc ls st) A C.1 rfl (pc0 := pc) (pc' := pc') rfl (hb C.2.1 hd) (toN hp).1 (toN hp).2 q
theorem r_icmp {x y : Int32} {cd : ClassFile.Cond} {o : Int} {pcT pcF : Nat} (C : Cx p c meth bytes maxL ret nm) (hd : decode bytes pc = .ok (.if_icmp cd o, 3)) (hT : (pc : Int) + o = (pcT : Int)) (hF : pc + 3 = pcF) (kT : if_icmp.holds cd x y = true → Run p l e R s m args below meth c Z own V n0 G h cells slots pcT ls st) (kF : if_icmp.holds cd x y = false → Run p l e R s m args below meth c Z own V n0 G h cells slots pcF ls st) : Run p l e R s m args below meth c Z own V n0 G h cells slots pc ls (.int y :: .int x :: st) := by
  subst hF
  cases hc : if_icmp.holds cd x y
  · exact (kF hc).go fun T t A q => XS.icmpNo (g := mkF m pc ls (.int y :: .int x :: st)) A C.1 rfl (hb C.2.1 hd) rfl hc q
  · exact (kT hc).go fun T t A q => XS.icmpYes (g := mkF m pc ls (.int y :: .int x :: st)) A C.1 rfl (pc0 := pc) (pc' := pcT) rfl (hb C.2.1 hd) rfl hc (toN hT).1 (toN hT).2 q
theorem r_if {x : Int32} {cd : ClassFile.Cond} {o : Int} {pcT pcF : Nat} (C : Cx p c meth bytes maxL ret nm) (hd : decode bytes pc = .ok (.ifCond cd o, 3)) (hT : (pc : Int) + o = (pcT : Int)) (hF : pc + 3 = pcF) (kT : ifCond.holds cd x = true → Run p l e R s m args below meth c Z own V n0 G h cells slots pcT ls st) (kF : ifCond.holds cd x = false → Run p l e R s m args below meth c Z own V n0 G h cells slots pcF ls st) : Run p l e R s m args below meth c Z own V n0 G h cells slots pc ls (.int x :: st) := by
  subst hF
  cases hc : ifCond.holds cd x
  · exact (kF hc).go fun T t A q => XS.ifNo (g := mkF m pc ls (.int x :: st)) A C.1 rfl (hb C.2.1 hd) rfl hc q
  · exact (kT hc).go fun T t A q => XS.ifYes (g := mkF m pc ls (.int x :: st)) A C.1 rfl (pc0 := pc) (pc' := pcT) rfl (hb C.2.1 hd) rfl hc (toN hT).1 (toN hT).2 q
theorem tf {P : Prop} {b : Bool} (h1 : P → b = true) (h2 : ¬ P → b = false) : (b = true → P) ∧ (b = false → ¬ P) := ⟨fun h => Classical.byContradiction fun q => (by rw [h2 q] at h; cases h), fun h q => (by rw [h1 q] at h; cases h)⟩
theorem lt32 {x y : Int32} : x < y ↔ x.toInt < y.toInt := Int32.lt_iff_toInt_lt
theorem nlt32 {x y : Int32} : ¬ x < y ↔ y.toInt ≤ x.toInt := by rw [lt32]; omega
theorem lt64 {x y : Int64} : x < y ↔ x.toInt < y.toInt := Int64.lt_iff_toInt_lt
theorem nlt64 {x y : Int64} : ¬ x < y ↔ y.toInt ≤ x.toInt := by rw [lt64]; omega
theorem r_icmplt {x y : Int32} {o : Int} {pcT pcF : Nat} (C : Cx p c meth bytes maxL ret nm) (hd : decode bytes pc = .ok (.if_icmp .lt o, 3)) (hT : (pc : Int) + o = (pcT : Int)) (hF : pc + 3 = pcF) (kT : x.toInt < y.toInt → Run p l e R s m args below meth c Z own V n0 G h cells slots pcT ls st) (kF : y.toInt ≤ x.toInt → Run p l e R s m args below meth c Z own V n0 G h cells slots pcF ls st) : Run p l e R s m args below meth c Z own V n0 G h cells slots pc ls (.int y :: .int x :: st) :=
  r_icmp C hd hT hF (fun hc => kT (lt32.mp ((tf (P := x < y) XT.ii_lt_t XT.ii_lt_f).1 hc))) (fun hc => kF (nlt32.mp ((tf (P := x < y) XT.ii_lt_t XT.ii_lt_f).2 hc)))
theorem r_iflt {x : Int32} {o : Int} {pcT pcF : Nat} (C : Cx p c meth bytes maxL ret nm) (hd : decode bytes pc = .ok (.ifCond .lt o, 3)) (hT : (pc : Int) + o = (pcT : Int)) (hF : pc + 3 = pcF) (kT : x.toInt < 0 → Run p l e R s m args below meth c Z own V n0 G h cells slots pcT ls st) (kF : 0 ≤ x.toInt → Run p l e R s m args below meth c Z own V n0 G h cells slots pcF ls st) : Run p l e R s m args below meth c Z own V n0 G h cells slots pc ls (.int x :: st) :=
  r_if C hd hT hF (fun hc => kT (lt32.mp ((tf (P := x < (0 : Int32)) XT.i0_lt_t XT.i0_lt_f).1 hc))) (fun hc => kF (nlt32.mp ((tf (P := x < (0 : Int32)) XT.i0_lt_t XT.i0_lt_f).2 hc)))
theorem r_lcmplt {x y : Int64} {o : Int} {pcT pcF : Nat} (C : Cx p c meth bytes maxL ret nm) (hd0 : decode bytes pc = .ok (.lcmp, 1)) (hp : pc + 1 = pc') (hd : decode bytes pc' = .ok (.ifCond .lt o, 3)) (hT : (pc' : Int) + o = (pcT : Int)) (hF : pc' + 3 = pcF) (kT : x.toInt < y.toInt → Run p l e R s m args below meth c Z own V n0 G h cells slots pcT ls st) (kF : y.toInt ≤ x.toInt → Run p l e R s m args below meth c Z own V n0 G h cells slots pcF ls st) : Run p l e R s m args below meth c Z own V n0 G h cells slots pc ls (.long y :: .long x :: st) := by
  subst hp
  exact (r_if (x := XT.cmpL x y) C hd hT hF (fun hc => kT (lt64.mp ((tf (P := x < y) XT.ll_lt_t XT.ll_lt_f).1 hc))) (fun hc => kF (nlt64.mp ((tf (P := x < y) XT.ll_lt_t XT.ll_lt_f).2 hc)))).go fun T t A q => XT.lcmp (g := mkF m pc ls (.long y :: .long x :: st)) A C.1 rfl (hb C.2.1 hd0) rfl q
theorem r_icmpge {x y : Int32} {o : Int} {pcT pcF : Nat} (C : Cx p c meth bytes maxL ret nm) (hd : decode bytes pc = .ok (.if_icmp .ge o, 3)) (hT : (pc : Int) + o = (pcT : Int)) (hF : pc + 3 = pcF) (kT : y.toInt ≤ x.toInt → Run p l e R s m args below meth c Z own V n0 G h cells slots pcT ls st) (kF : x.toInt < y.toInt → Run p l e R s m args below meth c Z own V n0 G h cells slots pcF ls st) : Run p l e R s m args below meth c Z own V n0 G h cells slots pc ls (.int y :: .int x :: st) :=
  r_icmp C hd hT hF (fun hc => kT (nlt32.mp ((tf (P := ¬ x < y) XT.ii_ge_t (fun q => XT.ii_ge_f (Classical.not_not.mp q))).1 hc))) (fun hc => kF (lt32.mp (Classical.not_not.mp ((tf (P := ¬ x < y) XT.ii_ge_t (fun q => XT.ii_ge_f (Classical.not_not.mp q))).2 hc))))
theorem r_ifge {x : Int32} {o : Int} {pcT pcF : Nat} (C : Cx p c meth bytes maxL ret nm) (hd : decode bytes pc = .ok (.ifCond .ge o, 3)) (hT : (pc : Int) + o = (pcT : Int)) (hF : pc + 3 = pcF) (kT : 0 ≤ x.toInt → Run p l e R s m args below meth c Z own V n0 G h cells slots pcT ls st) (kF : x.toInt < 0 → Run p l e R s m args below meth c Z own V n0 G h cells slots pcF ls st) : Run p l e R s m args below meth c Z own V n0 G h cells slots pc ls (.int x :: st) :=
  r_if C hd hT hF (fun hc => kT (nlt32.mp ((tf (P := ¬ x < (0 : Int32)) XT.i0_ge_t (fun q => XT.i0_ge_f (Classical.not_not.mp q))).1 hc))) (fun hc => kF (lt32.mp (Classical.not_not.mp ((tf (P := ¬ x < (0 : Int32)) XT.i0_ge_t (fun q => XT.i0_ge_f (Classical.not_not.mp q))).2 hc))))
theorem r_lcmpge {x y : Int64} {o : Int} {pcT pcF : Nat} (C : Cx p c meth bytes maxL ret nm) (hd0 : decode bytes pc = .ok (.lcmp, 1)) (hp : pc + 1 = pc') (hd : decode bytes pc' = .ok (.ifCond .ge o, 3)) (hT : (pc' : Int) + o = (pcT : Int)) (hF : pc' + 3 = pcF) (kT : y.toInt ≤ x.toInt → Run p l e R s m args below meth c Z own V n0 G h cells slots pcT ls st) (kF : x.toInt < y.toInt → Run p l e R s m args below meth c Z own V n0 G h cells slots pcF ls st) : Run p l e R s m args below meth c Z own V n0 G h cells slots pc ls (.long y :: .long x :: st) := by
  subst hp
  exact (r_if (x := XT.cmpL x y) C hd hT hF (fun hc => kT (nlt64.mp ((tf (P := ¬ x < y) XT.ll_ge_t (fun q => XT.ll_ge_f (Classical.not_not.mp q))).1 hc))) (fun hc => kF (lt64.mp (Classical.not_not.mp ((tf (P := ¬ x < y) XT.ll_ge_t (fun q => XT.ll_ge_f (Classical.not_not.mp q))).2 hc))))).go fun T t A q => XT.lcmp (g := mkF m pc ls (.long y :: .long x :: st)) A C.1 rfl (hb C.2.1 hd0) rfl q
theorem r_icmpgt {x y : Int32} {o : Int} {pcT pcF : Nat} (C : Cx p c meth bytes maxL ret nm) (hd : decode bytes pc = .ok (.if_icmp .gt o, 3)) (hT : (pc : Int) + o = (pcT : Int)) (hF : pc + 3 = pcF) (kT : y.toInt < x.toInt → Run p l e R s m args below meth c Z own V n0 G h cells slots pcT ls st) (kF : x.toInt ≤ y.toInt → Run p l e R s m args below meth c Z own V n0 G h cells slots pcF ls st) : Run p l e R s m args below meth c Z own V n0 G h cells slots pc ls (.int y :: .int x :: st) :=
  r_icmp C hd hT hF (fun hc => kT (lt32.mp ((tf (P := y < x) XT.ii_gt_t XT.ii_gt_f).1 hc))) (fun hc => kF (nlt32.mp ((tf (P := y < x) XT.ii_gt_t XT.ii_gt_f).2 hc)))
theorem r_ifgt {x : Int32} {o : Int} {pcT pcF : Nat} (C : Cx p c meth bytes maxL ret nm) (hd : decode bytes pc = .ok (.ifCond .gt o, 3)) (hT : (pc : Int) + o = (pcT : Int)) (hF : pc + 3 = pcF) (kT : 0 < x.toInt → Run p l e R s m args below meth c Z own V n0 G h cells slots pcT ls st) (kF : x.toInt ≤ 0 → Run p l e R s m args below meth c Z own V n0 G h cells slots pcF ls st) : Run p l e R s m args below meth c Z own V n0 G h cells slots pc ls (.int x :: st) :=
  r_if C hd hT hF (fun hc => kT (lt32.mp ((tf (P := (0 : Int32) < x) XT.i0_gt_t XT.i0_gt_f).1 hc))) (fun hc => kF (nlt32.mp ((tf (P := (0 : Int32) < x) XT.i0_gt_t XT.i0_gt_f).2 hc)))
theorem r_lcmpgt {x y : Int64} {o : Int} {pcT pcF : Nat} (C : Cx p c meth bytes maxL ret nm) (hd0 : decode bytes pc = .ok (.lcmp, 1)) (hp : pc + 1 = pc') (hd : decode bytes pc' = .ok (.ifCond .gt o, 3)) (hT : (pc' : Int) + o = (pcT : Int)) (hF : pc' + 3 = pcF) (kT : y.toInt < x.toInt → Run p l e R s m args below meth c Z own V n0 G h cells slots pcT ls st) (kF : x.toInt ≤ y.toInt → Run p l e R s m args below meth c Z own V n0 G h cells slots pcF ls st) : Run p l e R s m args below meth c Z own V n0 G h cells slots pc ls (.long y :: .long x :: st) := by
  subst hp
  exact (r_if (x := XT.cmpL x y) C hd hT hF (fun hc => kT (lt64.mp ((tf (P := y < x) XT.ll_gt_t XT.ll_gt_f).1 hc))) (fun hc => kF (nlt64.mp ((tf (P := y < x) XT.ll_gt_t XT.ll_gt_f).2 hc)))).go fun T t A q => XT.lcmp (g := mkF m pc ls (.long y :: .long x :: st)) A C.1 rfl (hb C.2.1 hd0) rfl q
theorem r_icmple {x y : Int32} {o : Int} {pcT pcF : Nat} (C : Cx p c meth bytes maxL ret nm) (hd : decode bytes pc = .ok (.if_icmp .le o, 3)) (hT : (pc : Int) + o = (pcT : Int)) (hF : pc + 3 = pcF) (kT : x.toInt ≤ y.toInt → Run p l e R s m args below meth c Z own V n0 G h cells slots pcT ls st) (kF : y.toInt < x.toInt → Run p l e R s m args below meth c Z own V n0 G h cells slots pcF ls st) : Run p l e R s m args below meth c Z own V n0 G h cells slots pc ls (.int y :: .int x :: st) :=
  r_icmp C hd hT hF (fun hc => kT (nlt32.mp ((tf (P := ¬ y < x) XT.ii_le_t (fun q => XT.ii_le_f (Classical.not_not.mp q))).1 hc))) (fun hc => kF (lt32.mp (Classical.not_not.mp ((tf (P := ¬ y < x) XT.ii_le_t (fun q => XT.ii_le_f (Classical.not_not.mp q))).2 hc))))
theorem r_ifle {x : Int32} {o : Int} {pcT pcF : Nat} (C : Cx p c meth bytes maxL ret nm) (hd : decode bytes pc = .ok (.ifCond .le o, 3)) (hT : (pc : Int) + o = (pcT : Int)) (hF : pc + 3 = pcF) (kT : x.toInt ≤ 0 → Run p l e R s m args below meth c Z own V n0 G h cells slots pcT ls st) (kF : 0 < x.toInt → Run p l e R s m args below meth c Z own V n0 G h cells slots pcF ls st) : Run p l e R s m args below meth c Z own V n0 G h cells slots pc ls (.int x :: st) :=
  r_if C hd hT hF (fun hc => kT (nlt32.mp ((tf (P := ¬ (0 : Int32) < x) XT.i0_le_t (fun q => XT.i0_le_f (Classical.not_not.mp q))).1 hc))) (fun hc => kF (lt32.mp (Classical.not_not.mp ((tf (P := ¬ (0 : Int32) < x) XT.i0_le_t (fun q => XT.i0_le_f (Classical.not_not.mp q))).2 hc))))
theorem r_lcmple {x y : Int64} {o : Int} {pcT pcF : Nat} (C : Cx p c meth bytes maxL ret nm) (hd0 : decode bytes pc = .ok (.lcmp, 1)) (hp : pc + 1 = pc') (hd : decode bytes pc' = .ok (.ifCond .le o, 3)) (hT : (pc' : Int) + o = (pcT : Int)) (hF : pc' + 3 = pcF) (kT : x.toInt ≤ y.toInt → Run p l e R s m args below meth c Z own V n0 G h cells slots pcT ls st) (kF : y.toInt < x.toInt → Run p l e R s m args below meth c Z own V n0 G h cells slots pcF ls st) : Run p l e R s m args below meth c Z own V n0 G h cells slots pc ls (.long y :: .long x :: st) := by
  subst hp
  exact (r_if (x := XT.cmpL x y) C hd hT hF (fun hc => kT (nlt64.mp ((tf (P := ¬ y < x) XT.ll_le_t (fun q => XT.ll_le_f (Classical.not_not.mp q))).1 hc))) (fun hc => kF (lt64.mp (Classical.not_not.mp ((tf (P := ¬ y < x) XT.ll_le_t (fun q => XT.ll_le_f (Classical.not_not.mp q))).2 hc))))).go fun T t A q => XT.lcmp (g := mkF m pc ls (.long y :: .long x :: st)) A C.1 rfl (hb C.2.1 hd0) rfl q
theorem r_icmpeq {x y : Int32} {o : Int} {pcT pcF : Nat} (C : Cx p c meth bytes maxL ret nm) (hd : decode bytes pc = .ok (.if_icmp .eq o, 3)) (hT : (pc : Int) + o = (pcT : Int)) (hF : pc + 3 = pcF) (kT : x = y → Run p l e R s m args below meth c Z own V n0 G h cells slots pcT ls st) (kF : ¬ x = y → Run p l e R s m args below meth c Z own V n0 G h cells slots pcF ls st) : Run p l e R s m args below meth c Z own V n0 G h cells slots pc ls (.int y :: .int x :: st) :=
  r_icmp C hd hT hF (fun hc => kT ((tf (P := x = y) XT.ii_eq_t XT.ii_eq_f).1 hc)) (fun hc => kF ((tf (P := x = y) XT.ii_eq_t XT.ii_eq_f).2 hc))
theorem r_ifeq {x : Int32} {o : Int} {pcT pcF : Nat} (C : Cx p c meth bytes maxL ret nm) (hd : decode bytes pc = .ok (.ifCond .eq o, 3)) (hT : (pc : Int) + o = (pcT : Int)) (hF : pc + 3 = pcF) (kT : x = 0 → Run p l e R s m args below meth c Z own V n0 G h cells slots pcT ls st) (kF : ¬ x = 0 → Run p l e R s m args below meth c Z own V n0 G h cells slots pcF ls st) : Run p l e R s m args below meth c Z own V n0 G h cells slots pc ls (.int x :: st) :=
  r_if C hd hT hF (fun hc => kT ((tf (P := x = 0) XT.i0_eq_t XT.i0_eq_f).1 hc)) (fun hc => kF ((tf (P := x = 0) XT.i0_eq_t XT.i0_eq_f).2 hc))
theorem r_lcmpeq {x y : Int64} {o : Int} {pcT pcF : Nat} (C : Cx p c meth bytes maxL ret nm) (hd0 : decode bytes pc = .ok (.lcmp, 1)) (hp : pc + 1 = pc') (hd : decode bytes pc' = .ok (.ifCond .eq o, 3)) (hT : (pc' : Int) + o = (pcT : Int)) (hF : pc' + 3 = pcF) (kT : x = y → Run p l e R s m args below meth c Z own V n0 G h cells slots pcT ls st) (kF : ¬ x = y → Run p l e R s m args below meth c Z own V n0 G h cells slots pcF ls st) : Run p l e R s m args below meth c Z own V n0 G h cells slots pc ls (.long y :: .long x :: st) := by
  subst hp
  exact (r_if (x := XT.cmpL x y) C hd hT hF (fun hc => kT ((tf (P := x = y) XT.ll_eq_t XT.ll_eq_f).1 hc)) (fun hc => kF ((tf (P := x = y) XT.ll_eq_t XT.ll_eq_f).2 hc))).go fun T t A q => XT.lcmp (g := mkF m pc ls (.long y :: .long x :: st)) A C.1 rfl (hb C.2.1 hd0) rfl q
theorem r_icmpne {x y : Int32} {o : Int} {pcT pcF : Nat} (C : Cx p c meth bytes maxL ret nm) (hd : decode bytes pc = .ok (.if_icmp .ne o, 3)) (hT : (pc : Int) + o = (pcT : Int)) (hF : pc + 3 = pcF) (kT : ¬ x = y → Run p l e R s m args below meth c Z own V n0 G h cells slots pcT ls st) (kF : x = y → Run p l e R s m args below meth c Z own V n0 G h cells slots pcF ls st) : Run p l e R s m args below meth c Z own V n0 G h cells slots pc ls (.int y :: .int x :: st) :=
  r_icmp C hd hT hF (fun hc => kT ((tf (P := ¬ x = y) XT.ii_ne_t (fun q => XT.ii_ne_f (Classical.not_not.mp q))).1 hc)) (fun hc => kF (Classical.not_not.mp ((tf (P := ¬ x = y) XT.ii_ne_t (fun q => XT.ii_ne_f (Classical.not_not.mp q))).2 hc)))
theorem r_ifne {x : Int32} {o : Int} {pcT pcF : Nat} (C : Cx p c meth bytes maxL ret nm) (hd : decode bytes pc = .ok (.ifCond .ne o, 3)) (hT : (pc : Int) + o = (pcT : Int)) (hF : pc + 3 = pcF) (kT : ¬ x = 0 → Run p l e R s m args below meth c Z own V n0 G h cells slots pcT ls st) (kF : x = 0 → Run p l e R s m args below meth c Z own V n0 G h cells slots pcF ls st) : Run p l e R s m args below meth c Z own V n0 G h cells slots pc ls (.int x :: st) :=
  r_if C hd hT hF (fun hc => kT ((tf (P := ¬ x = 0) XT.i0_ne_t (fun q => XT.i0_ne_f (Classical.not_not.mp q))).1 hc)) (fun hc => kF (Classical.not_not.mp ((tf (P := ¬ x = 0) XT.i0_ne_t (fun q => XT.i0_ne_f (Classical.not_not.mp q))).2 hc)))
theorem r_lcmpne {x y : Int64} {o : Int} {pcT pcF : Nat} (C : Cx p c meth bytes maxL ret nm) (hd0 : decode bytes pc = .ok (.lcmp, 1)) (hp : pc + 1 = pc') (hd : decode bytes pc' = .ok (.ifCond .ne o, 3)) (hT : (pc' : Int) + o = (pcT : Int)) (hF : pc' + 3 = pcF) (kT : ¬ x = y → Run p l e R s m args below meth c Z own V n0 G h cells slots pcT ls st) (kF : x = y → Run p l e R s m args below meth c Z own V n0 G h cells slots pcF ls st) : Run p l e R s m args below meth c Z own V n0 G h cells slots pc ls (.long y :: .long x :: st) := by
  subst hp
  exact (r_if (x := XT.cmpL x y) C hd hT hF (fun hc => kT ((tf (P := ¬ x = y) XT.ll_ne_t (fun q => XT.ll_ne_f (Classical.not_not.mp q))).1 hc)) (fun hc => kF (Classical.not_not.mp ((tf (P := ¬ x = y) XT.ll_ne_t (fun q => XT.ll_ne_f (Classical.not_not.mp q))).2 hc)))).go fun T t A q => XT.lcmp (g := mkF m pc ls (.long y :: .long x :: st)) A C.1 rfl (hb C.2.1 hd0) rfl q
theorem r_ifnonnullR {a : Addr} {o : Int} (C : Cx p c meth bytes maxL ret nm) (hd : decode bytes pc = .ok (.ifnonnull o, 3)) (hp : (pc : Int) + o = (pc' : Int)) (k : Run p l e R s m args below meth c Z own V n0 G h cells slots pc' ls st) : Run p l e R s m args below meth c Z own V n0 G h cells slots pc ls (.ref a :: st) :=
  k.go fun T t A q => XT.ifnonnullYes (g := mkF m pc ls (.ref a :: st)) A C.1 rfl (pc0 := pc) (pc' := pc') rfl (hb C.2.1 hd) rfl (toN hp).1 (toN hp).2 q
theorem r_ifnullR {a : Addr} {o : Int} (C : Cx p c meth bytes maxL ret nm) (hd : decode bytes pc = .ok (.ifnull o, 3)) (hp : pc + 3 = pc') (k : Run p l e R s m args below meth c Z own V n0 G h cells slots pc' ls st) : Run p l e R s m args below meth c Z own V n0 G h cells slots pc ls (.ref a :: st) := by
  subst hp
  exact k.go fun T t A q => XS.ifnullNo (g := mkF m pc ls (.ref a :: st)) A C.1 rfl (hb C.2.1 hd) rfl q
theorem r_ldc {i : Nat} {x : Int32} (C : Cx p c meth bytes maxL ret nm) (w : (Jvm.Cond.constant own i x).before a0 Z = true) (hd : decode bytes pc = .ok (.ldc i, 2)) (hp : pc + 2 = pc') (k : Run p l e R s m args below meth c Z own V n0 G h cells slots pc' ls (.int x :: st)) : Run p l e R s m args below meth c Z own V n0 G h cells slots pc ls st := by
  subst hp
  intro vm0 k0 T L X hV hk hZ ho N eT
  obtain ⟨U, o, h1, r⟩ := k vm0 k0 T L X hV hk hZ ho N eT
  exact ⟨U, o, X.ldcI (g := mkF m pc ls st) C.1 (own := own) ho (mvT (s := s.setVm vm0) hZ w) rfl (hb C.2.1 hd) h1, r⟩
theorem r_ldc_w {i : Nat} {x : Int32} (C : Cx p c meth bytes maxL ret nm) (w : (Jvm.Cond.constant own i x).before a0 Z = true) (hd : decode bytes pc = .ok (.ldc_w i, 3)) (hp : pc + 3 = pc') (k : Run p l e R s m args below meth c Z own V n0 G h cells slots pc' ls (.int x :: st)) : Run p l e R s m args below meth c Z own V n0 G h cells slots pc ls st := by
  subst hp
  intro vm0 k0 T L X hV hk hZ ho N eT
  obtain ⟨U, o, h1, r⟩ := k vm0 k0 T L X hV hk hZ ho N eT
  exact ⟨U, o, X.ldcWI (g := mkF m pc ls st) C.1 (own := own) ho (mvT (s := s.setVm vm0) hZ w) rfl (hb C.2.1 hd) h1, r⟩
theorem r_ldc2_w {i : Nat} {x : Int64} (C : Cx p c meth bytes maxL ret nm) (w : (Jvm.Cond.constantLong own i x).before a0 Z = true) (hd : decode bytes pc = .ok (.ldc2_w i, 3)) (hp : pc + 3 = pc') (k : Run p l e R s m args below meth c Z own V n0 G h cells slots pc' ls (.long x :: st)) : Run p l e R s m args below meth c Z own V n0 G h cells slots pc ls st := by
  subst hp
  intro vm0 k0 T L X hV hk hZ ho N eT
  obtain ⟨U, o, h1, r⟩ := k vm0 k0 T L X hV hk hZ ho N eT
  exact ⟨U, o, X.ldc2J (g := mkF m pc ls st) C.1 (own := own) ho (mvT (s := s.setVm vm0) hZ w) rfl (hb C.2.1 hd) h1, r⟩
theorem retI0 {T : State} {locs : List Loc} {k n : Nat} (X : Stand p l e R s m args below meth c T locs k n) (hx : p.tables.exec = Jvm.exec) {pc : Nat} {Ls : Array Slot} {z : Int32} {rest : List Value} (hret : meth.sig.returnType = some .int) (hd : decode c.code pc = .ok (.ireturn, 1)) {fs : List Frame}
    (hl : ∀ (f : JFrame) (acts : List Action), f.method = m → f.locked = none → f.entered = [] → (doReturn e (T.setTop f) acts (some (.int z))).1 = T.setFrames fs) : Steps p.tables e below (T.setTop (mkF m pc Ls (.int z :: rest))) (T.setFrames fs) :=
  retOut X hx hret rfl (Or.inl ⟨rfl, Or.inl rfl, z, rfl⟩) hd hl
theorem r_ireturn {z : Int32} {P : Option Value → Heap → Prop} (C : Cx p c meth bytes maxL (some .int) nm) (hd : decode bytes pc = .ok (.ireturn, 1)) (hP : P (some (.int z)) h) (hc : cells ≤ R.cells) (hs : slots ≤ R.slots) : Run p l e R s m args below meth c Z own (plainV s) n0 (Gq s n0 R P) h cells slots pc ls (.int z :: st) := by
  intro vm0 k0 T L X hV hk hZ ho N eT
  cases (show vm0 = s.vm from hV)
  have X' : Stand p l e R s m args below meth c T L cells slots := X
  obtain ⟨fs, hr, hrun, hended, hW, hsame⟩ := X'.leave (v := (some (.int z))) (fun h => by first | rfl | (rw [C.2.2.2.1] at h; cases h)) C.2.2.2.2.1
  exact ⟨_, _, retI0 X' C.1 C.2.2.2.1 (hb C.2.1 hd) hr, hrun, hended, _, _, rfl, ⟨by show P _ T.heap; rw [eT]; exact hP, N⟩, ⟨_, rfl⟩, hW, hsame.mono hc hs⟩
theorem r_ireturnN {z : Int32} {t : FieldType} (ht : t = .boolean ∨ t = .byte ∨ t = .char ∨ t = .short) {P : Option Value → Heap → Prop} (C : Cx p c meth bytes maxL (some t) nm) (hd : decode bytes pc = .ok (.ireturn, 1)) (hP : P (some (.int (nar t z))) h) (hc : cells ≤ R.cells) (hs : slots ≤ R.slots) : Run p l e R s m args below meth c Z own (plainV s) n0 (Gq s n0 R P) h cells slots pc ls (.int z :: st) := by
  intro vm0 k0 T L X hV hk hZ ho N eT
  cases (show vm0 = s.vm from hV)
  have X' : Stand p l e R s m args below meth c T L cells slots := X
  obtain ⟨fs, hr, hrun, hended, hW, hsame⟩ := X'.leave (v := (some (.int (nar t z)))) (fun h => by first | rfl | (rw [C.2.2.2.1] at h; cases h)) C.2.2.2.2.1
  exact ⟨_, _, retN X' C.1 C.2.2.2.1 ht (hb C.2.1 hd) hr, hrun, hended, _, _, rfl, ⟨by show P _ T.heap; rw [eT]; exact hP, N⟩, ⟨_, rfl⟩, hW, hsame.mono hc hs⟩
theorem r_lreturn {z : Int64} {P : Option Value → Heap → Prop} (C : Cx p c meth bytes maxL (some .long) nm) (hd : decode bytes pc = .ok (.lreturn, 1)) (hP : P (some (.long z)) h) (hc : cells ≤ R.cells) (hs : slots ≤ R.slots) : Run p l e R s m args below meth c Z own (plainV s) n0 (Gq s n0 R P) h cells slots pc ls (.long z :: st) := by
  intro vm0 k0 T L X hV hk hZ ho N eT
  cases (show vm0 = s.vm from hV)
  have X' : Stand p l e R s m args below meth c T L cells slots := X
  obtain ⟨fs, hr, hrun, hended, hW, hsame⟩ := X'.leave (v := (some (.long z))) (fun h => by first | rfl | (rw [C.2.2.2.1] at h; cases h)) C.2.2.2.2.1
  exact ⟨_, _, retOut X' C.1 C.2.2.2.1 rfl (Or.inr (Or.inl ⟨rfl, rfl, z, rfl⟩)) (hb C.2.1 hd) hr, hrun, hended, _, _, rfl, ⟨by show P _ T.heap; rw [eT]; exact hP, N⟩, ⟨_, rfl⟩, hW, hsame.mono hc hs⟩
theorem r_areturn {a : Addr} {t : FieldType} (ht : t.isReference = true) (hn : narrow t (.ref a) = .ref a) {P : Option Value → Heap → Prop} (C : Cx p c meth bytes maxL (some t) nm) (hd : decode bytes pc = .ok (.areturn, 1)) (hP : P (some (.ref a)) h) (hc : cells ≤ R.cells) (hs : slots ≤ R.slots) : Run p l e R s m args below meth c Z own (plainV s) n0 (Gq s n0 R P) h cells slots pc ls (.ref a :: st) := by
  intro vm0 k0 T L X hV hk hZ ho N eT
  cases (show vm0 = s.vm from hV)
  have X' : Stand p l e R s m args below meth c T L cells slots := X
  obtain ⟨fs, hr, hrun, hended, hW, hsame⟩ := X'.leave (v := (some (.ref a))) (fun h => by first | rfl | (rw [C.2.2.2.1] at h; cases h)) C.2.2.2.2.1
  exact ⟨_, _, retOut X' C.1 C.2.2.2.1 hn (Or.inr (Or.inr (Or.inr (Or.inr ⟨rfl, ht, rfl⟩)))) (hb C.2.1 hd) hr, hrun, hended, _, _, rfl, ⟨by show P _ T.heap; rw [eT]; exact hP, N⟩, ⟨_, rfl⟩, hW, hsame.mono hc hs⟩
theorem r_return0  {P : Option Value → Heap → Prop} (C : Cx p c meth bytes maxL none nm) (hd : decode bytes pc = .ok (.return_, 1)) (hP : P none h) (hc : cells ≤ R.cells) (hs : slots ≤ R.slots) : Run p l e R s m args below meth c Z own (plainV s) n0 (Gq s n0 R P) h cells slots pc ls [] := by
  intro vm0 k0 T L X hV hk hZ ho N eT
  cases (show vm0 = s.vm from hV)
  have X' : Stand p l e R s m args below meth c T L cells slots := X
  obtain ⟨fs, hr, hrun, hended, hW, hsame⟩ := X'.leave (v := none) (fun h => by first | rfl | (rw [C.2.2.2.1] at h; cases h)) C.2.2.2.2.1
  exact ⟨_, _, X'.returnOut C.1 C.2.2.2.1 (hb C.2.1 hd) hr, hrun, hended, _, _, rfl, ⟨by show P _ T.heap; rw [eT]; exact hP, N⟩, ⟨_, rfl⟩, hW, hsame.mono hc hs⟩
theorem r_callS {y : MethodName} {bytes' : ByteArray} {maxL' : Nat} {ret' : Option FieldType} {rm : Room} {as : List Value} {P : Option Value → Heap → Prop} {index W : Nat} {ps : List FieldType} {r0 : Option FieldType} (C : Cx p c meth bytes maxL ret nm)
    (w1 : (Jvm.Cond.methodLink own index y).before a0 Z = true) (w2 : (Jvm.Cond.static y).before a0 Z = true) (w3 : (Jvm.Cond.initialized y.cls).before a0 Z = true) (w4 : (Jvm.Cond.code y bytes' maxL' ret').before a0 Z = true)
    (hy : y.cls ≠ "java/lang/invoke/MethodHandle" ∧ y.cls ≠ "java/lang/invoke/VarHandle") (hpd : parseMethodDescriptor y.desc = some ⟨ps, r0⟩) (hlen : as.length = ps.length) (hstk : st' = as.reverse ++ st) (hd : decode bytes pc = .ok (.invokestatic index, 3)) (hp : pc + 3 = pc')
    (hsz : ls.size = maxL) (hW : (st.map fun v => v.category).sum ≤ W) (K : Con l Z y bytes' maxL' ret' rm as.toArray h n0 P) (hf : rm.frames + 1 ≤ R.frames) (hl : W + (maxL' + 11) + rm.locals ≤ R.locals) (hc : cells + rm.cells ≤ R.cells) (hs : slots + rm.slots ≤ R.slots)
    (k : ∀ v h', P v h' → Run p l e R s m args below meth c Z own V n0 G h' (cells + rm.cells) (slots + rm.slots) pc' ls (v.toList ++ st)) : Run p l e R s m args below meth c Z own V n0 G h cells slots pc ls st' := by
  subst hp hstk
  intro vm0 k0 T L X hV hk hZ ho N eT
  have hZ' : Z.Warmed39 (s.setVm vm0).vm := hZ
  obtain ⟨v, vm₁, B, hw, X', ⟨L', hQ, e1, e2, e3⟩, stp⟩ := Jvm.LawKit.callS X C.1 (y := y) (own := own) ho (mvT hZ' w1) (mvT hZ' w2) (mvT hZ' w3) (mvT hZ' w4) hy
    (backOf (W := W) (Q := fun v h' L => P v h' ∧ Fr n0 L) (K []) hZ' w4 w3 hf hl) (g := mkF m pc ls (as.reverse ++ st)) rfl (by rw [C.2.2.1]; exact hsz) (argsL := as) (rest := st) (lenOf hpd hlen) rfl (by simpa using hW) (hb C.2.1 hd) (fun _ _ => ⟨rfl, eT, hc, hs⟩)
  obtain ⟨hP, N'⟩ := hQ
  obtain ⟨U, L2, ce2, sl2⟩ := B
  dsimp only [Pt.U, Pt.locs, Pt.cells, Pt.slots] at X' e1 e2 e3 stp hP
  subst e1 e2 e3
  have hle := (stp _ (Steps.refl _)).heap_le
  have hle' : h.size ≤ U.heap.size := by rw [← eT]; exact hle
  obtain ⟨U', o, h1, r⟩ := k v _ hP vm0 k0 U _ X' hV (Nat.le_trans hk hle') hZ ho (Fr.app N N') rfl
  exact ⟨U', o, stp _ h1, r⟩
/-- a constructor (or any '<init>') -/
theorem r_callI {y : MethodName} {bytes' : ByteArray} {maxL' : Nat} {rm : Room} {a : Addr} {as : List Value} {P : Option Value → Heap → Prop} {index W : Nat} {ps : List FieldType} {r0 : Option FieldType} (C : Cx p c meth bytes maxL ret nm) (hy1 : y.name = "<init>")
    (w1 : (Jvm.Cond.methodLink own index y).before a0 Z = true) (w2 : (Jvm.Cond.instanceMethod y).before a0 Z = true) (w3 : (Jvm.Cond.initialized y.cls).before a0 Z = true) (w4 : (Jvm.Cond.code y bytes' maxL' none).before a0 Z = true)
    (hy : y.cls ≠ "java/lang/invoke/MethodHandle" ∧ y.cls ≠ "java/lang/invoke/VarHandle") (hpd : parseMethodDescriptor y.desc = some ⟨ps, r0⟩) (hlen : as.length = ps.length) (hstk : st' = as.reverse ++ .ref a :: st) (hd : decode bytes pc = .ok (.invokespecial index, 3)) (hp : pc + 3 = pc')
    (hsz : ls.size = maxL) (hW : (st.map fun v => v.category).sum ≤ W) (K : Con l Z y bytes' maxL' none rm (.ref a :: as).toArray h n0 P) (hf : rm.frames + 1 ≤ R.frames) (hl : W + (maxL' + 11) + rm.locals ≤ R.locals) (hc : cells + rm.cells ≤ R.cells) (hs : slots + rm.slots ≤ R.slots)
    (k : ∀ v h', P v h' → Run p l e R s m args below meth c Z own V n0 G h' (cells + rm.cells) (slots + rm.slots) pc' ls (v.toList ++ st)) : Run p l e R s m args below meth c Z own V n0 G h cells slots pc ls st' := by
  subst hp hstk
  intro vm0 k0 T L X hV hk hZ ho N eT
  have hZ' : Z.Warmed39 (s.setVm vm0).vm := hZ
  obtain ⟨v, vm₁, B, hw, X', ⟨L', hQ, e1, e2, e3⟩, stp⟩ := X.specialBack C.1 (y := y) hy1 (own := own) ho (mvT hZ' w1) (mvT hZ' w2) (mvT hZ' w4) hy
    (backOf (W := W) (Q := fun v h' L => P v h' ∧ Fr n0 L) (K []) hZ' w4 w3 hf hl) (g := mkF m pc ls (as.reverse ++ .ref a :: st)) rfl (by rw [C.2.2.1]; exact hsz) (Steps.refl _) (a := a) (argsL := as) (rest := st) (lenOf hpd hlen) rfl (by simpa using hW) (hb C.2.1 hd) (fun _ _ => ⟨rfl, eT, hc, hs⟩)
  obtain ⟨hP, N'⟩ := hQ
  obtain ⟨U, L2, ce2, sl2⟩ := B
  dsimp only [Pt.U, Pt.locs, Pt.cells, Pt.slots] at X' e1 e2 e3 stp hP
  subst e1 e2 e3
  have hle := stp.heap_le
  have hle' : h.size ≤ U.heap.size := by rw [← eT]; exact hle
  obtain ⟨U', o, h1, r⟩ := k v _ hP vm0 k0 U _ X' hV (Nat.le_trans hk hle') hZ ho (Fr.app N N') rfl
  exact ⟨U', o, stp.trans h1, r⟩
/-- an instance method of an object whose class is known exactly -/
theorem r_callV {y z : MethodName} {K0 K1 : String} {bytes' : ByteArray} {maxL' : Nat} {ret' : Option FieldType} {rm : Room} {a : Addr} {as : List Value} {P : Option Value → Heap → Prop} {index W : Nat} {ps : List FieldType} {r0 : Option FieldType} (C : Cx p c meth bytes maxL ret nm)
    (w1 : (Jvm.Cond.methodLink own index y).before a0 Z = true) (w2 : (Jvm.Cond.declares y).before a0 Z = true) (w5 : (Jvm.Cond.selects K1 y y).before a0 Z = true) (w6 : (Jvm.Cond.selects K0 y z).before a0 Z = true) (w7 : (Jvm.Cond.instanceMethod z).before a0 Z = true) (w3 : (Jvm.Cond.initialized z.cls).before a0 Z = true) (w4 : (Jvm.Cond.code z bytes' maxL' ret').before a0 Z = true)
    (hy : y.cls ≠ "java/lang/invoke/MethodHandle" ∧ y.cls ≠ "java/lang/invoke/VarHandle") (hpd : parseMethodDescriptor y.desc = some ⟨ps, r0⟩) (hlen : as.length = ps.length) (hstk : st' = as.reverse ++ .ref a :: st) (hd : decode bytes pc = .ok (.invokevirtual index, 3)) (hp : pc + 3 = pc')
    (hsz : ls.size = maxL) (hW : (st.map fun v => v.category).sum ≤ W) (E : Exa Z h a K0) (K : Con l Z z bytes' maxL' ret' rm (.ref a :: as).toArray h n0 P) (hf : rm.frames + 1 ≤ R.frames) (hl : W + (maxL' + 11) + rm.locals ≤ R.locals) (hc : cells + rm.cells ≤ R.cells) (hs : slots + rm.slots ≤ R.slots)
    (k : ∀ v h', P v h' → Run p l e R s m args below meth c Z own V n0 G h' (cells + rm.cells) (slots + rm.slots) pc' ls (v.toList ++ st)) : Run p l e R s m args below meth c Z own V n0 G h cells slots pc ls st' := by
  subst hp hstk
  intro vm0 k0 T L X hV hk hZ ho N eT
  have hZ' : Z.Warmed39 (s.setVm vm0).vm := hZ
  obtain ⟨cq, kq, qa, qb, qc⟩ := isOf hZ' eT E
  have nf : NotFace (s.setVm vm0) y := notFace_of_selects (args := #[]) (mvT hZ' w5)
  obtain ⟨v, vm₁, B, hw, X', ⟨L', hQ, e1, e2, e3⟩, stp⟩ := X.virtualBack C.1 (y := y) (z := z) (own := own) ho (mvT hZ' w1) (mvT hZ' w2) nf (mvT hZ' w6) (mvT hZ' w7) hy
    (backOf (W := W) (Q := fun v h' L => P v h' ∧ Fr n0 L) (K []) hZ' w4 w3 hf hl) qa qc (g := mkF m pc ls (as.reverse ++ .ref a :: st)) rfl (by rw [C.2.2.1]; exact hsz) (Steps.refl _) (argsL := as) (rest := st) (lenOf hpd hlen) rfl (by simpa using hW) (hb C.2.1 hd) (fun _ _ => ⟨rfl, eT, hc, hs⟩)
  obtain ⟨hP, N'⟩ := hQ
  obtain ⟨U, L2, ce2, sl2⟩ := B
  dsimp only [Pt.U, Pt.locs, Pt.cells, Pt.slots] at X' e1 e2 e3 stp hP
  subst e1 e2 e3
  have hle := stp.heap_le
  have hle' : h.size ≤ U.heap.size := by rw [← eT]; exact hle
  obtain ⟨U', o, h1, r⟩ := k v _ hP vm0 k0 U _ X' hV (Nat.le_trans hk hle') hZ ho (Fr.app N N') rfl
  exact ⟨U', o, stp.trans h1, r⟩
theorem r_new {K0 : String} {index n : Nat} (C : Cx p c meth bytes maxL ret nm) (w1 : (Jvm.Cond.classLink own index K0).before a0 Z = true) (w2 : (Jvm.Cond.instantiable K0 n).before a0 Z = true) (w3 : (Jvm.Cond.initialized K0).before a0 Z = true) (hd : decode bytes pc = .ok (.new index, 3)) (hp : pc + 3 = pc') (hc : cells + 1 ≤ R.cells) (hs : slots + n ≤ R.slots)
    (k : ∀ (a : Addr) h', @Eq Nat a h.size → Keep h h' [] → Exa Z h' a K0 → (∀ {O nm d : String} {ty : FieldType}, Laid Z a0 K0 O nm d → parseFieldDescriptor d = some ty → Fld Z h' a O nm d (defaultValue ty)) → Run p l e R s m args below meth c Z own V n0 G h' (cells + 1) (slots + n) pc' ls (.ref a :: st)) : Run p l e R s m args below meth c Z own V n0 G h cells slots pc ls st := by
  subst hp
  intro vm0 k0 T L X hV hk hZ ho N eT
  have hZ' : Z.Warmed39 (s.setVm vm0).vm := hZ
  obtain ⟨T2, h2, X2, e2, E2, A2, D2, -, st2⟩ := newO X C.1 hZ' (own := own) ho w1 w2 w3 eT (g := mkF m pc ls st) rfl (hb C.2.1 hd) hc hs
  obtain ⟨U, o, h1, r⟩ := k _ h2 rfl ((Keep.refl h []).ext E2) A2 D2 vm0 k0 T2 L X2 hV (Nat.le_trans hk E2.1) hZ ho N e2
  exact ⟨U, o, st2 _ h1, r⟩
theorem r_getfield {R0 O n d : String} {host : String} {index : Nat} {a : Addr} {v : Value} (C : Cx p c meth bytes maxL ret nm) (w1 : (Jvm.Cond.fieldLink own index R0 n d).before a0 Z = true ∨ (Jvm.Cond.fieldLinkNest own index R0 n d host).before a0 Z = true) (via : Via Z R0 O n d) (hd : decode bytes pc = .ok (.getfield index, 3)) (hp : pc + 3 = pc') (F : Fld Z h a O n d v)
    (k : Run p l e R s m args below meth c Z own V n0 G h cells slots pc' ls (v :: st)) : Run p l e R s m args below meth c Z own V n0 G h cells slots pc ls (.ref a :: st) := by
  subst hp
  intro vm0 k0 T L X hV hk hZ ho N eT
  have hZ' : Z.Warmed39 (s.setVm vm0).vm := hZ
  obtain ⟨T2, X2, e2, st2⟩ := getF X C.1 hZ' (own := own) ho w1 via eT F (g := mkF m pc ls (.ref a :: st)) rfl rfl (hb C.2.1 hd)
  obtain ⟨U, o, h1, r⟩ := k vm0 k0 T2 L X2 hV hk hZ ho N e2
  exact ⟨U, o, st2 _ h1, r⟩
theorem r_putfield {R0 O n d K0 : String} {host : String} {index kk : Nat} {ty : FieldType} {a : Addr} {v old : Value} (C : Cx p c meth bytes maxL ret nm) (w1 : (Jvm.Cond.fieldLink own index R0 n d).before a0 Z = true ∨ (Jvm.Cond.fieldLinkNest own index R0 n d host).before a0 Z = true) (via : Via Z R0 O n d) (hL : (Jvm.Cond.lays K0 O n d).before a0 Z = true ∨ ((Jvm.Cond.laysFinal K0 O n d).before a0 Z = true ∧ own = O ∧ nm = "<init>")) (w2 : (Jvm.Cond.instantiable K0 kk).before a0 Z = true) (hty : parseFieldDescriptor d = some ty)
    (hd : decode bytes pc = .ok (.putfield index, 3)) (hp : pc + 3 = pc') (hn : narrow ty v = v) (hfi : fits ty v = true) (hge : n0 ≤ a) (F : Fld Z h a O n d old) (E : Exa Z h a K0)
    (k : ∀ h', Keep h h' [a] → Exa Z h' a K0 → Fld Z h' a O n d v → (∀ {O' n' d' : String} {w : Value} {t' : FieldType}, Laid Z a0 K0 O' n' d' → Laid Z a0 K0 O n d → n' ≠ n → parseFieldDescriptor d' = some t' → Fld Z h a O' n' d' w → Fld Z h' a O' n' d' w) → Run p l e R s m args below meth c Z own V n0 G h' cells slots pc' ls st) : Run p l e R s m args below meth c Z own V n0 G h cells slots pc ls (v :: .ref a :: st) := by
  subst hp
  intro vm0 k0 T L X hV hk hZ ho N eT
  have hZ' : Z.Warmed39 (s.setVm vm0).vm := hZ
  obtain ⟨T2, h2, X2, e2, W2, st2⟩ := putF X C.1 hZ' (own := own) ho w1 via eT F E (hL.imp id fun q => ⟨q.1, q.2.1, C.2.2.2.2.2.trans q.2.2⟩) w2 hty hn hfi (g := mkF m pc ls (v :: .ref a :: st)) rfl rfl (hb C.2.1 hd)
  obtain ⟨U, o, h1, r⟩ := k h2 (Keep.of_wr W2) (E.wr W2) (F.same W2) (fun L1 L2 hne ht F' => F'.other W2 (Or.inr (slot_ne L1 L2 hne ht hty))) vm0 k0 T2 _ X2 hV (by rw [W2.size]; exact hk) hZ ho (Fr.snoc X2 N hge) e2
  exact ⟨U, o, st2 _ h1, r⟩
theorem r_putfieldN {R0 O n d K0 : String} {index kk : Nat} {ty : FieldType} {a : Addr} {v v' old : Value} (C : Cx p c meth bytes maxL ret nm) (w1 : (Jvm.Cond.fieldLink own index R0 n d).before a0 Z = true) (via : Via Z R0 O n d) (hL : (Jvm.Cond.lays K0 O n d).before a0 Z = true ∨ ((Jvm.Cond.laysFinal K0 O n d).before a0 Z = true ∧ own = O ∧ nm = "<init>")) (w2 : (Jvm.Cond.instantiable K0 kk).before a0 Z = true) (hty : parseFieldDescriptor d = some ty)
    (hd : decode bytes pc = .ok (.putfield index, 3)) (hp : pc + 3 = pc') (hn : narrow ty v = v') (hfi : fits ty v' = true) (hge : n0 ≤ a) (F : Fld Z h a O n d old) (E : Exa Z h a K0)
    (k : ∀ h', Keep h h' [a] → Exa Z h' a K0 → Fld Z h' a O n d v' → (∀ {O' n' d' : String} {w : Value} {t' : FieldType}, Laid Z a0 K0 O' n' d' → Laid Z a0 K0 O n d → n' ≠ n → parseFieldDescriptor d' = some t' → Fld Z h a O' n' d' w → Fld Z h' a O' n' d' w) → Run p l e R s m args below meth c Z own V n0 G h' cells slots pc' ls st) : Run p l e R s m args below meth c Z own V n0 G h cells slots pc ls (v :: .ref a :: st) := by
  subst hp
  intro vm0 k0 T L X hV hk hZ ho N eT
  have hZ' : Z.Warmed39 (s.setVm vm0).vm := hZ
  obtain ⟨T2, h2, X2, e2, W2, st2⟩ := putFN X C.1 hZ' (own := own) ho w1 via eT F E (hL.imp id fun q => ⟨q.1, q.2.1, C.2.2.2.2.2.trans q.2.2⟩) w2 hty hn hfi (g := mkF m pc ls (v :: .ref a :: st)) rfl rfl (hb C.2.1 hd)
  obtain ⟨U, o, h1, r⟩ := k h2 (Keep.of_wr W2) (E.wr W2) (F.same W2) (fun L1 L2 hne ht F' => F'.other W2 (Or.inr (slot_ne L1 L2 hne ht hty))) vm0 k0 T2 _ X2 hV (by rw [W2.size]; exact hk) hZ ho (Fr.snoc X2 N hge) e2
  exact ⟨U, o, st2 _ h1, r⟩
theorem r_initO {index W : Nat} {a : Addr} (C : Cx p c meth bytes maxL ret nm) (w1 : (Jvm.Cond.methodLink own index Lib.objectInit).before a0 Z = true) (w2 : (Jvm.Cond.instanceMethod Lib.objectInit).before a0 Z = true) (w3 : (Jvm.Cond.code Lib.objectInit ⟨#[0xb1]⟩ 1 none).before a0 Z = true) (hd : decode bytes pc = .ok (.invokespecial index, 3)) (hp : pc + 3 = pc') (hsz : ls.size = maxL)
    (hf : 1 ≤ R.frames) (hW : (st.map fun v => v.category).sum ≤ W) (hl : W + 12 ≤ R.locals) (k : Run p l e R s m args below meth c Z own V n0 G h cells slots pc' ls st) : Run p l e R s m args below meth c Z own V n0 G h cells slots pc ls (.ref a :: st) := by
  subst hp
  intro vm0 k0 T L X hV hk hZ ho N eT
  have hZ' : Z.Warmed39 (s.setVm vm0).vm := hZ
  obtain ⟨T2, X2, e2, st2⟩ := initO X C.1 hZ' (own := own) ho w1 w2 w3 eT (g := mkF m pc ls (.ref a :: st)) rfl (by rw [C.2.2.1]; exact hsz) rfl (hb C.2.1 hd) hf (W := W) (by simpa using hW) hl
  obtain ⟨U, o, h1, r⟩ := k vm0 k0 T2 L X2 hV hk hZ ho N e2
  exact ⟨U, o, st2 _ h1, r⟩
theorem r_getstatic {R0 O n d host : String} {index : Nat} {v : Value} (C : Cx p c meth bytes maxL ret nm) (w1 : (Jvm.Cond.fieldLink own index R0 n d).before a0 Z = true) (via : Via Z R0 O n d) (hd : decode bytes pc = .ok (.getstatic index, 3)) (hp : pc + 3 = pc') (F : Sta Z h O n d v) (k : Run p l e R s m args below meth c Z own V n0 G h cells slots pc' ls (v :: st)) : Run p l e R s m args below meth c Z own V n0 G h cells slots pc ls st := by
  subst hp
  intro vm0 k0 T L X hV hk hZ ho N eT
  have hZ' : Z.Warmed39 (s.setVm vm0).vm := hZ
  obtain ⟨T2, X2, e2, st2⟩ := getS2 X C.1 hZ' (own := own) ho (host := "") (Or.inl w1) via eT F (g := mkF m pc ls st) rfl (hb C.2.1 hd)
  obtain ⟨U, o, h1, r⟩ := k vm0 k0 T2 L X2 hV hk hZ ho N e2
  exact ⟨U, o, st2 _ h1, r⟩
/-- the array at a: n places of kind ty, place j holds f j -/
def IA (Z : State) (h : Heap) (a : Addr) (ty : FieldType) (n : Nat) (f : Nat → Value) : Prop := ∃ cl : Cell, Arr Z h a cl ty ∧ cl.slots.size = n ∧ n < 2 ^ 31 ∧ ∀ j, j < n → cl.slots[j]? = some (f j)
theorem IA.lt {a : Addr} {ty : FieldType} {n : Nat} {f : Nat → Value} (A : IA Z h a ty n f) : a < h.size := by obtain ⟨cl, A, -⟩ := A; exact A.lt
theorem IA.keep {h' : Heap} {ws : List Addr} {a : Addr} {ty : FieldType} {n : Nat} {f : Nat → Value} (A : IA Z h a ty n f) (K : Keep h h' ws) (q : a ∉ ws) : IA Z h' a ty n f := by
  obtain ⟨cl, A, r⟩ := A
  exact ⟨cl, ⟨K.2.1 a cl A.1 q, A.2⟩, r⟩
theorem IA.congr {a : Addr} {ty : FieldType} {n : Nat} {f g : Nat → Value} (A : IA Z h a ty n f) (q : ∀ j, j < n → f j = g j) : IA Z h a ty n g := by
  obtain ⟨cl, A, r1, r2, r3⟩ := A
  exact ⟨cl, A, r1, r2, fun j hj => by rw [r3 j hj, q j hj]⟩
theorem tnn {j : Int32} {n : Nat} (h : j.toInt = (n : Int)) : ¬ j < 0 ∧ j.toNatClampNeg = n := by
  have h0 : ¬ j < 0 := nlt32.mpr (by rw [h]; show (0 : Int) ≤ _; omega)
  exact ⟨h0, by have := nat_of h0; omega⟩
theorem IA.set {h' : Heap} {a : Addr} {ty : FieldType} {n k : Nat} {f : Nat → Value} {v : Value} (A : IA Z h a ty n f) (W : Wr h h' a k v) : IA Z h' a ty n (fun j => if j = k then v else f j) := by
  obtain ⟨cl, A, r1, r2, r3⟩ := A
  refine ⟨cl.setSlot k v, A.same W, by rw [sz_set, r1], r2, fun j hj => ?_⟩
  show (cl.slots.setIfInBounds k v)[j]? = _
  rw [Array.getElem?_setIfInBounds]
  by_cases q : k = j
  · subst q; simp [r1, hj]
  · rw [if_neg q, r3 j hj]
    show some (f j) = some (if j = k then v else f j)
    rw [if_neg (fun z => q (Eq.symm z))]
theorem r_iaload {a : Addr} {n jn : Nat} {f : Nat → Int32} {j : Int32} {x : Int32} (C : Cx p c meth bytes maxL ret nm) (hd : decode bytes pc = .ok (.iaload, 1)) (hp : pc + 1 = pc') (A : IA Z h a .int n (fun i => .int (f i))) (hj : j.toInt = (jn : Int)) (hlt : jn < n) (hv : f jn = x) (k : Run p l e R s m args below meth c Z own V n0 G h cells slots pc' ls (.int x :: st)) : Run p l e R s m args below meth c Z own V n0 G h cells slots pc ls (.int j :: .ref a :: st) := by
  subst hp
  intro vm0 k0 T L X hV hk hZ ho N eT
  have hZ' : Z.Warmed39 (s.setVm vm0).vm := hZ
  obtain ⟨cl, A, r1, r2, r3⟩ := A
  obtain ⟨t1, t2⟩ := tnn hj
  obtain ⟨U, o, h1, r⟩ := k vm0 k0 T L X hV hk hZ ho N eT
  exact ⟨U, o, X.iaload C.1 (j := j) (v := .int x) (by rw [eT]; exact A.1) (State.isArrayOf_alike hZ'.alike A.2.1) A.2.2 (by rw [r1, t2]; exact fun q => q.elim t1 (Nat.not_le.mpr hlt)) (by rw [t2, r3 jn hlt, ← hv]) (g := mkF m pc ls (.int j :: .ref a :: st)) rfl rfl (hb C.2.1 hd) _ h1, r⟩
theorem r_laload {a : Addr} {n jn : Nat} {f : Nat → Int64} {j : Int32} {x : Int64} (C : Cx p c meth bytes maxL ret nm) (hd : decode bytes pc = .ok (.laload, 1)) (hp : pc + 1 = pc') (A : IA Z h a .long n (fun i => .long (f i))) (hj : j.toInt = (jn : Int)) (hlt : jn < n) (hv : f jn = x) (k : Run p l e R s m args below meth c Z own V n0 G h cells slots pc' ls (.long x :: st)) : Run p l e R s m args below meth c Z own V n0 G h cells slots pc ls (.int j :: .ref a :: st) := by
  subst hp
  intro vm0 k0 T L X hV hk hZ ho N eT
  have hZ' : Z.Warmed39 (s.setVm vm0).vm := hZ
  obtain ⟨cl, A, r1, r2, r3⟩ := A
  obtain ⟨t1, t2⟩ := tnn hj
  obtain ⟨U, o, h1, r⟩ := k vm0 k0 T L X hV hk hZ ho N eT
  exact ⟨U, o, X.laload C.1 (j := j) (v := .long x) (by rw [eT]; exact A.1) (State.isArrayOf_alike hZ'.alike A.2.1) A.2.2 (by rw [r1, t2]; exact fun q => q.elim t1 (Nat.not_le.mpr hlt)) (by rw [t2, r3 jn hlt, ← hv]) (g := mkF m pc ls (.int j :: .ref a :: st)) rfl rfl (hb C.2.1 hd) _ h1, r⟩
theorem r_caload {a : Addr} {n jn : Nat} {f : Nat → Int32} {j : Int32} {x : Int32} (C : Cx p c meth bytes maxL ret nm) (hd : decode bytes pc = .ok (.caload, 1)) (hp : pc + 1 = pc') (A : IA Z h a .char n (fun i => .int (f i))) (hj : j.toInt = (jn : Int)) (hlt : jn < n) (hv : f jn = x) (k : Run p l e R s m args below meth c Z own V n0 G h cells slots pc' ls (.int x :: st)) : Run p l e R s m args below meth c Z own V n0 G h cells slots pc ls (.int j :: .ref a :: st) := by
  subst hp
  intro vm0 k0 T L X hV hk hZ ho N eT
  have hZ' : Z.Warmed39 (s.setVm vm0).vm := hZ
  obtain ⟨cl, A, r1, r2, r3⟩ := A
  obtain ⟨t1, t2⟩ := tnn hj
  obtain ⟨U, o, h1, r⟩ := k vm0 k0 T L X hV hk hZ ho N eT
  exact ⟨U, o, X.caload C.1 (j := j) (v := .int x) (by rw [eT]; exact A.1) (State.isArrayOf_alike hZ'.alike A.2.1) A.2.2 (by rw [r1, t2]; exact fun q => q.elim t1 (Nat.not_le.mpr hlt)) (by rw [t2, r3 jn hlt, ← hv]) (g := mkF m pc ls (.int j :: .ref a :: st)) rfl rfl (hb C.2.1 hd) _ h1, r⟩
theorem r_baload {a : Addr} {n jn : Nat} {f : Nat → Int32} {j : Int32} {x : Int32} (C : Cx p c meth bytes maxL ret nm) (hd : decode bytes pc = .ok (.baload, 1)) (hp : pc + 1 = pc') (A : IA Z h a .byte n (fun i => .int (f i))) (hj : j.toInt = (jn : Int)) (hlt : jn < n) (hv : f jn = x) (k : Run p l e R s m args below meth c Z own V n0 G h cells slots pc' ls (.int x :: st)) : Run p l e R s m args below meth c Z own V n0 G h cells slots pc ls (.int j :: .ref a :: st) := by
  subst hp
  intro vm0 k0 T L X hV hk hZ ho N eT
  have hZ' : Z.Warmed39 (s.setVm vm0).vm := hZ
  obtain ⟨cl, A, r1, r2, r3⟩ := A
  obtain ⟨t1, t2⟩ := tnn hj
  obtain ⟨U, o, h1, r⟩ := k vm0 k0 T L X hV hk hZ ho N eT
  exact ⟨U, o, X.baloadBytes C.1 (j := j) (v := .int x) (by rw [eT]; exact A.1) (State.isArrayOf_alike hZ'.alike A.2.1) A.2.2 (by rw [r1, t2]; exact fun q => q.elim t1 (Nat.not_le.mpr hlt)) (by rw [t2, r3 jn hlt, ← hv]) (g := mkF m pc ls (.int j :: .ref a :: st)) rfl rfl (hb C.2.1 hd) _ h1, r⟩
theorem r_zaload {a : Addr} {n jn : Nat} {f : Nat → Int32} {j : Int32} {x : Int32} (C : Cx p c meth bytes maxL ret nm) (hd : decode bytes pc = .ok (.baload, 1)) (hp : pc + 1 = pc') (A : IA Z h a .boolean n (fun i => .int (f i))) (hj : j.toInt = (jn : Int)) (hlt : jn < n) (hv : f jn = x) (k : Run p l e R s m args below meth c Z own V n0 G h cells slots pc' ls (.int x :: st)) : Run p l e R s m args below meth c Z own V n0 G h cells slots pc ls (.int j :: .ref a :: st) := by
  subst hp
  intro vm0 k0 T L X hV hk hZ ho N eT
  have hZ' : Z.Warmed39 (s.setVm vm0).vm := hZ
  obtain ⟨cl, A, r1, r2, r3⟩ := A
  obtain ⟨t1, t2⟩ := tnn hj
  obtain ⟨U, o, h1, r⟩ := k vm0 k0 T L X hV hk hZ ho N eT
  exact ⟨U, o, X.baloadBooleans C.1 (j := j) (v := .int x) (by rw [eT]; exact A.1) (State.isArrayOf_alike hZ'.alike A.2.1) A.2.2 (by rw [r1, t2]; exact fun q => q.elim t1 (Nat.not_le.mpr hlt)) (by rw [t2, r3 jn hlt, ← hv]) (g := mkF m pc ls (.int j :: .ref a :: st)) rfl rfl (hb C.2.1 hd) _ h1, r⟩
theorem r_iastore {a : Addr} {n jn : Nat} {f : Nat → Int32} {j : Int32} {x : Int32} (C : Cx p c meth bytes maxL ret nm) (hd : decode bytes pc = .ok (.iastore, 1)) (hp : pc + 1 = pc') (A : IA Z h a .int n (fun i => .int (f i))) (hj : j.toInt = (jn : Int)) (hlt : jn < n) (hge : n0 ≤ a) (k : ∀ h', Keep h h' [a] → IA Z h' a .int n (fun i => .int (if i = jn then x else f i)) → Run p l e R s m args below meth c Z own V n0 G h' cells slots pc' ls st) : Run p l e R s m args below meth c Z own V n0 G h cells slots pc ls (.int x :: .int j :: .ref a :: st) := by
  subst hp
  intro vm0 k0 T L X hV hk hZ ho N eT
  have hZ' : Z.Warmed39 (s.setVm vm0).vm := hZ
  have A0 := A
  obtain ⟨cl, A, r1, r2, r3⟩ := A
  obtain ⟨t1, t2⟩ := tnn hj
  obtain ⟨T2, h2, X2, e2, W2, st2⟩ := stI X C.1 hZ' eT A (j := j) (x := x) (by rw [r1, t2]; exact fun q => q.elim t1 (Nat.not_le.mpr hlt)) (g := mkF m pc ls (.int x :: .int j :: .ref a :: st)) rfl rfl (hb C.2.1 hd)
  rw [t2] at W2
  obtain ⟨U, o, h1, r⟩ := k h2 (Keep.of_wr W2) ((A0.set W2).congr fun i _ => by by_cases q : i = jn <;> simp [q]) vm0 k0 T2 _ X2 hV (by rw [W2.size]; exact hk) hZ ho (Fr.snoc X2 N hge) e2
  exact ⟨U, o, st2 _ h1, r⟩
theorem r_lastore {a : Addr} {n jn : Nat} {f : Nat → Int64} {j : Int32} {x : Int64} (C : Cx p c meth bytes maxL ret nm) (hd : decode bytes pc = .ok (.lastore, 1)) (hp : pc + 1 = pc') (A : IA Z h a .long n (fun i => .long (f i))) (hj : j.toInt = (jn : Int)) (hlt : jn < n) (hge : n0 ≤ a) (k : ∀ h', Keep h h' [a] → IA Z h' a .long n (fun i => .long (if i = jn then x else f i)) → Run p l e R s m args below meth c Z own V n0 G h' cells slots pc' ls st) : Run p l e R s m args below meth c Z own V n0 G h cells slots pc ls (.long x :: .int j :: .ref a :: st) := by
  subst hp
  intro vm0 k0 T L X hV hk hZ ho N eT
  have hZ' : Z.Warmed39 (s.setVm vm0).vm := hZ
  have A0 := A
  obtain ⟨cl, A, r1, r2, r3⟩ := A
  obtain ⟨t1, t2⟩ := tnn hj
  obtain ⟨T2, h2, X2, e2, W2, st2⟩ := stJ X C.1 hZ' eT A (j := j) (x := x) (by rw [r1, t2]; exact fun q => q.elim t1 (Nat.not_le.mpr hlt)) (g := mkF m pc ls (.long x :: .int j :: .ref a :: st)) rfl rfl (hb C.2.1 hd)
  rw [t2] at W2
  obtain ⟨U, o, h1, r⟩ := k h2 (Keep.of_wr W2) ((A0.set W2).congr fun i _ => by by_cases q : i = jn <;> simp [q]) vm0 k0 T2 _ X2 hV (by rw [W2.size]; exact hk) hZ ho (Fr.snoc X2 N hge) e2
  exact ⟨U, o, st2 _ h1, r⟩
theorem r_castore {a : Addr} {n jn : Nat} {f : Nat → Int32} {j : Int32} {x : Int32} (C : Cx p c meth bytes maxL ret nm) (hd : decode bytes pc = .ok (.castore, 1)) (hp : pc + 1 = pc') (A : IA Z h a .char n (fun i => .int (f i))) (hj : j.toInt = (jn : Int)) (hlt : jn < n) (hge : n0 ≤ a) (k : ∀ h', Keep h h' [a] → IA Z h' a .char n (fun i => .int (if i = jn then (nar .char x) else f i)) → Run p l e R s m args below meth c Z own V n0 G h' cells slots pc' ls st) : Run p l e R s m args below meth c Z own V n0 G h cells slots pc ls (.int x :: .int j :: .ref a :: st) := by
  subst hp
  intro vm0 k0 T L X hV hk hZ ho N eT
  have hZ' : Z.Warmed39 (s.setVm vm0).vm := hZ
  have A0 := A
  obtain ⟨cl, A, r1, r2, r3⟩ := A
  obtain ⟨t1, t2⟩ := tnn hj
  obtain ⟨T2, h2, X2, e2, W2, st2⟩ := stC X C.1 hZ' eT A (j := j) (x := x) (by rw [r1, t2]; exact fun q => q.elim t1 (Nat.not_le.mpr hlt)) (g := mkF m pc ls (.int x :: .int j :: .ref a :: st)) rfl rfl (hb C.2.1 hd)
  rw [t2] at W2
  obtain ⟨U, o, h1, r⟩ := k h2 (Keep.of_wr W2) ((A0.set W2).congr fun i _ => by by_cases q : i = jn <;> simp [q]) vm0 k0 T2 _ X2 hV (by rw [W2.size]; exact hk) hZ ho (Fr.snoc X2 N hge) e2
  exact ⟨U, o, st2 _ h1, r⟩
theorem r_bastore {a : Addr} {n jn : Nat} {f : Nat → Int32} {j : Int32} {x : Int32} (C : Cx p c meth bytes maxL ret nm) (hd : decode bytes pc = .ok (.bastore, 1)) (hp : pc + 1 = pc') (A : IA Z h a .byte n (fun i => .int (f i))) (hj : j.toInt = (jn : Int)) (hlt : jn < n) (hge : n0 ≤ a) (k : ∀ h', Keep h h' [a] → IA Z h' a .byte n (fun i => .int (if i = jn then (nar .byte x) else f i)) → Run p l e R s m args below meth c Z own V n0 G h' cells slots pc' ls st) : Run p l e R s m args below meth c Z own V n0 G h cells slots pc ls (.int x :: .int j :: .ref a :: st) := by
  subst hp
  intro vm0 k0 T L X hV hk hZ ho N eT
  have hZ' : Z.Warmed39 (s.setVm vm0).vm := hZ
  have A0 := A
  obtain ⟨cl, A, r1, r2, r3⟩ := A
  obtain ⟨t1, t2⟩ := tnn hj
  obtain ⟨T2, h2, X2, e2, W2, st2⟩ := stB X C.1 hZ' eT A (j := j) (x := x) (by rw [r1, t2]; exact fun q => q.elim t1 (Nat.not_le.mpr hlt)) (g := mkF m pc ls (.int x :: .int j :: .ref a :: st)) rfl rfl (hb C.2.1 hd)
  rw [t2] at W2
  obtain ⟨U, o, h1, r⟩ := k h2 (Keep.of_wr W2) ((A0.set W2).congr fun i _ => by by_cases q : i = jn <;> simp [q]) vm0 k0 T2 _ X2 hV (by rw [W2.size]; exact hk) hZ ho (Fr.snoc X2 N hge) e2
  exact ⟨U, o, st2 _ h1, r⟩
theorem r_zastore {a : Addr} {n jn : Nat} {f : Nat → Int32} {j : Int32} {x : Int32} (C : Cx p c meth bytes maxL ret nm) (hd : decode bytes pc = .ok (.bastore, 1)) (hp : pc + 1 = pc') (A : IA Z h a .boolean n (fun i => .int (f i))) (hj : j.toInt = (jn : Int)) (hlt : jn < n) (hge : n0 ≤ a) (k : ∀ h', Keep h h' [a] → IA Z h' a .boolean n (fun i => .int (if i = jn then (nar .boolean x) else f i)) → Run p l e R s m args below meth c Z own V n0 G h' cells slots pc' ls st) : Run p l e R s m args below meth c Z own V n0 G h cells slots pc ls (.int x :: .int j :: .ref a :: st) := by
  subst hp
  intro vm0 k0 T L X hV hk hZ ho N eT
  have hZ' : Z.Warmed39 (s.setVm vm0).vm := hZ
  have A0 := A
  obtain ⟨cl, A, r1, r2, r3⟩ := A
  obtain ⟨t1, t2⟩ := tnn hj
  obtain ⟨T2, h2, X2, e2, W2, st2⟩ := stZ X C.1 hZ' eT A (j := j) (x := x) (by rw [r1, t2]; exact fun q => q.elim t1 (Nat.not_le.mpr hlt)) (g := mkF m pc ls (.int x :: .int j :: .ref a :: st)) rfl rfl (hb C.2.1 hd)
  rw [t2] at W2
  obtain ⟨U, o, h1, r⟩ := k h2 (Keep.of_wr W2) ((A0.set W2).congr fun i _ => by by_cases q : i = jn <;> simp [q]) vm0 k0 T2 _ X2 hV (by rw [W2.size]; exact hk) hZ ho (Fr.snoc X2 N hge) e2
  exact ⟨U, o, st2 _ h1, r⟩
theorem r_arraylength {a : Addr} {ty : FieldType} {n : Nat} {f : Nat → Value} {z : Int32} (C : Cx p c meth bytes maxL ret nm) (hd : decode bytes pc = .ok (.arraylength, 1)) (hp : pc + 1 = pc') (A : IA Z h a ty n f) (hz : z.toInt = (n : Int)) (k : Run p l e R s m args below meth c Z own V n0 G h cells slots pc' ls (.int z :: st)) : Run p l e R s m args below meth c Z own V n0 G h cells slots pc ls (.ref a :: st) := by
  subst hp
  intro vm0 k0 T L X hV hk hZ ho N eT
  have hZ' : Z.Warmed39 (s.setVm vm0).vm := hZ
  obtain ⟨cl, A, r1, r2, r3⟩ := A
  obtain ⟨t1, t2⟩ := tnn hz
  obtain ⟨U, o, h1, r⟩ := k vm0 k0 T L X hV hk hZ ho N eT
  have q : cl.slots.size.toInt32 = z := len_of (by rw [r1, t2]) t1
  exact ⟨U, o, X.arraylength C.1 (by rw [eT]; exact A.1) (State.isArrayOf_alike hZ'.alike A.2.1) (g := mkF m pc ls (.ref a :: st)) rfl rfl (hb C.2.1 hd) _ (by rw [q]; exact h1), r⟩
theorem r_newarray {aty : ArrayType} {ty : FieldType} {dv : Value} (hdv : defaultValue ty = dv) {z : Int32} {n cap : Nat} (C : Cx p c meth bytes maxL ret nm) (w1 : (Jvm.Cond.arrayClass ty).before a0 Z = true) (hty : newarray.typeOf aty = ty) (hd : decode bytes pc = .ok (.newarray aty, 2)) (hp : pc + 2 = pc') (hz : z.toInt = (n : Int)) (hcap : n ≤ cap) (hbg : cap * 8 ≤ 536870912) (hc : cells + 1 ≤ R.cells) (hs : slots + cap ≤ R.slots)
    (k : ∀ (a : Addr) h', @Eq Nat a h.size → Keep h h' [] → IA Z h' a ty n (fun _ => dv) → Run p l e R s m args below meth c Z own V n0 G h' (cells + 1) (slots + cap) pc' ls (.ref a :: st)) : Run p l e R s m args below meth c Z own V n0 G h cells slots pc ls (.int z :: st) := by
  subst hp hty hdv
  intro vm0 k0 T L X hV hk hZ ho N eT
  have hZ' : Z.Warmed39 (s.setVm vm0).vm := hZ
  obtain ⟨t1, t2⟩ := tnn hz
  obtain ⟨T2, h2, k2, X2, e2, E2, A2, st2⟩ := newP X C.1 hZ' w1 eT (g := mkF m pc ls (.int z :: st)) rfl (hb C.2.1 hd) rfl t1 (cap := cap) (by rw [t2]; exact hcap) hbg hc hs
  obtain ⟨U, o, h1, r⟩ := k _ h2 rfl ((Keep.refl h []).ext E2) ⟨_, A2, by rw [sz_new, t2], by have := rng32 z; omega, fun j hj => by simp [newA, t2, hj]⟩ vm0 k0 T2 L X2 hV (Nat.le_trans hk E2.1) hZ ho N e2
  exact ⟨U, o, st2 _ h1, r⟩
theorem Run.mono {ce sl : Nat} (k : Run p l e R s m args below meth c Z own V n0 G h ce sl pc ls st) (h1 : cells ≤ ce) (h2 : slots ≤ sl) : Run p l e R s m args below meth c Z own V n0 G h cells slots pc ls st :=
  fun vm0 k0 T L X => k vm0 k0 T L (X.mono h1 h2)
/-- where roads join: the goal from the join on, said once -/
theorem join {α : Type} (Φ : α → Prop) (hJ : α → Heap) (ce sl pcJ : Nat) (lsJ : α → Array Slot) (stJ : α → List Value) (j : ∀ x, Φ x → Run p l e R s m args below meth c Z own V n0 G (hJ x) ce sl pcJ (lsJ x) (stJ x)) (k : (∀ x, Φ x → Run p l e R s m args below meth c Z own V n0 G (hJ x) ce sl pcJ (lsJ x) (stJ x)) → Run p l e R s m args below meth c Z own V n0 G h cells slots pc ls st) : Run p l e R s m args below meth c Z own V n0 G h cells slots pc ls st := k j
/-- a loop: by a measure -/
theorem loop {α : Type} (μ : α → Nat) (Φ : α → Prop) (hJ : α → Heap) (ce sl pcJ : Nat) (lsJ : α → Array Slot) (stJ : α → List Value)
    (body : ∀ x, Φ x → (∀ x', Φ x' → μ x' < μ x → Run p l e R s m args below meth c Z own V n0 G (hJ x') ce sl pcJ (lsJ x') (stJ x')) → Run p l e R s m args below meth c Z own V n0 G (hJ x) ce sl pcJ (lsJ x) (stJ x)) (k : (∀ x, Φ x → Run p l e R s m args below meth c Z own V n0 G (hJ x) ce sl pcJ (lsJ x) (stJ x)) → Run p l e R s m args below meth c Z own V n0 G h cells slots pc ls st) : Run p l e R s m args below meth c Z own V n0 G h cells slots pc ls st := by
  refine k ?_
  have H : ∀ n x, μ x < n → Φ x → Run p l e R s m args below meth c Z own V n0 G (hJ x) ce sl pcJ (lsJ x) (stJ x) := by
    intro n
    induction n with
    | zero => intro x hx; omega
    | succ n ih => intro x hx hp; exact body x hp fun x' hp' hlt => ih x' (by omega) hp'
  exact fun x hp => H _ x (Nat.lt_succ_self _) hp
theorem xadd64 {x y : Int64} (h1 : -4611686018427387904 ≤ x.toInt + y.toInt) (h2 : x.toInt + y.toInt ≤ 4611686018427387904) : (x + y).toInt = x.toInt + y.toInt := by
  have h3 := c_ladd x y
  have h4 := rng64 (x + y)
  omega
theorem xsub64 {x y : Int64} (h1 : -4611686018427387904 ≤ x.toInt - y.toInt) (h2 : x.toInt - y.toInt ≤ 4611686018427387904) : (x - y).toInt = x.toInt - y.toInt := by
  have h3 := c_lsub x y
  have h4 := rng64 (x - y)
  omega
theorem xmul64 {x c : Int64} {k : Int} (hc : c.toInt = k) (h1 : -4611686018427387904 ≤ x.toInt * k) (h2 : x.toInt * k ≤ 4611686018427387904) : (x * c).toInt = x.toInt * k := by
  have h3 := c_lmul x c
  rw [hc] at h3
  have h4 := rng64 (x * c)
  generalize x.toInt * k = P at *
  omega
theorem xadd32 {x y : Int32} (h1 : -2147483648 ≤ x.toInt + y.toInt) (h2 : x.toInt + y.toInt < 2147483648) : (x + y).toInt = x.toInt + y.toInt := by
  have h3 := c_iadd x y
  have h4 := rng32 (x + y)
  omega
theorem xsub32 {x y : Int32} (h1 : -2147483648 ≤ x.toInt - y.toInt) (h2 : x.toInt - y.toInt < 2147483648) : (x - y).toInt = x.toInt - y.toInt := by
  have h3 := c_isub x y
  have h4 := rng32 (x - y)
  omega
theorem xl2i {x : Int64} (h1 : -2147483648 ≤ x.toInt) (h2 : x.toInt < 2147483648) : x.toInt32.toInt = x.toInt := by
  have h3 := c_l2i x
  have h4 := rng32 x.toInt32
  omega
end Kit
section Facts
theorem t0 {Z : State} {a0 : Array Value} (hw : ∀ d ∈ tables_1, d.before a0 Z = true) : (Jvm.Cond.constant "com/example/bellsplit/bellsplit/search/ImprovedDynamicProgrammeBinomialPinLaw" (7 : Nat) (2147483647 : Int32)).before a0 Z = true := hw _ (List.mem_of_getElem? (i := 0) rfl)
theorem t1 {Z : State} {a0 : Array Value} (hw : ∀ d ∈ tables_1, d.before a0 Z = true) : (Jvm.Cond.methodLink "com/example/bellsplit/bellsplit/search/ImprovedDynamicProgrammeBinomialPinLaw" (8 : Nat) ({ cls := "com/example/bellsplit/bellsplit/search/ImprovedDynamicProgramme", name := "binomial", desc := "(II)J" } : Jvm.MethodName)).before a0 Z = true := hw _ (List.mem_of_getElem? (i := 1) rfl)
theorem t2 {Z : State} {a0 : Array Value} (hw : ∀ d ∈ tables_1, d.before a0 Z = true) : (Jvm.Cond.static ({ cls := "com/example/bellsplit/bellsplit/search/ImprovedDynamicProgramme", name := "binomial", desc := "(II)J" } : Jvm.MethodName)).before a0 Z = true := hw _ (List.mem_of_getElem? (i := 2) rfl)
theorem t3 {Z : State} {a0 : Array Value} (hw : ∀ d ∈ tables_1, d.before a0 Z = true) : (Jvm.Cond.initialized "com/example/bellsplit/bellsplit/search/ImprovedDynamicProgramme").before a0 Z = true := hw _ (List.mem_of_getElem? (i := 3) rfl)
theorem t4 {Z : State} {a0 : Array Value} (hw : ∀ d ∈ tables_1, d.before a0 Z = true) : (Jvm.Cond.code ({ cls := "com/example/bellsplit/bellsplit/search/ImprovedDynamicProgramme", name := "binomial", desc := "(II)J" } : Jvm.MethodName) prog_74_method_21_code (5 : Nat) (Option.some Jvm.ClassFile.FieldType.long)).before a0 Z = true := hw _ (List.mem_of_getElem? (i := 4) rfl)
theorem d1_0 : decode prog_74_method_21_code 0 = .ok (.lconst 1, 1) := by decide +kernel
theorem d1_1 : decode prog_74_method_21_code 1 = .ok (.lstore_n 2, 1) := by decide +kernel
theorem d1_2 : decode prog_74_method_21_code 2 = .ok (.iconst 1, 1) := by decide +kernel
theorem d1_3 : decode prog_74_method_21_code 3 = .ok (.istore 4, 2) := by decide +kernel
theorem d1_5 : decode prog_74_method_21_code 5 = .ok (.iload 4, 2) := by decide +kernel
theorem d1_7 : decode prog_74_method_21_code 7 = .ok (.iload_n 1, 1) := by decide +kernel
theorem d1_8 : decode prog_74_method_21_code 8 = .ok (.if_icmp .gt 23, 3) := by decide +kernel
theorem d1_31 : decode prog_74_method_21_code 31 = .ok (.lload_n 2, 1) := by decide +kernel
theorem d1_32 : decode prog_74_method_21_code 32 = .ok (.lreturn, 1) := by decide +kernel
theorem d1_11 : decode prog_74_method_21_code 11 = .ok (.lload_n 2, 1) := by decide +kernel
theorem d1_12 : decode prog_74_method_21_code 12 = .ok (.iload_n 0, 1) := by decide +kernel
theorem d1_13 : decode prog_74_method_21_code 13 = .ok (.iload_n 1, 1) := by decide +kernel
theorem d1_14 : decode prog_74_method_21_code 14 = .ok (.isub, 1) := by decide +kernel
theorem d1_15 : decode prog_74_method_21_code 15 = .ok (.iload 4, 2) := by decide +kernel
theorem d1_17 : decode prog_74_method_21_code 17 = .ok (.iadd, 1) := by decide +kernel
theorem d1_18 : decode prog_74_method_21_code 18 = .ok (.i2l, 1) := by decide +kernel
theorem d1_19 : decode prog_74_method_21_code 19 = .ok (.lmul, 1) := by decide +kernel
theorem d1_20 : decode prog_74_method_21_code 20 = .ok (.iload 4, 2) := by decide +kernel
theorem d1_22 : decode prog_74_method_21_code 22 = .ok (.i2l, 1) := by decide +kernel
theorem d1_23 : decode prog_74_method_21_code 23 = .ok (.ldiv, 1) := by decide +kernel
theorem d1_24 : decode prog_74_method_21_code 24 = .ok (.lstore_n 2, 1) := by decide +kernel
theorem d1_25 : decode prog_74_method_21_code 25 = .ok (.iinc 4 1, 3) := by decide +kernel
theorem d1_28 : decode prog_74_method_21_code 28 = .ok (.goto (-23), 3) := by decide +kernel
theorem pd0 : parseMethodDescriptor "(II)J" = some ⟨[.int, .int], some .long⟩ := by decide +kernel
theorem pn0 : plainName "com/example/bellsplit/bellsplit/search/ImprovedDynamicProgramme" = true := by first | (simp [plainName, overriddenIn]; done) | decide +kernel
theorem pn1 : plainName "com/example/bellsplit/bellsplit/search/ImprovedDynamicProgrammeBinomialPinLaw" = true := by first | (simp [plainName, overriddenIn]; done) | decide +kernel
end Facts

def own_r (d : Nat) : Nat → Nat
  | 0 => 1
  | i + 1 => own_r d i * (d + (i + 1)) / (i + 1)
theorem own_bound : ∀ d, d < 31 → ∀ i, i < 31 → d + i ≤ 30 → own_r d i ≤ 200000000 := by decide +kernel
theorem own_diag : ∀ n, n < 31 → own_r 0 n = 1 := by decide +kernel
theorem own_sym : ∀ n, n < 31 → ∀ k, k < 31 → k ≤ n → own_r (n - k) k = own_r (n - (n - k)) (n - k) := by decide +kernel
theorem own_pas : ∀ n, n < 31 → ∀ k, k < 31 → 1 ≤ k → k ≤ n - 1 → own_r (n - k) k = own_r (n - 1 - (k - 1)) (k - 1) + own_r (n - 1 - k) k := by decide +kernel
theorem own_on {m : Nat} (h : m < 4000000000000) : (Int64.ofNat m).toInt = (m : Int) := by
  exact Int64.toInt_ofNat_of_lt (by omega)
theorem own_step {n k i : Int32} {nn kk j : Nat} (hn : n.toInt = (nn : Int)) (hk : k.toInt = (kk : Int)) (hi : i.toInt = ((j + 1 : Nat) : Int)) (h1 : kk ≤ nn) (h2 : nn ≤ 30) (h3 : j < kk) : (Int64.ofNat (own_r (nn - kk) j) * ((n - k) + i).toInt64) / i.toInt64 = Int64.ofNat (own_r (nn - kk) (j + 1)) := by
  have hb := own_bound (nn - kk) (by omega) j (by omega) (by omega)
  have hb2 := own_bound (nn - kk) (by omega) (j + 1) (by omega) (by omega)
  apply Int64.toInt_inj.mp
  rw [own_on (by omega)]
  have a1 := c_isub n k
  have a2 := rng32 (n - k)
  have a3 := c_iadd (n - k) i
  have a4 := rng32 ((n - k) + i)
  have a5 : ((n - k) + i).toInt64.toInt = ((nn - kk + (j + 1) : Nat) : Int) := by rw [c_i2l]; omega
  have a6 : i.toInt64.toInt = ((j + 1 : Nat) : Int) := by rw [c_i2l]; exact hi
  have a7 := own_on (m := own_r (nn - kk) j) (by omega)
  have a8 := c_lmul (Int64.ofNat (own_r (nn - kk) j)) ((n - k) + i).toInt64
  rw [a5, a7] at a8
  have a9 := rng64 (Int64.ofNat (own_r (nn - kk) j) * ((n - k) + i).toInt64)
  have a10 : own_r (nn - kk) j * (nn - kk + (j + 1)) ≤ 200000000 * 30 := Nat.mul_le_mul hb (by omega)
  have a11 : ((own_r (nn - kk) j : Int)) * ((nn - kk + (j + 1) : Nat) : Int) = ((own_r (nn - kk) j * (nn - kk + (j + 1)) : Nat) : Int) := (Int.natCast_mul _ _).symm
  rw [a11] at a8
  have a12 : (Int64.ofNat (own_r (nn - kk) j) * ((n - k) + i).toInt64).toInt = ((own_r (nn - kk) j * (nn - kk + (j + 1)) : Nat) : Int) := by omega
  have hne : i.toInt64 ≠ -1 := fun q => by rw [q] at a6; change (-1 : Int) = _ at a6; omega
  rw [(c_ldiv _ i.toInt64 _ a6 hne).1 (by rw [a12]; omega), a12]
  show _ = ((own_r (nn - kk) j * (nn - kk + (j + 1)) / (j + 1) : Nat) : Int)
  rw [Int.natCast_ediv]
theorem own_n (s : Int32) : ∃ k : Nat, ((s &&& 2147483647) % 31).toInt = (k : Int) ∧ k ≤ 30 := by
  have h1 := c_mask s 2147483647 31 (by decide) (by decide)
  have h2 := c_irem (s &&& 2147483647) 31 31 (by decide)
  have h6 : ((2 ^ 31 : Nat) : Int) = 2147483648 := by decide
  rw [h6] at h1
  refine ⟨((s &&& 2147483647) % 31).toInt.toNat, ?_, ?_⟩ <;> omega
theorem own_add1 {x : Int32} {k : Nat} (h : x.toInt = (k : Int)) (h1 : k < 100) : (x + 1).toInt = ((k + 1 : Nat) : Int) := by
  have h2 := c_iadd x 1
  have h3 : ((1 : Int32)).toInt = 1 := by decide
  rw [h3] at h2
  have h4 := rng32 (x + 1)
  omega
theorem own_sub1 {x : Int32} {k : Nat} (h : x.toInt = (k : Int)) (h1 : 1 ≤ k) (h9 : k < 100) : (x - 1).toInt = ((k - 1 : Nat) : Int) := by
  have h2 := c_isub x 1
  have h3 : ((1 : Int32)).toInt = 1 := by decide
  rw [h3] at h2
  have h4 := rng32 (x - 1)
  omega
theorem own_sub {x y : Int32} {n k : Nat} (h : x.toInt = (n : Int)) (h1 : y.toInt = (k : Int)) (h9 : n < 100) (h8 : k ≤ n) : (x - y).toInt = ((n - k : Nat) : Int) := by
  have h2 := c_isub x y
  have h4 := rng32 (x - y)
  omega
theorem own_k (s : Int32) {m : Int32} {n : Nat} (hm : m.toInt = ((n + 1 : Nat) : Int)) (hn : n ≤ 30) : ∃ k : Nat, ((s &&& 2147483647) % m).toInt = (k : Int) ∧ k ≤ n := by
  have h1 := c_mask s 2147483647 31 (by decide) (by decide)
  have h6 : ((2 ^ 31 : Nat) : Int) = 2147483648 := by decide
  rw [h6] at h1
  have h2 := (c_irem (s &&& 2147483647) m _ hm).1 (by omega)
  have h3 := Int.emod_nonneg (s &&& 2147483647).toInt (show ((n + 1 : Nat) : Int) ≠ 0 by omega)
  have h4 := Int.emod_lt_of_pos (s &&& 2147483647).toInt (show 0 < ((n + 1 : Nat) : Int) by omega)
  refine ⟨((s &&& 2147483647) % m).toInt.toNat, ?_, ?_⟩ <;> omega
theorem own_addL {a b : Nat} (ha : a ≤ 200000000) (hb : b ≤ 200000000) : Int64.ofNat (a + b) = Int64.ofNat a + Int64.ofNat b := by
  apply Int64.toInt_inj.mp
  have h1 := own_on (m := a) (by omega)
  have h2 := own_on (m := b) (by omega)
  have h3 := own_on (m := a + b) (by omega)
  have h4 := c_ladd (Int64.ofNat a) (Int64.ofNat b)
  have h5 := rng64 (Int64.ofNat a + Int64.ofNat b)
  omega

set_option maxRecDepth 65536 in
set_option maxHeartbeats 40000000 in
theorem rm1 (l : Launch) (Z : State) (a0 : Array Value) (hw : ∀ d ∈ tables_1, d.before a0 Z = true) (n : Int32) (k : Int32) (nn kk : Nat) (h0 : Heap) (n0 : Nat) (hn : n.toInt = (nn : Int)) (hk : k.toInt = (kk : Int)) (h1 : kk ≤ nn) (h2 : nn ≤ 30) :
    Con l Z (⟨"com/example/bellsplit/bellsplit/search/ImprovedDynamicProgramme", "binomial", "(II)J"⟩ : MethodName) prog_74_method_21_code 5 (some .long) ({ frames := 0, cells := 0, slots := 0, locals := 0 } : Room) #[(.int n), (.int k)] h0 n0 (fun v h => v = some (.long (Int64.ofNat (own_r (nn - kk) kk))) ∧ h0 = h) := by
  refine Con.of_body (plainFor_of_name pn0) #[.val (.int n), .val (.int k), .unset, .unset, .unset] (fun m => by first | (simp [entryFrame, mkF, argsToLocals, Value.category, maxLocals]; done) | rfl) ?_
  intro p e s m below meth c C
  refine r_lconst C d1_0 (pc' := 1) rfl (z := (1 : Int64)) rfl ?_
  refine r_lstore_n C d1_1 (pc' := 2) rfl (ls' := #[.val (.int n), .val (.int k), .val (.long (1 : Int64)), .second, .unset]) rfl ?_
  refine r_iconst C d1_2 (pc' := 3) rfl (z := (1 : Int32)) rfl ?_
  refine r_istore C d1_3 (pc' := 5) rfl (ls' := #[.val (.int n), .val (.int k), .val (.long (1 : Int64)), .second, .val (.int (1 : Int32))]) rfl ?_
  refine loop (α := Int32 × Nat) (fun jq => kk - jq.2) (fun jq => jq.1.toInt = ((jq.2 + 1 : Nat) : Int) ∧ jq.2 ≤ kk) (fun jq => h0) 0 0 5 (fun jq => #[.val (.int n), .val (.int k), .val (.long (Int64.ofNat (own_r (nn - kk) jq.2))), .second, .val (.int jq.1)]) (fun jq => []) ?_ ?_
  rotate_left
  · intro LP
    exact LP (1, 0) ⟨rfl, Nat.zero_le _⟩
  rintro ⟨i, j⟩ ⟨hi, hj⟩ IH
  dsimp only at hi hj IH ⊢
  show Run _ _ _ _ _ _ _ _ _ _ _ _ _ _ _ h0 0 0 5 #[.val (.int n), .val (.int k), .val (.long (Int64.ofNat (own_r (nn - kk) j))), .second, .val (.int i)] []
  refine r_iload C d1_5 (pc' := 7) rfl rfl ?_
  refine r_iload_n C d1_7 (pc' := 8) rfl rfl ?_
  refine r_icmpgt C d1_8 (pcT := 31) (pcF := 11) (by decide) rfl ?_ ?_
  · intro c8
    rw [hi, hk] at c8
    obtain rfl : j = kk := by omega
    refine r_lload_n C d1_31 (pc' := 32) rfl rfl ?_
    exact r_lreturn C d1_32 ⟨rfl, rfl⟩ (by decide) (by decide)
  · intro c8
    rw [hi, hk] at c8
    have hnz : i.toInt64 ≠ 0 := fun q => by
      have := c_i2l i
      rw [q, hi] at this
      change (0 : Int) = _ at this
      omega
    refine r_lload_n C d1_11 (pc' := 12) rfl rfl ?_
    refine r_iload_n C d1_12 (pc' := 13) rfl rfl ?_
    refine r_iload_n C d1_13 (pc' := 14) rfl rfl ?_
    refine r_isub C d1_14 (pc' := 15) rfl (z := (n - k)) rfl ?_
    refine r_iload C d1_15 (pc' := 17) rfl rfl ?_
    refine r_iadd C d1_17 (pc' := 18) rfl (z := ((n - k) + i)) rfl ?_
    refine r_i2l C d1_18 (pc' := 19) rfl (z := ((((n - k) + i)).toInt64)) rfl ?_
    refine r_lmul C d1_19 (pc' := 20) rfl (z := ((Int64.ofNat (own_r (nn - kk) j)) * ((((n - k) + i)).toInt64))) rfl ?_
    refine r_iload C d1_20 (pc' := 22) rfl rfl ?_
    refine r_i2l C d1_22 (pc' := 23) rfl (z := ((i).toInt64)) rfl ?_
    refine r_ldiv C d1_23 (pc' := 24) rfl hnz (z := (Int64.ofNat (own_r (nn - kk) (j + 1)))) (own_step hn hk hi h1 h2 (by omega)) ?_
    refine r_lstore_n C d1_24 (pc' := 25) rfl (ls' := #[.val (.int n), .val (.int k), .val (.long (Int64.ofNat (own_r (nn - kk) (j + 1)))), .second, .val (.int i)]) rfl ?_
    refine r_iinc C d1_25 (pc' := 28) rfl rfl (z := (i + (1 : Int32))) rfl (ls' := #[.val (.int n), .val (.int k), .val (.long (Int64.ofNat (own_r (nn - kk) (j + 1)))), .second, .val (.int (i + (1 : Int32)))]) rfl ?_
    refine r_goto C d1_28 (pc' := 5) (by decide) ?_
    exact IH (i + 1, j + 1) ⟨own_add1 hi (by omega), by dsimp only; omega⟩ (by dsimp only; omega)
set_option maxRecDepth 65536 in
set_option maxHeartbeats 40000000 in
theorem rm0 (l : Launch) (Z : State) (a0 : Array Value) (hw : ∀ d ∈ tables_1, d.before a0 Z = true) (a : Int32) (b : Int32) (h0 : Heap) (n0 : Nat) (Z0 : n0 ≤ h0.size) :
    Con l Z x code maxLocals ret room_1 #[(.int a), (.int b)] h0 n0 (fun v h => v = some (.int 1)) := by
  refine Con.of_body (plainFor_of_name pn1) #[.val (.int a), .val (.int b), .unset, .unset, .unset, .unset, .unset, .unset, .unset, .unset] (fun m => by first | (simp [entryFrame, mkF, argsToLocals, Value.category, maxLocals]; done) | rfl) ?_
  intro p e s m below meth c C
  obtain ⟨nn, hn, hn30⟩ := own_n a
  obtain ⟨n, en⟩ : ∃ q : Int32, (a &&& 2147483647) % 31 = q := ⟨_, rfl⟩
  rw [en] at hn
  have hn1 := own_add1 hn (by omega)
  obtain ⟨kk, hk, hkn⟩ := own_k b hn1 hn30
  obtain ⟨k, ek⟩ : ∃ q : Int32, (b &&& 2147483647) % (n + 1) = q := ⟨_, rfl⟩
  rw [ek] at hk
  have hnz : n + 1 ≠ 0 := fun q => by rw [q] at hn1; change (0 : Int) = _ at hn1; omega
  have hs := own_sub hn hk (by omega) hkn
  refine r_iload_n C at_0 (pc' := 1) rfl rfl ?_
  refine r_ldc C (t0 hw) at_1 (pc' := 3) rfl ?_
  refine r_iand C at_3 (pc' := 4) rfl (z := (a &&& (2147483647 : Int32))) rfl ?_
  refine r_bipush C at_4 (pc' := 6) rfl (z := (31 : Int32)) rfl ?_
  refine r_irem C at_6 (pc' := 7) rfl (by decide) (z := n) en ?_
  refine r_istore_n C at_7 (pc' := 8) rfl (ls' := #[.val (.int a), .val (.int b), .val (.int n), .unset, .unset, .unset, .unset, .unset, .unset, .unset]) rfl ?_
  refine r_iload_n C at_8 (pc' := 9) rfl rfl ?_
  refine r_ldc C (t0 hw) at_9 (pc' := 11) rfl ?_
  refine r_iand C at_11 (pc' := 12) rfl (z := (b &&& (2147483647 : Int32))) rfl ?_
  refine r_iload_n C at_12 (pc' := 13) rfl rfl ?_
  refine r_iconst C at_13 (pc' := 14) rfl (z := (1 : Int32)) rfl ?_
  refine r_iadd C at_14 (pc' := 15) rfl (z := (n + (1 : Int32))) rfl ?_
  refine r_irem C at_15 (pc' := 16) rfl hnz (z := k) ek ?_
  refine r_istore_n C at_16 (pc' := 17) rfl (ls' := #[.val (.int a), .val (.int b), .val (.int n), .val (.int k), .unset, .unset, .unset, .unset, .unset, .unset]) rfl ?_
  refine r_iload_n C at_17 (pc' := 18) rfl rfl ?_
  refine r_iload_n C at_18 (pc' := 19) rfl rfl ?_
  refine r_callS (y := (⟨"com/example/bellsplit/bellsplit/search/ImprovedDynamicProgramme", "binomial", "(II)J"⟩ : MethodName)) (as := [(.int n), (.int k)]) (st := []) C (t1 hw) (t2 hw) (t3 hw) (t4 hw) (by decide) pd0 rfl rfl at_19 (pc' := 22) rfl rfl (W := 0) (Nat.le_of_eq rfl) (rm1 l Z a0 hw n k nn kk h0 n0 hn hk (by omega) (by omega)) (by decide) (by decide) (by decide) (by decide) ?_
  rintro _ _ ⟨rfl, rfl⟩
  show Run _ _ _ _ _ _ _ _ _ _ _ _ _ _ _ h0 0 0 22 #[.val (.int a), .val (.int b), .val (.int n), .val (.int k), .unset, .unset, .unset, .unset, .unset, .unset] [(.long (Int64.ofNat (own_r (nn - kk) kk)))]
  refine r_lstore C at_22 (pc' := 24) rfl (ls' := #[.val (.int a), .val (.int b), .val (.int n), .val (.int k), .val (.long (Int64.ofNat (own_r (nn - kk) kk))), .second, .unset, .unset, .unset, .unset]) rfl ?_
  refine r_iload_n C at_24 (pc' := 25) rfl rfl ?_
  refine r_iconst C at_25 (pc' := 26) rfl (z := (0 : Int32)) rfl ?_
  refine r_callS (y := (⟨"com/example/bellsplit/bellsplit/search/ImprovedDynamicProgramme", "binomial", "(II)J"⟩ : MethodName)) (as := [(.int n), (.int (0 : Int32))]) (st := []) C (t1 hw) (t2 hw) (t3 hw) (t4 hw) (by decide) pd0 rfl rfl at_26 (pc' := 29) rfl rfl (W := 0) (Nat.le_of_eq rfl) (rm1 l Z a0 hw n (0 : Int32) nn 0 h0 n0 hn rfl (by omega) (by omega)) (by decide) (by decide) (by decide) (by decide) ?_
  rintro _ _ ⟨rfl, rfl⟩
  show Run _ _ _ _ _ _ _ _ _ _ _ _ _ _ _ h0 0 0 29 #[.val (.int a), .val (.int b), .val (.int n), .val (.int k), .val (.long (Int64.ofNat (own_r (nn - kk) kk))), .second, .unset, .unset, .unset, .unset] [(.long (Int64.ofNat (own_r (nn - 0) 0)))]
  refine r_lconst C at_29 (pc' := 30) rfl (z := (1 : Int64)) rfl ?_
  refine r_lcmpeq C at_30 (pc' := 31) rfl at_31 (pcT := 36) (pcF := 34) (by decide) rfl ?_ ?_
  rotate_left
  · intro c30
    exact absurd rfl c30
  intro c30
  refine r_iload_n C at_36 (pc' := 37) rfl rfl ?_
  refine r_iload_n C at_37 (pc' := 38) rfl rfl ?_
  refine r_callS (y := (⟨"com/example/bellsplit/bellsplit/search/ImprovedDynamicProgramme", "binomial", "(II)J"⟩ : MethodName)) (as := [(.int n), (.int n)]) (st := []) C (t1 hw) (t2 hw) (t3 hw) (t4 hw) (by decide) pd0 rfl rfl at_38 (pc' := 41) rfl rfl (W := 0) (Nat.le_of_eq rfl) (rm1 l Z a0 hw n n nn nn h0 n0 hn hn (by omega) (by omega)) (by decide) (by decide) (by decide) (by decide) ?_
  rintro _ _ ⟨rfl, rfl⟩
  show Run _ _ _ _ _ _ _ _ _ _ _ _ _ _ _ h0 0 0 41 #[.val (.int a), .val (.int b), .val (.int n), .val (.int k), .val (.long (Int64.ofNat (own_r (nn - kk) kk))), .second, .unset, .unset, .unset, .unset] [(.long (Int64.ofNat (own_r (nn - nn) nn)))]
  refine r_lconst C at_41 (pc' := 42) rfl (z := (1 : Int64)) rfl ?_
  refine r_lcmpeq C at_42 (pc' := 43) rfl at_43 (pcT := 48) (pcF := 46) (by decide) rfl ?_ ?_
  rotate_left
  · intro c42
    exact absurd (by rw [Nat.sub_self, own_diag nn (by omega)]; rfl) c42
  intro c42
  refine r_lload C at_48 (pc' := 50) rfl rfl ?_
  refine r_iload_n C at_50 (pc' := 51) rfl rfl ?_
  refine r_iload_n C at_51 (pc' := 52) rfl rfl ?_
  refine r_iload_n C at_52 (pc' := 53) rfl rfl ?_
  refine r_isub C at_53 (pc' := 54) rfl (z := (n - k)) rfl ?_
  refine r_callS (y := (⟨"com/example/bellsplit/bellsplit/search/ImprovedDynamicProgramme", "binomial", "(II)J"⟩ : MethodName)) (as := [(.int n), (.int (n - k))]) (st := [(.long (Int64.ofNat (own_r (nn - kk) kk)))]) C (t1 hw) (t2 hw) (t3 hw) (t4 hw) (by decide) pd0 rfl rfl at_54 (pc' := 57) rfl rfl (W := 2) (Nat.le_of_eq rfl) (rm1 l Z a0 hw n (n - k) nn (nn - kk) h0 n0 hn hs (by omega) (by omega)) (by decide) (by decide) (by decide) (by decide) ?_
  rintro _ _ ⟨rfl, rfl⟩
  show Run _ _ _ _ _ _ _ _ _ _ _ _ _ _ _ h0 0 0 57 #[.val (.int a), .val (.int b), .val (.int n), .val (.int k), .val (.long (Int64.ofNat (own_r (nn - kk) kk))), .second, .unset, .unset, .unset, .unset] [(.long (Int64.ofNat (own_r (nn - (nn - kk)) (nn - kk)))), (.long (Int64.ofNat (own_r (nn - kk) kk)))]
  refine r_lcmpeq C at_57 (pc' := 58) rfl at_58 (pcT := 63) (pcF := 61) (by decide) rfl ?_ ?_
  rotate_left
  · intro c57
    exact absurd (congrArg Int64.ofNat (own_sym nn (by omega) kk (by omega) hkn)) c57
  intro c57
  refine r_iload_n C at_63 (pc' := 64) rfl rfl ?_
  refine r_iconst C at_64 (pc' := 65) rfl (z := (1 : Int32)) rfl ?_
  refine r_icmplt C at_65 (pcT := 112) (pcF := 68) (by decide) rfl ?_ ?_
  · intro c65
    refine r_iconst C at_112 (pc' := 113) rfl (z := (1 : Int32)) rfl ?_
    exact r_ireturnN (t := .boolean) (by simp) C at_113 rfl (by decide) (by decide)
  · intro c65
    replace c65 : (1 : Int) ≤ k.toInt := c65
    have hn9 := own_sub1 hn (by omega) (by omega)
    have hk9 := own_sub1 hk (by omega) (by omega)
    refine r_iload_n C at_68 (pc' := 69) rfl rfl ?_
    refine r_iload_n C at_69 (pc' := 70) rfl rfl ?_
    refine r_iconst C at_70 (pc' := 71) rfl (z := (1 : Int32)) rfl ?_
    refine r_isub C at_71 (pc' := 72) rfl (z := (n - (1 : Int32))) rfl ?_
    refine r_icmpgt C at_72 (pcT := 112) (pcF := 75) (by decide) rfl ?_ ?_
    · intro c72
      refine r_iconst C at_112 (pc' := 113) rfl (z := (1 : Int32)) rfl ?_
      exact r_ireturnN (t := .boolean) (by simp) C at_113 rfl (by decide) (by decide)
    · intro c72
      rw [hk, hn9] at c72
      refine r_iload_n C at_75 (pc' := 76) rfl rfl ?_
      refine r_iconst C at_76 (pc' := 77) rfl (z := (1 : Int32)) rfl ?_
      refine r_isub C at_77 (pc' := 78) rfl (z := (n - (1 : Int32))) rfl ?_
      refine r_iload_n C at_78 (pc' := 79) rfl rfl ?_
      refine r_iconst C at_79 (pc' := 80) rfl (z := (1 : Int32)) rfl ?_
      refine r_isub C at_80 (pc' := 81) rfl (z := (k - (1 : Int32))) rfl ?_
      refine r_callS (y := (⟨"com/example/bellsplit/bellsplit/search/ImprovedDynamicProgramme", "binomial", "(II)J"⟩ : MethodName)) (as := [(.int (n - (1 : Int32))), (.int (k - (1 : Int32)))]) (st := []) C (t1 hw) (t2 hw) (t3 hw) (t4 hw) (by decide) pd0 rfl rfl at_81 (pc' := 84) rfl rfl (W := 0) (Nat.le_of_eq rfl) (rm1 l Z a0 hw (n - 1) (k - 1) (nn - 1) (kk - 1) h0 n0 hn9 hk9 (by omega) (by omega)) (by decide) (by decide) (by decide) (by decide) ?_
      rintro _ _ ⟨rfl, rfl⟩
      show Run _ _ _ _ _ _ _ _ _ _ _ _ _ _ _ h0 0 0 84 #[.val (.int a), .val (.int b), .val (.int n), .val (.int k), .val (.long (Int64.ofNat (own_r (nn - kk) kk))), .second, .unset, .unset, .unset, .unset] [(.long (Int64.ofNat (own_r ((nn - 1) - (kk - 1)) (kk - 1))))]
      refine r_lstore C at_84 (pc' := 86) rfl (ls' := #[.val (.int a), .val (.int b), .val (.int n), .val (.int k), .val (.long (Int64.ofNat (own_r (nn - kk) kk))), .second, .val (.long (Int64.ofNat (own_r ((nn - 1) - (kk - 1)) (kk - 1)))), .second, .unset, .unset]) rfl ?_
      refine r_iload_n C at_86 (pc' := 87) rfl rfl ?_
      refine r_iconst C at_87 (pc' := 88) rfl (z := (1 : Int32)) rfl ?_
      refine r_isub C at_88 (pc' := 89) rfl (z := (n - (1 : Int32))) rfl ?_
      refine r_iload_n C at_89 (pc' := 90) rfl rfl ?_
      refine r_callS (y := (⟨"com/example/bellsplit/bellsplit/search/ImprovedDynamicProgramme", "binomial", "(II)J"⟩ : MethodName)) (as := [(.int (n - (1 : Int32))), (.int k)]) (st := []) C (t1 hw) (t2 hw) (t3 hw) (t4 hw) (by decide) pd0 rfl rfl at_90 (pc' := 93) rfl rfl (W := 0) (Nat.le_of_eq rfl) (rm1 l Z a0 hw (n - 1) k (nn - 1) kk h0 n0 hn9 hk (by omega) (by omega)) (by decide) (by decide) (by decide) (by decide) ?_
      rintro _ _ ⟨rfl, rfl⟩
      show Run _ _ _ _ _ _ _ _ _ _ _ _ _ _ _ h0 0 0 93 #[.val (.int a), .val (.int b), .val (.int n), .val (.int k), .val (.long (Int64.ofNat (own_r (nn - kk) kk))), .second, .val (.long (Int64.ofNat (own_r ((nn - 1) - (kk - 1)) (kk - 1)))), .second, .unset, .unset] [(.long (Int64.ofNat (own_r ((nn - 1) - kk) kk)))]
      refine r_lstore C at_93 (pc' := 95) rfl (ls' := #[.val (.int a), .val (.int b), .val (.int n), .val (.int k), .val (.long (Int64.ofNat (own_r (nn - kk) kk))), .second, .val (.long (Int64.ofNat (own_r ((nn - 1) - (kk - 1)) (kk - 1)))), .second, .val (.long (Int64.ofNat (own_r ((nn - 1) - kk) kk))), .second]) rfl ?_
      refine r_lload C at_95 (pc' := 97) rfl rfl ?_
      refine r_lload C at_97 (pc' := 99) rfl rfl ?_
      refine r_lload C at_99 (pc' := 101) rfl rfl ?_
      refine r_ladd C at_101 (pc' := 102) rfl (z := ((Int64.ofNat (own_r ((nn - 1) - (kk - 1)) (kk - 1))) + (Int64.ofNat (own_r ((nn - 1) - kk) kk)))) rfl ?_
      refine r_lcmpne C at_102 (pc' := 103) rfl at_103 (pcT := 110) (pcF := 106) (by decide) rfl ?_ ?_
      · intro c102
        exact absurd ((congrArg Int64.ofNat (own_pas nn (by omega) kk (by omega) (by omega) (by omega))).trans (own_addL (own_bound _ (by omega) _ (by omega) (by omega)) (own_bound _ (by omega) _ (by omega) (by omega)))) c102
      intro c102
      refine r_iconst C at_106 (pc' := 107) rfl (z := (1 : Int32)) rfl ?_
      refine r_goto C at_107 (pc' := 111) (by decide) ?_
      exact r_ireturnN (t := .boolean) (by simp) C at_111 rfl (by decide) (by decide)
set_option maxRecDepth 65536 in
set_option maxHeartbeats 40000000 in
theorem comes_1 {Post : Tables → Env → Array Value → State → Outcome → State → Prop} (hpost : ∀ tb e args s v u, (limb_1_1.after args s (.returned v) u = true ∧ limb_1_2.after args s (.returned v) u = true ∧ True) → FrameEnd s (.returned v) u (Jvm.fieldLocs frame_1_writes args s ++ Jvm.arrayLocs frame_1_arrays args s ++ Jvm.staticLocs frame_1_statics s) 0 0 → Post tb e args s (.returned v) u) :
    ArmFor flags0 classFile x code maxLocals ret World_1 tables_1 room_1 Calls_1 rest_1 Pre_1 Post := by
  intro l hfl _ _ p e ha hc hk s m args below hf hA hF happ hP
  obtain ⟨hcalls, hrest, hpre⟩ := hP
  obtain ⟨-, -, -, hnamed, -, -, -, hat⟩ := (Spec.applies_iff hf).mp happ
  obtain ⟨hg, hn⟩ := and_e (Cond.before_iff.mp (show (Jvm.Cond.and given_1 narrow_1).before args s = true from hpre))
  obtain ⟨g0, k0⟩ := and_e hg
  obtain ⟨w0, w1, rfl⟩ : ∃ w0 w1 : Value, args = #[w0, w1] := by
    have hs : args.size = 2 := by simpa [Cond.value, given_1] using g0
    obtain ⟨L⟩ := args
    match L, hs with
    | [w0, w1], _ => exact ⟨w0, w1, rfl⟩
  have hw := fun d (hd : d ∈ tables_1) => atoms_spec (ws := Jvm.Cond.code x code maxLocals ret :: tables_1) hat d (List.mem_cons_of_mem _ hd)
  obtain ⟨j0, k1⟩ := and_e k0
  obtain ⟨i0, e0⟩ := is_v j0
  obtain rfl : w0 = (.int i0) := Option.some.inj e0
  have j1 := k1
  obtain ⟨i1, e1⟩ := is_v j1
  obtain rfl : w1 = (.int i1) := Option.some.inj e1
  obtain ⟨n, o, h1, h2, h3, _, L, rfl, ⟨rfl, N⟩, hq⟩ := rm0 l s _ hw i0 i1 s.heap s.heap.size (Nat.le_refl _) tables_1 p e ha hc hk s m _ below hf ((Spec.applies_iff_loose hf).mp happ).1 ⟨rfl, State.Warmed39.refl s, rfl⟩ trivial
  refine ⟨n, _, h1, h2, h3, hpost _ _ _ _ _ _ ⟨Cond.after_iff.mpr rfl, Cond.after_iff.mpr (eq_i res_at (Term.int_eval (1)) rfl), trivial⟩ ⟨hq.1, hq.2.1, (hq.2.2.sift fun y hy => Or.inr (N y hy)).mono (by decide) (by decide)⟩⟩
theorem main_1_1 : Claimed_1_1 := comes_1 fun _ _ _ _ _ _ h hF => ⟨h.1, hF⟩
theorem main_1_2 : Claimed_1_2 := comes_1 fun _ _ _ _ _ _ h hF => ⟨h.2.1, hF⟩
end Jvm.Pilot.@@N@@
namespace Jvm.Pilot.@@N@@
open Jvm Jvm.ClassFile Sem Op Lib Jvm.Free Jvm.Stand Jvm.Pilot.@@N@@.Jvm.D
/-! MADE BY PROGRAM (witnessworld.py) out of the Statement's table words and the real class files: 9 classes; the members and pool entries that the words name. The judged class is class 1, her method 1. -/
namespace start1
open Jvm.ClassFile
def u (s : String) : CpInfo := .utf8 (stringToUtf16 s)
/-- a pool by its gaps: so many unusable entries, then the entry; so many at the end -/
def gap : Nat → List CpInfo → List CpInfo
  | 0, r => r
  | n + 1, r => .unusable :: gap n r
def poolList (es : List (Nat × CpInfo)) (last : Nat) : List CpInfo := es.foldr (fun e r => gap e.1 (e.2 :: r)) (gap last [])
def pool (es : List (Nat × CpInfo)) (last : Nat) : Array CpInfo := ⟨poolList es last⟩
def fileOf (pool : Array CpInfo) (this : Nat) (attrs : Array Attribute := #[]) (ms : Array MethodInfo := #[]) (fl : Nat := 33) (sup : Nat := 0) (ifs : Array Nat := #[]) (fds : Array FieldInfo := #[]) : ClassFile where
  minorVersion := 0
  majorVersion := 65
  constantPool := pool
  accessFlags := fl
  thisClass := this
  superClass := sup
  interfaces := ifs
  fields := fds
  methods := ms
  attributes := attrs
def plain (name : String) (sup : Option ClassId) : Class where
  name := name
  kind := .ordinary
  loader := none
  accessFlags := 33
  super := sup
  interfaces := #[]
  cf := none
  fields := #[]
  methods := #[]
  instanceTypes := #[]
  staticTypes := #[]
  resolved := #[]
  callSites := []
  init := .initialized
  statics := none
  mirror := none

def pool0 : Array CpInfo := pool [(5, u "<init>"), (0, u "()V"), (1, .class_ 10), (1, u "java/lang/Object")] 113

def k0m0 : Method := { name := "<init>", desc := "()V", sig := { parameters := [], returnType := none }, accessFlags := 1, code := none }
/-- java/lang/Object -/
def k0 : Class := { plain "java/lang/Object" none with
  accessFlags := 33
  interfaces := #[]
  cf := some (fileOf pool0 8 #[] #[{ accessFlags := 1, nameIndex := 5, descriptorIndex := 6, attributes := #[] }] 33 0 #[] #[])
  fields := #[]
  methods := #[k0m0]
  instanceTypes := #[]
  staticTypes := #[]
  resolved := Array.replicate 124 none
  statics := none }

def pool1 : Array CpInfo := pool [(2, .class_ 4), (1, u "java/lang/Object"), (0, u "<init>"), (0, u "()V"), (0, .integer 2147483647), (0, .methodref 9 10), (0, .class_ 11), (0, .nameAndType 12 13), (0, u "com/example/bellsplit/bellsplit/search/ImprovedDynamicProgramme"), (0, u "binomial"), (0, u "(II)J"), (0, .class_ 15), (0, u "com/example/bellsplit/bellsplit/search/ImprovedDynamicProgrammeBinomialPinLaw"), (2, u "law"), (0, u "(II)Z")] 3

def k1m0 : Method := { name := "<init>", desc := "()V", sig := { parameters := [], returnType := none }, accessFlags := 1, code := none }
def k1c1 : Code := { maxStack := 6, maxLocals := 10, code := code, exceptionTable := #[], attributes := #[] }
def k1m1 : Method := { name := "law", desc := "(II)Z", sig := { parameters := [.int, .int], returnType := some .boolean }, accessFlags := 9, code := some k1c1 }
/-- com/example/bellsplit/bellsplit/search/ImprovedDynamicProgrammeBinomialPinLaw -/
def k1 : Class := { plain "com/example/bellsplit/bellsplit/search/ImprovedDynamicProgrammeBinomialPinLaw" (some 0) with
  accessFlags := 49
  interfaces := #[]
  cf := some (fileOf pool1 14 #[] #[{ accessFlags := 1, nameIndex := 5, descriptorIndex := 6, attributes := #[] }, { accessFlags := 9, nameIndex := 18, descriptorIndex := 19, attributes := #[] }] 49 2 #[] #[])
  fields := #[]
  methods := #[k1m0, k1m1]
  instanceTypes := #[]
  staticTypes := #[]
  resolved := Array.replicate 23 none
  statics := none }

def pool2 : Array CpInfo := pool [(2, .class_ 4), (1, u "java/lang/Object"), (3, .class_ 10), (1, u "com/example/bellsplit/bellsplit/search/ImprovedDynamicProgramme"), (0, u "values"), (0, u "Lcom/example/bellsplit/bellsplit/model/CoalitionValues;"), (4, u "agents"), (3, u "I"), (5, u "all"), (2, u "best"), (0, u "[D"), (7, u "bests"), (0, u "Lcom/example/bellsplit/bellsplit/model/GreatestBySize;"), (9, u "evaluated"), (8, .class_ 60), (0, u "com/example/bellsplit/bellsplit/search/ImprovedDynamicProgramme$Result"), (11, u "splittings"), (0, u "J"), (23, u "stopped"), (0, u "Z"), (64, u "binomial"), (0, u "(II)J")] 22

def k2c0 : Code := { maxStack := 4, maxLocals := 5, code := prog_74_method_21_code, exceptionTable := #[], attributes := #[] }
def k2m0 : Method := { name := "binomial", desc := "(II)J", sig := { parameters := [.int, .int], returnType := some .long }, accessFlags := 8, code := some k2c0 }
/-- com/example/bellsplit/bellsplit/search/ImprovedDynamicProgramme -/
def k2 : Class := { plain "com/example/bellsplit/bellsplit/search/ImprovedDynamicProgramme" (some 0) with
  accessFlags := 49
  interfaces := #[]
  cf := some (fileOf pool2 8 #[.nestMembers #[59]] #[{ accessFlags := 8, nameIndex := 163, descriptorIndex := 164, attributes := #[] }] 49 2 #[] #[{ accessFlags := 18, nameIndex := 11, descriptorIndex := 12, attributes := #[] }, { accessFlags := 18, nameIndex := 17, descriptorIndex := 21, attributes := #[] }, { accessFlags := 18, nameIndex := 27, descriptorIndex := 21, attributes := #[] }, { accessFlags := 18, nameIndex := 30, descriptorIndex := 31, attributes := #[] }, { accessFlags := 18, nameIndex := 39, descriptorIndex := 40, attributes := #[] }, { accessFlags := 2, nameIndex := 72, descriptorIndex := 73, attributes := #[] }, { accessFlags := 2, nameIndex := 50, descriptorIndex := 21, attributes := #[] }, { accessFlags := 66, nameIndex := 97, descriptorIndex := 98, attributes := #[] }])
  fields := #[{ name := "values", type := (.object "com/example/bellsplit/bellsplit/model/CoalitionValues"), accessFlags := 18, slot := 0, constantValue := 0 }, { name := "agents", type := .int, accessFlags := 18, slot := 1, constantValue := 0 }, { name := "all", type := .int, accessFlags := 18, slot := 2, constantValue := 0 }, { name := "best", type := (.array .double), accessFlags := 18, slot := 3, constantValue := 0 }, { name := "bests", type := (.object "com/example/bellsplit/bellsplit/model/GreatestBySize"), accessFlags := 18, slot := 4, constantValue := 0 }, { name := "splittings", type := .long, accessFlags := 2, slot := 5, constantValue := 0 }, { name := "evaluated", type := .int, accessFlags := 2, slot := 6, constantValue := 0 }, { name := "stopped", type := .boolean, accessFlags := 66, slot := 7, constantValue := 0 }]
  methods := #[k2m0]
  instanceTypes := #[(.object "com/example/bellsplit/bellsplit/model/CoalitionValues"), .int, .int, (.array .double), (.object "com/example/bellsplit/bellsplit/model/GreatestBySize"), .long, .int, .boolean]
  staticTypes := #[]
  resolved := Array.replicate 187 none
  statics := none }

def pool3 : Array CpInfo := pool [(1, u "java/lang/Cloneable"), (0, .class_ 1), (0, u "java/lang/Object"), (0, .class_ 3)] 3

/-- java/lang/Cloneable -/
def k3 : Class := { plain "java/lang/Cloneable" (some 0) with
  accessFlags := 1537
  interfaces := #[]
  cf := some (fileOf pool3 2 #[] #[] 1537 4 #[] #[])
  fields := #[]
  methods := #[]
  instanceTypes := #[]
  staticTypes := #[]
  resolved := Array.replicate 8 none
  statics := none }

def pool4 : Array CpInfo := pool [(1, u "java/io/Serializable"), (0, .class_ 1), (0, u "java/lang/Object"), (0, .class_ 3)] 3

/-- java/io/Serializable -/
def k4 : Class := { plain "java/io/Serializable" (some 0) with
  accessFlags := 1537
  interfaces := #[]
  cf := some (fileOf pool4 2 #[] #[] 1537 4 #[] #[])
  fields := #[]
  methods := #[]
  instanceTypes := #[]
  staticTypes := #[]
  resolved := Array.replicate 8 none
  statics := none }

/-- the primitive byte -/
def k5 : Class := { plain "byte" none with kind := .primitive 'B', accessFlags := 0x411 }
/-- [B -/
def k6 : Class := { plain "[B" (some 0) with kind := .array 5 .byte, interfaces := #[3, 4], accessFlags := 1041 }

/-- the primitive int -/
def k7 : Class := { plain "int" none with kind := .primitive 'I', accessFlags := 0x411 }
/-- [I -/
def k8 : Class := { plain "[I" (some 0) with kind := .array 7 .int, interfaces := #[3, 4], accessFlags := 1041 }

def heap : Heap := #[]
def classes : Array Class := #[k0, k1, k2, k3, k4, k5, k6, k7, k8]
def interned : List (Array UInt16 × Addr) := []
def slotsUsed : Nat := 0
def theMethod : MethodId := ⟨1, 1⟩
def args0 : Array Value := #[.int 5, .int 5]
def aboutOver (below : List Frame) : State where
  vm := { classes := classes, interned := interned.toArray }
  heap := heap
  slotsUsed := slotsUsed
  threads := #[{ frames := .invoking theMethod args0 :: below }]
def below0 : List Frame := [.native { method := ⟨0, 0⟩, args := #[] }]
def about1 : State := aboutOver below0
def p0 : Program := .bare "" "" ""
def e0 : Env := launch0.env 0 0 0
theorem w_frames : about1.frames = Frame.invoking theMethod args0 :: below0 := rfl
set_option maxRecDepth 65536 in
theorem w_args : argsFit about1.vm theMethod args0 = true := by decide +kernel
set_option maxRecDepth 65536 in
theorem w_heap : heapFits about1 = true := by decide +kernel
set_option maxRecDepth 65536 in
theorem w_runnable : about1.curStatus? = some .runnable := by decide +kernel
set_option maxRecDepth 65536 in
theorem w_alone : about1.alone = true := by decide +kernel
set_option maxRecDepth 65536 in
theorem w_named : about1.methodNamed? x = some theMethod := by decide +kernel
set_option maxRecDepth 65536 in
theorem w_hears : about1.hears theMethod below0 = true := by decide +kernel
set_option maxRecDepth 65536 in
theorem w_ripe : about1.ripe theMethod args0 below0 = true := by decide +kernel
theorem w_running : about1.status = .running := rfl
set_option maxRecDepth 65536 in
theorem w_room : about1.hasRoom e0.platform room_1 = true :=
  launch0.hasRoom_least _ room_1 (by decide +kernel) (by decide +kernel) (by decide +kernel) (by decide +kernel) (by decide +kernel) (by decide +kernel)
theorem allAtoms_all (ts : List Jvm.Cond) (a : Array Jvm.Value) (st : Jvm.State) : (allAtoms ts).before a st = ts.all (fun c => c.before a st) := by
  induction ts with
  | nil => rfl
  | cons c t ih =>
    show (Jvm.Cond.and c (allAtoms t)).before a st = _
    rw [Jvm.Cond.before_and, ih, List.all_cons]
def words1 : List Jvm.Cond := Jvm.Cond.code x code maxLocals ret :: tables_1
/-- a 'code' word, met by the world's own term for the bytes: nothing is compared byte by byte -/
theorem code_word {y : MethodName} {bytes : ByteArray} {mx : Nat} {rt : Option FieldType} {a : Array Value} {s : State} {m : MethodId} {meth : Method} {c : Code} (h1 : s.methodNamed? y = some m) (h2 : s.vm.method? m = some meth) (h3 : meth.code = some c) (h4 : c.code = bytes)
    (h5 : (c.maxLocals == mx && c.exceptionTable.isEmpty && decide (c.maxStack ≤ mostOperands) && decide (meth.sig.returnType = rt) && !meth.locks && decide (parseMethodDescriptor y.desc = some meth.sig)) = true) : (Jvm.Cond.code y bytes mx rt).before a s = true := by
  simp only [Bool.and_eq_true, beq_iff_eq, Bool.not_eq_true', decide_eq_true_eq] at h5
  obtain ⟨⟨⟨⟨⟨g1, g2⟩, g3⟩, g4⟩, g5⟩, g6⟩ := h5
  simp [Cond.before, Cond.holds, Cond.value, h1, h2, h3, h4, g1, g2, g3, g4, g5, g6]
def isCode : Jvm.Cond → Bool
  | .code _ _ _ _ => true
  | _ => false
theorem all_split {L : List Jvm.Cond} {P : Jvm.Cond → Bool} (h1 : L.all (fun c => isCode c || P c) = true) (h2 : ∀ c ∈ L.filter isCode, P c = true) : L.all P = true := by
  refine List.all_eq_true.mpr fun c hc => ?_
  have h := List.all_eq_true.mp h1 c hc
  rcases Bool.eq_false_or_eq_true (isCode c) with hi | hi
  · exact h2 c (List.mem_filter.mpr ⟨hc, hi⟩)
  · simpa [hi] using h
set_option maxRecDepth 65536 in
theorem w_c0 : (Jvm.Cond.code x code maxLocals ret).before args0 about1 = true := code_word (m := ⟨1, 1⟩) (meth := k1m1) (c := k1c1) (by decide +kernel) rfl rfl rfl (by decide +kernel)
set_option maxRecDepth 65536 in
theorem w_c1 : (Jvm.Cond.code ({ cls := "com/example/bellsplit/bellsplit/search/ImprovedDynamicProgramme", name := "binomial", desc := "(II)J" } : Jvm.MethodName) prog_74_method_21_code (5 : Nat) (Option.some Jvm.ClassFile.FieldType.long)).before args0 about1 = true := code_word (m := ⟨2, 0⟩) (meth := k2m0) (c := k2c0) (by decide +kernel) rfl rfl rfl (by decide +kernel)
def codes1 : List Jvm.Cond := [Jvm.Cond.code x code maxLocals ret, Jvm.Cond.code ({ cls := "com/example/bellsplit/bellsplit/search/ImprovedDynamicProgramme", name := "binomial", desc := "(II)J" } : Jvm.MethodName) prog_74_method_21_code (5 : Nat) (Option.some Jvm.ClassFile.FieldType.long)]
set_option maxRecDepth 65536 in
theorem codes_eq : words1.filter isCode = codes1 := rfl
theorem w_codes : ∀ c ∈ words1.filter isCode, c.before args0 about1 = true := by
  rw [codes_eq]
  intro c hc
  simp only [codes1, List.mem_cons, List.not_mem_nil, or_false] at hc
  rcases hc with rfl | rfl
  · exact w_c0
  · exact w_c1
set_option maxRecDepth 65536 in
theorem w_t1 : words1.all (fun c => isCode c || c.before args0 about1) = true := by decide +kernel
theorem w_tables : (allAtoms (Jvm.Cond.code x code maxLocals ret :: tables_1)).before args0 about1 = true := by
  rw [allAtoms_all]
  show words1.all (fun c => c.before args0 about1) = true
  refine all_split ?_ w_codes
  rw [w_t1]
set_option maxRecDepth 65536 in
theorem w_case : (Jvm.Cond.and given_1 narrow_1).before args0 about1 = true := by decide +kernel
theorem w_applies : (headSpec (Jvm.Cond.code x code maxLocals ret :: tables_1) room_1).applies x e0.platform about1 = true :=
  (Spec.applies_iff w_frames).mpr ⟨w_running, w_runnable, w_alone, w_named, w_hears, w_ripe, w_room, w_tables⟩
theorem atStart : AtStart classFile x code maxLocals ret World_1 tables_1 room_1 Calls_1 rest_1 Pre_1 launch0 p0 e0 about1 theMethod args0 below0 :=
  ⟨lists_1, trivial, launch0.admits_env _ _ _, launch0.least_env, fairChoices_fair.cas, fairChoices_fair.clock, w_frames, w_args, w_heap, w_applies, trivial, trivial, w_case⟩
end start1
theorem witness_1 : WitnessClaimed_1 := ⟨start1.p0, start1.e0, start1.about1, start1.theMethod, start1.args0, start1.below0, start1.atStart⟩
end Jvm.Pilot.@@N@@
