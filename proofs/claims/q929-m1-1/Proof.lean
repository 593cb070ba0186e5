import JvmDerived
import JvmDerived.Pilot.@@N@@Statement
import JvmDerived.Pilot.@@N@@Code
set_option linter.unusedVariables false
set_option linter.unusedSimpArgs false
namespace Jvm.Pilot.@@N@@
open Jvm Jvm.ClassFile Sem Op Lib Jvm.Free Jvm.Stand Jvm.LawKit Jvm.RoadKit Bundle Jvm.Pilot.@@N@@.Jvm.D
/-- from the frame (pc, ls, st) over the heap h the goal G is reached -/
def Run (p : Program) (l : Launch) (e : Env) (R : Room) (s : State) (m : MethodId) (args : Array Value) (below : List Frame) (meth : Method) (c : Code) (Z : State) (own : String) (V : Vm → Nat → Prop) (n0 : Nat) (G : State → Outcome → Prop) (h : Heap) (cells slots pc : Nat) (ls : Array Slot) (st : List Value) : Prop :=
  ∀ (vm0 : Vm) (k0 : Nat) (T : State) (L : List Loc), Stand p l e R (s.setVm vm0) m args below meth c T L cells slots → V vm0 k0 → k0 ≤ h.size → Z.Warmed39 vm0 → vm0.findClass own = some m.cls → Fr n0 L → T.heap = h →
    ∃ U o, Steps p.tables e below (T.setTop (mkF m pc ls st)) U ∧ U.status = .running ∧ Ended U below o ∧ G U o
/-- what is known of the body -/
def Cx (p : Program) (c : Code) (meth : Method) (bytes : ByteArray) (maxL : Nat) (ret : Option FieldType) (nm : String) : Prop := p.tables.exec = Jvm.exec ∧ c.code = bytes ∧ c.maxLocals = maxL ∧ meth.sig.returnType = ret ∧ meth.locks = false ∧ meth.name = nm
def plainV (s : State) (vm : Vm) (_ : Nat) : Prop := vm = s.vm
def Gq (s : State) (n0 : Nat) (rm : Room) (P : Option Value → Heap → Prop) (U : State) (o : Outcome) : Prop := ∃ v L, o = .returned v ∧ (P v U.heap ∧ Fr n0 L) ∧ FrameEnd s o U L rm.cells rm.slots
/-- a contract -/
def Con (l : Launch) (Z : State) (y : MethodName) (bytes : ByteArray) (maxL : Nat) (ret : Option FieldType) (rm : Room) (as : Array Value) (h0 : Heap) (n0 : Nat) (P : Option Value → Heap → Prop) : Prop :=
  ∀ ws : List Jvm.Cond, MetFree l y (head1 (Jvm.Cond.code y bytes maxL ret :: ws) rm) (fun a U => a = as ∧ Z.Warmed39 U.vm ∧ U.heap = h0) (fun _ _ _ _ _ => True) (fun _ U o U' => Gq U n0 rm P U' o)
section Kit
variable {p : Program} {l : Launch} {e : Env} {R : Room} {s : State} {m : MethodId} {args : Array Value} {below : List Frame} {meth : Method} {c : Code} {Z : State} {own : String} {V : Vm → Nat → Prop} {n0 : Nat} {G : State → Outcome → Prop} {h : Heap} {cells slots pc pc' : Nat} {ls ls' : Array Slot} {st st' : List Value} {bytes : ByteArray} {maxL : Nat} {ret : Option FieldType} {nm : String} {a0 : Array Value}
theorem Con.of_body {y : MethodName} {rm : Room} {as : Array Value} {h0 : Heap} {P : Option Value → Heap → Prop} (hp : plainFor y = true) (Ls : Array Slot) (hent : ∀ m, entryFrame m as maxL = mkF m 0 Ls [])
    (body : ∀ p e s m below meth c, Cx p c meth bytes maxL ret y.name → Run p l e rm s m as below meth c Z y.cls (plainV s) n0 (Gq s n0 rm P) h0 0 0 0 Ls []) : Con l Z y bytes maxL ret rm as h0 n0 P := by
  intro ws
  refine MetFree.of_bodySF hp hisR ?_
  intro p e s m args below meth c s₁ Bd hml0 hP hK
  obtain ⟨rfl, hZ, hh⟩ := hP
  have hown : s.vm.findClass y.cls = some m.cls := findClass_of_methodNamed Bd.named
  have hnm := (name_of_methodNamed Bd.named Bd.method).1
  obtain ⟨U, o, h1, h2, h3, h4⟩ := body p e s m below meth c ⟨Bd.exec, Bd.bytes, hml0, Bd.returns, BodyLoose.notSynchronized Bd, hnm⟩ s.vm 0 s₁ [] (Stand.of_body Bd) rfl (Nat.zero_le _) hZ hown (Fr.nil n0) (by rw [← hh, Bd.state]; rfl)
  exact ⟨U, o, castTop (hent m) h1, h2, h3, h4⟩
theorem Run.go (hs : ∀ (T t : State), At T m c below → Steps p.tables e below (T.setTop (mkF m pc' ls' st')) t → Steps p.tables e below (T.setTop (mkF m pc ls st)) t) (k : Run p l e R s m args below meth c Z own V n0 G h cells slots pc' ls' st') : Run p l e R s m args below meth c Z own V n0 G h cells slots pc ls st :=
  fun vm0 k0 T L X hV hk hZ ho N eT => by
    obtain ⟨U, o, h1, r⟩ := k vm0 k0 T L X hV hk hZ ho N eT
    exact ⟨U, o, hs T U X.here h1, r⟩
theorem r_iadd {x y z : Int32} (C : Cx p c meth bytes maxL ret nm) (hd : decode bytes pc = .ok (.iadd, 1)) (hp : pc + 1 = pc') (hz : x + y = z) (k : Run p l e R s m args below meth c Z own V n0 G h cells slots pc' ls (.int z :: st)) : Run p l e R s m args below meth c Z own V n0 G h cells slots pc ls (.int y :: .int x :: st) := by
  subst hp hz
  exact k.go fun T t A q => XS.iadd (g := mkF m pc ls (.int y :: .int x :: st)) A C.1 rfl (hb C.2.1 hd) rfl q
theorem r_isub {x y z : Int32} (C : Cx p c meth bytes maxL ret nm) (hd : decode bytes pc = .ok (.isub, 1)) (hp : pc + 1 = pc') (hz : x - y = z) (k : Run p l e R s m args below meth c Z own V n0 G h cells slots pc' ls (.int z :: st)) : Run p l e R s m args below meth c Z own V n0 G h cells slots pc ls (.int y :: .int x :: st) := by
  subst hp hz
  exact k.go fun T t A q => XS.isub (g := mkF m pc ls (.int y :: .int x :: st)) A C.1 rfl (hb C.2.1 hd) rfl q
theorem r_imul {x y z : Int32} (C : Cx p c meth bytes maxL ret nm) (hd : decode bytes pc = .ok (.imul, 1)) (hp : pc + 1 = pc') (hz : x * y = z) (k : Run p l e R s m args below meth c Z own V n0 G h cells slots pc' ls (.int z :: st)) : Run p l e R s m args below meth c Z own V n0 G h cells slots pc ls (.int y :: .int x :: st) := by
  subst hp hz
  exact k.go fun T t A q => XS.imul (g := mkF m pc ls (.int y :: .int x :: st)) A C.1 rfl (hb C.2.1 hd) rfl q
theorem r_iand {x y z : Int32} (C : Cx p c meth bytes maxL ret nm) (hd : decode bytes pc = .ok (.iand, 1)) (hp : pc + 1 = pc') (hz : x &&& y = z) (k : Run p l e R s m args below meth c Z own V n0 G h cells slots pc' ls (.int z :: st)) : Run p l e R s m args below meth c Z own V n0 G h cells slots pc ls (.int y :: .int x :: st) := by
  subst hp hz
  exact k.go fun T t A q => XS.iand (g := mkF m pc ls (.int y :: .int x :: st)) A C.1 rfl (hb C.2.1 hd) rfl q
theorem r_ixor {x y z : Int32} (C : Cx p c meth bytes maxL ret nm) (hd : decode bytes pc = .ok (.ixor, 1)) (hp : pc + 1 = pc') (hz : x ^^^ y = z) (k : Run p l e R s m args below meth c Z own V n0 G h cells slots pc' ls (.int z :: st)) : Run p l e R s m args below meth c Z own V n0 G h cells slots pc ls (.int y :: .int x :: st) := by
  subst hp hz
  exact k.go fun T t A q => XT.ixor (g := mkF m pc ls (.int y :: .int x :: st)) A C.1 rfl (hb C.2.1 hd) rfl q
theorem r_ior {x y z : Int32} (C : Cx p c meth bytes maxL ret nm) (hd : decode bytes pc = .ok (.ior, 1)) (hp : pc + 1 = pc') (hz : x ||| y = z) (k : Run p l e R s m args below meth c Z own V n0 G h cells slots pc' ls (.int z :: st)) : Run p l e R s m args below meth c Z own V n0 G h cells slots pc ls (.int y :: .int x :: st) := by
  subst hp hz
  exact k.go fun T t A q => XT.ior (g := mkF m pc ls (.int y :: .int x :: st)) A C.1 rfl (hb C.2.1 hd) rfl q
theorem r_ishl {x y z : Int32} (C : Cx p c meth bytes maxL ret nm) (hd : decode bytes pc = .ok (.ishl, 1)) (hp : pc + 1 = pc') (hz : x <<< (y &&& 31) = z) (k : Run p l e R s m args below meth c Z own V n0 G h cells slots pc' ls (.int z :: st)) : Run p l e R s m args below meth c Z own V n0 G h cells slots pc ls (.int y :: .int x :: st) := by
  subst hp hz
  exact k.go fun T t A q => XT.ishl (g := mkF m pc ls (.int y :: .int x :: st)) A C.1 rfl (hb C.2.1 hd) rfl q
theorem r_ishr {x y z : Int32} (C : Cx p c meth bytes maxL ret nm) (hd : decode bytes pc = .ok (.ishr, 1)) (hp : pc + 1 = pc') (hz : x >>> (y &&& 31) = z) (k : Run p l e R s m args below meth c Z own V n0 G h cells slots pc' ls (.int z :: st)) : Run p l e R s m args below meth c Z own V n0 G h cells slots pc ls (.int y :: .int x :: st) := by
  subst hp hz
  exact k.go fun T t A q => XT.ishr (g := mkF m pc ls (.int y :: .int x :: st)) A C.1 rfl (hb C.2.1 hd) rfl q
theorem r_iushr {x y z : Int32} (C : Cx p c meth bytes maxL ret nm) (hd : decode bytes pc = .ok (.iushr, 1)) (hp : pc + 1 = pc') (hz : XT.ushr x y = z) (k : Run p l e R s m args below meth c Z own V n0 G h cells slots pc' ls (.int z :: st)) : Run p l e R s m args below meth c Z own V n0 G h cells slots pc ls (.int y :: .int x :: st) := by
  subst hp hz
  exact k.go fun T t A q => XT.iushr (g := mkF m pc ls (.int y :: .int x :: st)) A C.1 rfl (hb C.2.1 hd) rfl q
theorem r_ladd {x y z : Int64} (C : Cx p c meth bytes maxL ret nm) (hd : decode bytes pc = .ok (.ladd, 1)) (hp : pc + 1 = pc') (hz : x + y = z) (k : Run p l e R s m args below meth c Z own V n0 G h cells slots pc' ls (.long z :: st)) : Run p l e R s m args below meth c Z own V n0 G h cells slots pc ls (.long y :: .long x :: st) := by
  subst hp hz
  exact k.go fun T t A q => XT.ladd (g := mkF m pc ls (.long y :: .long x :: st)) A C.1 rfl (hb C.2.1 hd) rfl q
theorem r_lsub {x y z : Int64} (C : Cx p c meth bytes maxL ret nm) (hd : decode bytes pc = .ok (.lsub, 1)) (hp : pc + 1 = pc') (hz : x - y = z) (k : Run p l e R s m args below meth c Z own V n0 G h cells slots pc' ls (.long z :: st)) : Run p l e R s m args below meth c Z own V n0 G h cells slots pc ls (.long y :: .long x :: st) := by
  subst hp hz
  exact k.go fun T t A q => XT.lsub (g := mkF m pc ls (.long y :: .long x :: st)) A C.1 rfl (hb C.2.1 hd) rfl q
theorem r_lmul {x y z : Int64} (C : Cx p c meth bytes maxL ret nm) (hd : decode bytes pc = .ok (.lmul, 1)) (hp : pc + 1 = pc') (hz : x * y = z) (k : Run p l e R s m args below meth c Z own V n0 G h cells slots pc' ls (.long z :: st)) : Run p l e R s m args below meth c Z own V n0 G h cells slots pc ls (.long y :: .long x :: st) := by
  subst hp hz
  exact k.go fun T t A q => XT.lmul (g := mkF m pc ls (.long y :: .long x :: st)) A C.1 rfl (hb C.2.1 hd) rfl q
theorem r_land {x y z : Int64} (C : Cx p c meth bytes maxL ret nm) (hd : decode bytes pc = .ok (.land, 1)) (hp : pc + 1 = pc') (hz : x &&& y = z) (k : Run p l e R s m args below meth c Z own V n0 G h cells slots pc' ls (.long z :: st)) : Run p l e R s m args below meth c Z own V n0 G h cells slots pc ls (.long y :: .long x :: st) := by
  subst hp hz
  exact k.go fun T t A q => XT.land (g := mkF m pc ls (.long y :: .long x :: st)) A C.1 rfl (hb C.2.1 hd) rfl q
theorem r_lor {x y z : Int64} (C : Cx p c meth bytes maxL ret nm) (hd : decode bytes pc = .ok (.lor, 1)) (hp : pc + 1 = pc') (hz : x ||| y = z) (k : Run p l e R s m args below meth c Z own V n0 G h cells slots pc' ls (.long z :: st)) : Run p l e R s m args below meth c Z own V n0 G h cells slots pc ls (.long y :: .long x :: st) := by
  subst hp hz
  exact k.go fun T t A q => XT.lor (g := mkF m pc ls (.long y :: .long x :: st)) A C.1 rfl (hb C.2.1 hd) rfl q
theorem r_lxor {x y z : Int64} (C : Cx p c meth bytes maxL ret nm) (hd : decode bytes pc = .ok (.lxor, 1)) (hp : pc + 1 = pc') (hz : x ^^^ y = z) (k : Run p l e R s m args below meth c Z own V n0 G h cells slots pc' ls (.long z :: st)) : Run p l e R s m args below meth c Z own V n0 G h cells slots pc ls (.long y :: .long x :: st) := by
  subst hp hz
  exact k.go fun T t A q => XT.lxor (g := mkF m pc ls (.long y :: .long x :: st)) A C.1 rfl (hb C.2.1 hd) rfl q
theorem r_lshl {x z : Int64} {y : Int32} (C : Cx p c meth bytes maxL ret nm) (hd : decode bytes pc = .ok (.lshl, 1)) (hp : pc + 1 = pc') (hz : x <<< (y.toInt64 &&& 63) = z) (k : Run p l e R s m args below meth c Z own V n0 G h cells slots pc' ls (.long z :: st)) : Run p l e R s m args below meth c Z own V n0 G h cells slots pc ls (.int y :: .long x :: st) := by
  subst hp hz
  exact k.go fun T t A q => XT.lshl (g := mkF m pc ls (.int y :: .long x :: st)) A C.1 rfl (hb C.2.1 hd) rfl q
theorem r_lshr {x z : Int64} {y : Int32} (C : Cx p c meth bytes maxL ret nm) (hd : decode bytes pc = .ok (.lshr, 1)) (hp : pc + 1 = pc') (hz : x >>> (y.toInt64 &&& 63) = z) (k : Run p l e R s m args below meth c Z own V n0 G h cells slots pc' ls (.long z :: st)) : Run p l e R s m args below meth c Z own V n0 G h cells slots pc ls (.int y :: .long x :: st) := by
  subst hp hz
  exact k.go fun T t A q => XT.lshr (g := mkF m pc ls (.int y :: .long x :: st)) A C.1 rfl (hb C.2.1 hd) rfl q
theorem r_lushr {x z : Int64} {y : Int32} (C : Cx p c meth bytes maxL ret nm) (hd : decode bytes pc = .ok (.lushr, 1)) (hp : pc + 1 = pc') (hz : XT.ushrL x y = z) (k : Run p l e R s m args below meth c Z own V n0 G h cells slots pc' ls (.long z :: st)) : Run p l e R s m args below meth c Z own V n0 G h cells slots pc ls (.int y :: .long x :: st) := by
  subst hp hz
  exact k.go fun T t A q => XT.lushr (g := mkF m pc ls (.int y :: .long x :: st)) A C.1 rfl (hb C.2.1 hd) rfl q
theorem irem_mod (x y : Int32) : x - (x / y) * y = x % y := by
  have h : ∀ a b : Int, a - a.tdiv b * b = a.tmod b := fun a b => by have := Int.mul_tdiv_add_tmod a b; rw [Int.mul_comm] at this; omega
  by_cases hy : y = -1
  · subst hy
    apply Int32.toInt_inj.mp
    have h1 := c_isub x ((x / -1) * -1)
    have h2 := c_imul (x / -1) (-1)
    have h3 := c_idivM x (-1) rfl
    have h4 : (x % (-1 : Int32)).toInt = 0 := by rw [Int32.toInt_mod]; show x.toInt.tmod (-1) = 0; simp
    have h5 := rng32 (x - (x / -1) * -1)
    have h6 : ((-1 : Int32)).toInt = -1 := by decide
    rw [h6] at h2
    rw [h4]
    omega
  · apply Int32.toInt_inj.mp
    have h1 := c_isub x ((x / y) * y)
    have h2 := c_imul (x / y) y
    have h3 := Int32.toInt_div_of_ne_right x y hy
    have h4 := Int32.toInt_mod x y
    have h5 := rng32 (x - (x / y) * y)
    have h6 := rng32 (x % y)
    have h7 := h x.toInt y.toInt
    rw [h3] at h2
    rw [← h7] at h4
    omega
theorem r_idiv {x y z : Int32} (C : Cx p c meth bytes maxL ret nm) (hd : decode bytes pc = .ok (.idiv, 1)) (hp : pc + 1 = pc') (hy : y ≠ 0) (hz : x / y = z) (k : Run p l e R s m args below meth c Z own V n0 G h cells slots pc' ls (.int z :: st)) : Run p l e R s m args below meth c Z own V n0 G h cells slots pc ls (.int y :: .int x :: st) := by
  subst hp hz
  exact k.go fun T t A q => XS.idiv (g := mkF m pc ls (.int y :: .int x :: st)) A C.1 rfl (hb C.2.1 hd) rfl hy q
theorem r_irem {x y z : Int32} (C : Cx p c meth bytes maxL ret nm) (hd : decode bytes pc = .ok (.irem, 1)) (hp : pc + 1 = pc') (hy : y ≠ 0) (hz : x % y = z) (k : Run p l e R s m args below meth c Z own V n0 G h cells slots pc' ls (.int z :: st)) : Run p l e R s m args below meth c Z own V n0 G h cells slots pc ls (.int y :: .int x :: st) := by
  subst hp hz
  exact k.go fun T t A q => XS.irem (g := mkF m pc ls (.int y :: .int x :: st)) A C.1 rfl (hb C.2.1 hd) rfl hy (by rw [irem_mod]; exact q)
theorem r_ldiv {x y z : Int64} (C : Cx p c meth bytes maxL ret nm) (hd : decode bytes pc = .ok (.ldiv, 1)) (hp : pc + 1 = pc') (hy : y ≠ 0) (hz : x / y = z) (k : Run p l e R s m args below meth c Z own V n0 G h cells slots pc' ls (.long z :: st)) : Run p l e R s m args below meth c Z own V n0 G h cells slots pc ls (.long y :: .long x :: st) := by
  subst hp hz
  exact k.go fun T t A q => XT.ldiv (g := mkF m pc ls (.long y :: .long x :: st)) A C.1 rfl (hb C.2.1 hd) rfl hy q
theorem r_lrem {x y z : Int64} (C : Cx p c meth bytes maxL ret nm) (hd : decode bytes pc = .ok (.lrem, 1)) (hp : pc + 1 = pc') (hy : y ≠ 0) (hz : x % y = z) (k : Run p l e R s m args below meth c Z own V n0 G h cells slots pc' ls (.long z :: st)) : Run p l e R s m args below meth c Z own V n0 G h cells slots pc ls (.long y :: .long x :: st) := by
  subst hp hz
  exact k.go fun T t A q => XT.lrem (g := mkF m pc ls (.long y :: .long x :: st)) A C.1 rfl (hb C.2.1 hd) rfl hy (by rw [lrem_mod]; exact q)
theorem r_ineg {x z : Int32} (C : Cx p c meth bytes maxL ret nm) (hd : decode bytes pc = .ok (.ineg, 1)) (hp : pc + 1 = pc') (hz : -x = z) (k : Run p l e R s m args below meth c Z own V n0 G h cells slots pc' ls (.int z :: st)) : Run p l e R s m args below meth c Z own V n0 G h cells slots pc ls (.int x :: st) := by
  subst hp hz
  exact k.go fun T t A q => XS.ineg (g := mkF m pc ls (.int x :: st)) A C.1 rfl (hb C.2.1 hd) rfl q
theorem r_lneg {x z : Int64} (C : Cx p c meth bytes maxL ret nm) (hd : decode bytes pc = .ok (.lneg, 1)) (hp : pc + 1 = pc') (hz : -x = z) (k : Run p l e R s m args below meth c Z own V n0 G h cells slots pc' ls (.long z :: st)) : Run p l e R s m args below meth c Z own V n0 G h cells slots pc ls (.long x :: st) := by
  subst hp hz
  exact k.go fun T t A q => XT.lneg (g := mkF m pc ls (.long x :: st)) A C.1 rfl (hb C.2.1 hd) rfl q
theorem r_i2l {x : Int32} {z : Int64} (C : Cx p c meth bytes maxL ret nm) (hd : decode bytes pc = .ok (.i2l, 1)) (hp : pc + 1 = pc') (hz : x.toInt64 = z) (k : Run p l e R s m args below meth c Z own V n0 G h cells slots pc' ls (.long z :: st)) : Run p l e R s m args below meth c Z own V n0 G h cells slots pc ls (.int x :: st) := by
  subst hp hz
  exact k.go fun T t A q => XT.i2l (g := mkF m pc ls (.int x :: st)) A C.1 rfl (hb C.2.1 hd) rfl q
theorem r_l2i {x : Int64} {z : Int32} (C : Cx p c meth bytes maxL ret nm) (hd : decode bytes pc = .ok (.l2i, 1)) (hp : pc + 1 = pc') (hz : x.toInt32 = z) (k : Run p l e R s m args below meth c Z own V n0 G h cells slots pc' ls (.int z :: st)) : Run p l e R s m args below meth c Z own V n0 G h cells slots pc ls (.long x :: st) := by
  subst hp hz
  exact k.go fun T t A q => XT.l2i (g := mkF m pc ls (.long x :: st)) A C.1 rfl (hb C.2.1 hd) rfl q
theorem r_i2b {x : Int32} {z : Int32} (C : Cx p c meth bytes maxL ret nm) (hd : decode bytes pc = .ok (.i2b, 1)) (hp : pc + 1 = pc') (hz : x.toInt8.toInt32 = z) (k : Run p l e R s m args below meth c Z own V n0 G h cells slots pc' ls (.int z :: st)) : Run p l e R s m args below meth c Z own V n0 G h cells slots pc ls (.int x :: st) := by
  subst hp hz
  exact k.go fun T t A q => XT.i2b (g := mkF m pc ls (.int x :: st)) A C.1 rfl (hb C.2.1 hd) rfl q
theorem r_i2c {x : Int32} {z : Int32} (C : Cx p c meth bytes maxL ret nm) (hd : decode bytes pc = .ok (.i2c, 1)) (hp : pc + 1 = pc') (hz : x.toUInt32.toUInt16.toUInt32.toInt32 = z) (k : Run p l e R s m args below meth c Z own V n0 G h cells slots pc' ls (.int z :: st)) : Run p l e R s m args below meth c Z own V n0 G h cells slots pc ls (.int x :: st) := by
  subst hp hz
  exact k.go fun T t A q => XT.i2c (g := mkF m pc ls (.int x :: st)) A C.1 rfl (hb C.2.1 hd) rfl q
theorem r_i2s {x : Int32} {z : Int32} (C : Cx p c meth bytes maxL ret nm) (hd : decode bytes pc = .ok (.i2s, 1)) (hp : pc + 1 = pc') (hz : x.toInt16.toInt32 = z) (k : Run p l e R s m args below meth c Z own V n0 G h cells slots pc' ls (.int z :: st)) : Run p l e R s m args below meth c Z own V n0 G h cells slots pc ls (.int x :: st) := by
  subst hp hz
  exact k.go fun T t A q => XT.i2s (g := mkF m pc ls (.int x :: st)) A C.1 rfl (hb C.2.1 hd) rfl q
theorem r_iconst {i : Int} {z : Int32} (C : Cx p c meth bytes maxL ret nm) (hd : decode bytes pc = .ok (.iconst i, 1)) (hp : pc + 1 = pc') (hz : Int32.ofInt i = z) (k : Run p l e R s m args below meth c Z own V n0 G h cells slots pc' ls (.int z :: st)) : Run p l e R s m args below meth c Z own V n0 G h cells slots pc ls st := by
  subst hp hz
  exact k.go fun T t A q => XS.iconst (g := mkF m pc ls st) A C.1 rfl (hb C.2.1 hd) q
theorem r_bipush {i : Int} {z : Int32} (C : Cx p c meth bytes maxL ret nm) (hd : decode bytes pc = .ok (.bipush i, 2)) (hp : pc + 2 = pc') (hz : (Int8.ofInt i).toInt32 = z) (k : Run p l e R s m args below meth c Z own V n0 G h cells slots pc' ls (.int z :: st)) : Run p l e R s m args below meth c Z own V n0 G h cells slots pc ls st := by
  subst hp hz
  exact k.go fun T t A q => XS.bipush (g := mkF m pc ls st) A C.1 rfl (hb C.2.1 hd) q
theorem r_sipush {i : Int} {z : Int32} (C : Cx p c meth bytes maxL ret nm) (hd : decode bytes pc = .ok (.sipush i, 3)) (hp : pc + 3 = pc') (hz : (Int16.ofInt i).toInt32 = z) (k : Run p l e R s m args below meth c Z own V n0 G h cells slots pc' ls (.int z :: st)) : Run p l e R s m args below meth c Z own V n0 G h cells slots pc ls st := by
  subst hp hz
  exact k.go fun T t A q => XS.sipush (g := mkF m pc ls st) A C.1 rfl (hb C.2.1 hd) q
theorem r_lconst {i : Fin 2} {z : Int64} (C : Cx p c meth bytes maxL ret nm) (hd : decode bytes pc = .ok (.lconst i, 1)) (hp : pc + 1 = pc') (hz : Int64.ofNat i = z) (k : Run p l e R s m args below meth c Z own V n0 G h cells slots pc' ls (.long z :: st)) : Run p l e R s m args below meth c Z own V n0 G h cells slots pc ls st := by
  subst hp hz
  exact k.go fun T t A q => XT.lconst (g := mkF m pc ls st) A C.1 rfl (hb C.2.1 hd) q
theorem r_aconst_null  (C : Cx p c meth bytes maxL ret nm) (hd : decode bytes pc = .ok (.aconst_null, 1)) (hp : pc + 1 = pc')  (k : Run p l e R s m args below meth c Z own V n0 G h cells slots pc' ls (.null :: st)) : Run p l e R s m args below meth c Z own V n0 G h cells slots pc ls st := by
  subst hp
  exact k.go fun T t A q => XS.aconstNull (g := mkF m pc ls st) A C.1 rfl (hb C.2.1 hd) q
theorem r_iload_n {i : Fin 4} {x : Int32} (C : Cx p c meth bytes maxL ret nm) (hd : decode bytes pc = .ok (.iload_n i, 1)) (hp : pc + 1 = pc') (hl : ls[i.val]? = some (.val (.int x))) (k : Run p l e R s m args below meth c Z own V n0 G h cells slots pc' ls (.int x :: st)) : Run p l e R s m args below meth c Z own V n0 G h cells slots pc ls st := by
  subst hp
  exact k.go fun T t A q => XS.iloadN (g := mkF m pc ls st) A C.1 rfl (hb C.2.1 hd) hl q
theorem r_iload {i : Nat} {x : Int32} (C : Cx p c meth bytes maxL ret nm) (hd : decode bytes pc = .ok (.iload i, 2)) (hp : pc + 2 = pc') (hl : ls[i]? = some (.val (.int x))) (k : Run p l e R s m args below meth c Z own V n0 G h cells slots pc' ls (.int x :: st)) : Run p l e R s m args below meth c Z own V n0 G h cells slots pc ls st := by
  subst hp
  exact k.go fun T t A q => XS.iload (g := mkF m pc ls st) A C.1 rfl (hb C.2.1 hd) hl q
theorem r_istore_n {i : Fin 4} {x : Int32} (C : Cx p c meth bytes maxL ret nm) (hd : decode bytes pc = .ok (.istore_n i, 1)) (hp : pc + 1 = pc') (hl : storeLocals ls i.val (.int x) = some ls') (k : Run p l e R s m args below meth c Z own V n0 G h cells slots pc' ls' st) : Run p l e R s m args below meth c Z own V n0 G h cells slots pc ls (.int x :: st) := by
  subst hp
  exact k.go fun T t A q => XS.istoreN (g := mkF m pc ls (.int x :: st)) A C.1 rfl (hb C.2.1 hd) rfl hl q
theorem r_istore {i : Nat} {x : Int32} (C : Cx p c meth bytes maxL ret nm) (hd : decode bytes pc = .ok (.istore i, 2)) (hp : pc + 2 = pc') (hl : storeLocals ls i (.int x) = some ls') (k : Run p l e R s m args below meth c Z own V n0 G h cells slots pc' ls' st) : Run p l e R s m args below meth c Z own V n0 G h cells slots pc ls (.int x :: st) := by
  subst hp
  exact k.go fun T t A q => XS.istore (g := mkF m pc ls (.int x :: st)) A C.1 rfl (hb C.2.1 hd) rfl hl q
theorem r_lload_n {i : Fin 4} {x : Int64} (C : Cx p c meth bytes maxL ret nm) (hd : decode bytes pc = .ok (.lload_n i, 1)) (hp : pc + 1 = pc') (hl : ls[i.val]? = some (.val (.long x))) (k : Run p l e R s m args below meth c Z own V n0 G h cells slots pc' ls (.long x :: st)) : Run p l e R s m args below meth c Z own V n0 G h cells slots pc ls st := by
  subst hp
  exact k.go fun T t A q => XT.lloadN (g := mkF m pc ls st) A C.1 rfl (hb C.2.1 hd) hl q
theorem r_lload {i : Nat} {x : Int64} (C : Cx p c meth bytes maxL ret nm) (hd : decode bytes pc = .ok (.lload i, 2)) (hp : pc + 2 = pc') (hl : ls[i]? = some (.val (.long x))) (k : Run p l e R s m args below meth c Z own V n0 G h cells slots pc' ls (.long x :: st)) : Run p l e R s m args below meth c Z own V n0 G h cells slots pc ls st := by
  subst hp
  exact k.go fun T t A q => XT.lload (g := mkF m pc ls st) A C.1 rfl (hb C.2.1 hd) hl q
theorem r_lstore_n {i : Fin 4} {x : Int64} (C : Cx p c meth bytes maxL ret nm) (hd : decode bytes pc = .ok (.lstore_n i, 1)) (hp : pc + 1 = pc') (hl : storeLocals ls i.val (.long x) = some ls') (k : Run p l e R s m args below meth c Z own V n0 G h cells slots pc' ls' st) : Run p l e R s m args below meth c Z own V n0 G h cells slots pc ls (.long x :: st) := by
  subst hp
  exact k.go fun T t A q => XT.lstoreN (g := mkF m pc ls (.long x :: st)) A C.1 rfl (hb C.2.1 hd) rfl hl q
theorem r_lstore {i : Nat} {x : Int64} (C : Cx p c meth bytes maxL ret nm) (hd : decode bytes pc = .ok (.lstore i, 2)) (hp : pc + 2 = pc') (hl : storeLocals ls i (.long x) = some ls') (k : Run p l e R s m args below meth c Z own V n0 G h cells slots pc' ls' st) : Run p l e R s m args below meth c Z own V n0 G h cells slots pc ls (.long x :: st) := by
  subst hp
  exact k.go fun T t A q => XT.lstore (g := mkF m pc ls (.long x :: st)) A C.1 rfl (hb C.2.1 hd) rfl hl q
theorem r_aload_n {i : Fin 4} {x : Value} (C : Cx p c meth bytes maxL ret nm) (hd : decode bytes pc = .ok (.aload_n i, 1)) (hp : pc + 1 = pc') (hl : ls[i.val]? = some (.val x)) (hv : x.isRef = true) (k : Run p l e R s m args below meth c Z own V n0 G h cells slots pc' ls (x :: st)) : Run p l e R s m args below meth c Z own V n0 G h cells slots pc ls st := by
  subst hp
  exact k.go fun T t A q => XS.aloadN (g := mkF m pc ls st) A C.1 rfl (hb C.2.1 hd) hl hv q
theorem r_aload {i : Nat} {x : Value} (C : Cx p c meth bytes maxL ret nm) (hd : decode bytes pc = .ok (.aload i, 2)) (hp : pc + 2 = pc') (hl : ls[i]? = some (.val x)) (hv : x.isRef = true) (k : Run p l e R s m args below meth c Z own V n0 G h cells slots pc' ls (x :: st)) : Run p l e R s m args below meth c Z own V n0 G h cells slots pc ls st := by
  subst hp
  exact k.go fun T t A q => XS.aload (g := mkF m pc ls st) A C.1 rfl (hb C.2.1 hd) hl hv q
theorem r_astore_n {i : Fin 4} {x : Value} (C : Cx p c meth bytes maxL ret nm) (hd : decode bytes pc = .ok (.astore_n i, 1)) (hp : pc + 1 = pc') (hv : x.isRef = true) (hl : storeLocals ls i.val x = some ls') (k : Run p l e R s m args below meth c Z own V n0 G h cells slots pc' ls' st) : Run p l e R s m args below meth c Z own V n0 G h cells slots pc ls (x :: st) := by
  subst hp
  exact k.go fun T t A q => XS.astoreN (g := mkF m pc ls (x :: st)) A C.1 rfl (hb C.2.1 hd) rfl hv hl q
theorem r_astore {i : Nat} {x : Value} (C : Cx p c meth bytes maxL ret nm) (hd : decode bytes pc = .ok (.astore i, 2)) (hp : pc + 2 = pc') (hv : x.isRef = true) (hl : storeLocals ls i x = some ls') (k : Run p l e R s m args below meth c Z own V n0 G h cells slots pc' ls' st) : Run p l e R s m args below meth c Z own V n0 G h cells slots pc ls (x :: st) := by
  subst hp
  exact k.go fun T t A q => XS.astore (g := mkF m pc ls (x :: st)) A C.1 rfl (hb C.2.1 hd) rfl hv hl q
theorem r_iinc {i : Nat} {cst : Int} {x z : Int32} (C : Cx p c meth bytes maxL ret nm) (hd : decode bytes pc = .ok (.iinc i cst, 3)) (hp : pc + 3 = pc') (hl : ls[i]? = some (.val (.int x))) (hz : x + Int32.ofInt cst = z) (hl' : storeLocals ls i (.int z) = some ls') (k : Run p l e R s m args below meth c Z own V n0 G h cells slots pc' ls' st) : Run p l e R s m args below meth c Z own V n0 G h cells slots pc ls st := by
  subst hp hz
  exact k.go fun T t A q => XS.iinc (g := mkF m pc ls st) A C.1 rfl (hb C.2.1 hd) hl hl' q
theorem r_pop {x : Value} (C : Cx p c meth bytes maxL ret nm) (hd : decode bytes pc = .ok (.pop, 1)) (hp : pc + 1 = pc') (hc : x.category = 1) (k : Run p l e R s m args below meth c Z own V n0 G h cells slots pc' ls st) : Run p l e R s m args below meth c Z own V n0 G h cells slots pc ls (x :: st) := by
  subst hp
  exact k.go fun T t A q => XT.pop (g := mkF m pc ls (x :: st)) A C.1 rfl (hb C.2.1 hd) rfl hc q
theorem r_dup {x : Value} (C : Cx p c meth bytes maxL ret nm) (hd : decode bytes pc = .ok (.dup, 1)) (hp : pc + 1 = pc') (hc : x.category = 1) (k : Run p l e R s m args below meth c Z own V n0 G h cells slots pc' ls (x :: x :: st)) : Run p l e R s m args below meth c Z own V n0 G h cells slots pc ls (x :: st) := by
  subst hp
  exact k.go fun T t A q => XS.dup (g := mkF m pc ls (x :: st)) A C.1 rfl (hb C.2.1 hd) rfl hc q
theorem r_dup_x1 {x y : Value} (C : Cx p c meth bytes maxL ret nm) (hd : decode bytes pc = .ok (.dup_x1, 1)) (hp : pc + 1 = pc') (hc : x.category = 1) (hc' : y.category = 1) (k : Run p l e R s m args below meth c Z own V n0 G h cells slots pc' ls (x :: y :: x :: st)) : Run p l e R s m args below meth c Z own V n0 G h cells slots pc ls (x :: y :: st) := by
  subst hp
  exact k.go fun T t A q => XT.dupX1 (g := mkF m pc ls (x :: y :: st)) A C.1 rfl (hb C.2.1 hd) rfl hc hc' q
theorem r_dup2 {x y : Value} (C : Cx p c meth bytes maxL ret nm) (hd : decode bytes pc = .ok (.dup2, 1)) (hp : pc + 1 = pc') (hc : x.category = 1) (hc' : y.category = 1) (k : Run p l e R s m args below meth c Z own V n0 G h cells slots pc' ls (x :: y :: x :: y :: st)) : Run p l e R s m args below meth c Z own V n0 G h cells slots pc ls (x :: y :: st) := by
  subst hp
  exact k.go fun T t A q => XT.dup2 (g := mkF m pc ls (x :: y :: st)) A C.1 rfl (hb C.2.1 hd) rfl hc hc' q
theorem r_dup2L {x : Int64} (C : Cx p c meth bytes maxL ret nm) (hd : decode bytes pc = .ok (.dup2, 1)) (hp : pc + 1 = pc')  (k : Run p l e R s m args below meth c Z own V n0 G h cells slots pc' ls (.long x :: .long x :: st)) : Run p l e R s m args below meth c Z own V n0 G h cells slots pc ls (.long x :: st) := by
  subst hp
  exact k.go fun T t A q => XT.dup2L (g := mkF m pc ls (.long x :: st)) A C.1 rfl (hb C.2.1 hd) rfl q
theorem toN {a : Nat} {o : Int} {b : Nat} (h : (a : Int) + o = (b : Int)) : 0 ≤ (a : Int) + o ∧ ((a : Int) + o).toNat = b := by omega
theorem r_goto {o : Int} (C : Cx p c meth bytes maxL ret nm) (hd : decode bytes pc = .ok (.goto o, 3)) (hp : (pc : Int) + o = (pc' : Int)) (k : Run p l e R s m args below meth c Z own V n0 G h cells slots pc' ls st) : Run p l e R s m args below meth c Z own V n0 G h cells slots pc ls st :=
  k.go fun T t A q => XS.goto (g := mkF m pc ls st) A C.1 rfl (pc0 := pc) (pc' := pc') rfl (hb C.2.1 hd) (toN hp).1 (toN hp).2 q
theorem r_icmp {x y : Int32} {cd : ClassFile.Cond} {o : Int} {pcT pcF : Nat} (C : Cx p c meth bytes maxL ret nm) (hd : decode bytes pc = .ok (.if_icmp cd o, 3)) (hT : (pc : Int) + o = (pcT : Int)) (hF : pc + 3 = pcF) (kT : if_icmp.holds cd x y = true → Run p l e R s m args below meth c Z own V n0 G h cells slots pcT ls st) (kF : if_icmp.holds cd x y = false → Run p l e R s m args below meth c Z own V n0 G h cells slots pcF ls st) : Run p l e R s m args below meth c Z own V n0 G h cells slots pc ls (.int y :: .int x :: st) := by
  subst hF
  cases hc : if_icmp.holds cd x y
  · exact (kF hc).go fun T t A q => XS.icmpNo (g := mkF m pc ls (.int y :: .int x :: st)) A C.1 rfl (hb C.2.1 hd) rfl hc q
  · exact (kT hc).go fun T t A q => XS.icmpYes (g := mkF m pc ls (.int y :: .int x :: st)) A C.1 rfl (pc0 := pc) (pc' := pcT) rfl (hb C.2.1 hd) rfl hc (toN hT).1 (toN hT).2 q
theorem r_if {x : Int32} {cd : ClassFile.Cond} {o : Int} {pcT pcF : Nat} (C : Cx p c meth bytes maxL ret nm) (hd : decode bytes pc = .ok (.ifCond cd o, 3)) (hT : (pc : Int) + o = (pcT : Int)) (hF : pc + 3 = pcF) (kT : ifCond.holds cd x = true → Run p l e R s m args below meth c Z own V n0 G h cells slots pcT ls st) (kF : ifCond.holds cd x = false → Run p l e R s m args below meth c Z own V n0 G h cells slots pcF ls st) : Run p l e R s m args below meth c Z own V n0 G h cells slots pc ls (.int x :: st) := by
  subst hF
  cases hc : ifCond.holds cd x
  · exact (kF hc).go fun T t A q => XS.ifNo (g := mkF m pc ls (.int x :: st)) A C.1 rfl (hb C.2.1 hd) rfl hc q
  · exact (kT hc).go fun T t A q => XS.ifYes (g := mkF m pc ls (.int x :: st)) A C.1 rfl (pc0 := pc) (pc' := pcT) rfl (hb C.2.1 hd) rfl hc (toN hT).1 (toN hT).2 q
theorem tf {P : Prop} {b : Bool} (h1 : P → b = true) (h2 : ¬ P → b = false) : (b = true → P) ∧ (b = false → ¬ P) := ⟨fun h => Classical.byContradiction fun q => (by rw [h2 q] at h; cases h), fun h q => (by rw [h1 q] at h; cases h)⟩
theorem lt32 {x y : Int32} : x < y ↔ x.toInt < y.toInt := Int32.lt_iff_toInt_lt
theorem nlt32 {x y : Int32} : ¬ x < y ↔ y.toInt ≤ x.toInt := by rw [lt32]; omega
theorem lt64 {x y : Int64} : x < y ↔ x.toInt < y.toInt := Int64.lt_iff_toInt_lt
theorem nlt64 {x y : Int64} : ¬ x < y ↔ y.toInt ≤ x.toInt := by rw [lt64]; omega
theorem r_icmplt {x y : Int32} {o : Int} {pcT pcF : Nat} (C : Cx p c meth bytes maxL ret nm) (hd : decode bytes pc = .ok (.if_icmp .lt o, 3)) (hT : (pc : Int) + o = (pcT : Int)) (hF : pc + 3 = pcF) (kT : x.toInt < y.toInt → Run p l e R s m args below meth c Z own V n0 G h cells slots pcT ls st) (kF : y.toInt ≤ x.toInt → Run p l e R s m args below meth c Z own V n0 G h cells slots pcF ls st) : Run p l e R s m args below meth c Z own V n0 G h cells slots pc ls (.int y :: .int x :: st) :=
  r_icmp C hd hT hF (fun hc => kT (lt32.mp ((tf (P := x < y) XT.ii_lt_t XT.ii_lt_f).1 hc))) (fun hc => kF (nlt32.mp ((tf (P := x < y) XT.ii_lt_t XT.ii_lt_f).2 hc)))
theorem r_iflt {x : Int32} {o : Int} {pcT pcF : Nat} (C : Cx p c meth bytes maxL ret nm) (hd : decode bytes pc = .ok (.ifCond .lt o, 3)) (hT : (pc : Int) + o = (pcT : Int)) (hF : pc + 3 = pcF) (kT : x.toInt < 0 → Run p l e R s m args below meth c Z own V n0 G h cells slots pcT ls st) (kF : 0 ≤ x.toInt → Run p l e R s m args below meth c Z own V n0 G h cells slots pcF ls st) : Run p l e R s m args below meth c Z own V n0 G h cells slots pc ls (.int x :: st) :=
  r_if C hd hT hF (fun hc => kT (lt32.mp ((tf (P := x < (0 : Int32)) XT.i0_lt_t XT.i0_lt_f).1 hc))) (fun hc => kF (nlt32.mp ((tf (P := x < (0 : Int32)) XT.i0_lt_t XT.i0_lt_f).2 hc)))
theorem r_lcmplt {x y : Int64} {o : Int} {pcT pcF : Nat} (C : Cx p c meth bytes maxL ret nm) (hd0 : decode bytes pc = .ok (.lcmp, 1)) (hp : pc + 1 = pc') (hd : decode bytes pc' = .ok (.ifCond .lt o, 3)) (hT : (pc' : Int) + o = (pcT : Int)) (hF : pc' + 3 = pcF) (kT : x.toInt < y.toInt → Run p l e R s m args below meth c Z own V n0 G h cells slots pcT ls st) (kF : y.toInt ≤ x.toInt → Run p l e R s m args below meth c Z own V n0 G h cells slots pcF ls st) : Run p l e R s m args below meth c Z own V n0 G h cells slots pc ls (.long y :: .long x :: st) := by
  subst hp
  exact (r_if (x := XT.cmpL x y) C hd hT hF (fun hc => kT (lt64.mp ((tf (P := x < y) XT.ll_lt_t XT.ll_lt_f).1 hc))) (fun hc => kF (nlt64.mp ((tf (P := x < y) XT.ll_lt_t XT.ll_lt_f).2 hc)))).go fun T t A q => XT.lcmp (g := mkF m pc ls (.long y :: .long x :: st)) A C.1 rfl (hb C.2.1 hd0) rfl q
theorem r_icmpge {x y : Int32} {o : Int} {pcT pcF : Nat} (C : Cx p c meth bytes maxL ret nm) (hd : decode bytes pc = .ok (.if_icmp .ge o, 3)) (hT : (pc : Int) + o = (pcT : Int)) (hF : pc + 3 = pcF) (kT : y.toInt ≤ x.toInt → Run p l e R s m args below meth c Z own V n0 G h cells slots pcT ls st) (kF : x.toInt < y.toInt → Run p l e R s m args below meth c Z own V n0 G h cells slots pcF ls st) : Run p l e R s m args below meth c Z own V n0 G h cells slots pc ls (.int y :: .int x :: st) :=
  r_icmp C hd hT hF (fun hc => kT (nlt32.mp ((tf (P := ¬ x < y) XT.ii_ge_t (fun q => XT.ii_ge_f (Classical.not_not.mp q))).1 hc))) (fun hc => kF (lt32.mp (Classical.not_not.mp ((tf (P := ¬ x < y) XT.ii_ge_t (fun q => XT.ii_ge_f (Classical.not_not.mp q))).2 hc))))
theorem r_ifge {x : Int32} {o : Int} {pcT pcF : Nat} (C : Cx p c meth bytes maxL ret nm) (hd : decode bytes pc = .ok (.ifCond .ge o, 3)) (hT : (pc : Int) + o = (pcT : Int)) (hF : pc + 3 = pcF) (kT : 0 ≤ x.toInt → Run p l e R s m args below meth c Z own V n0 G h cells slots pcT ls st) (kF : x.toInt < 0 → Run p l e R s m args below meth c Z own V n0 G h cells slots pcF ls st) : Run p l e R s m args below meth c Z own V n0 G h cells slots pc ls (.int x :: st) :=
  r_if C hd hT hF (fun hc => kT (nlt32.mp ((tf (P := ¬ x < (0 : Int32)) XT.i0_ge_t (fun q => XT.i0_ge_f (Classical.not_not.mp q))).1 hc))) (fun hc => kF (lt32.mp (Classical.not_not.mp ((tf (P := ¬ x < (0 : Int32)) XT.i0_ge_t (fun q => XT.i0_ge_f (Classical.not_not.mp q))).2 hc))))
theorem r_lcmpge {x y : Int64} {o : Int} {pcT pcF : Nat} (C : Cx p c meth bytes maxL ret nm) (hd0 : decode bytes pc = .ok (.lcmp, 1)) (hp : pc + 1 = pc') (hd : decode bytes pc' = .ok (.ifCond .ge o, 3)) (hT : (pc' : Int) + o = (pcT : Int)) (hF : pc' + 3 = pcF) (kT : y.toInt ≤ x.toInt → Run p l e R s m args below meth c Z own V n0 G h cells slots pcT ls st) (kF : x.toInt < y.toInt → Run p l e R s m args below meth c Z own V n0 G h cells slots pcF ls st) : Run p l e R s m args below meth c Z own V n0 G h cells slots pc ls (.long y :: .long x :: st) := by
  subst hp
  exact (r_if (x := XT.cmpL x y) C hd hT hF (fun hc => kT (nlt64.mp ((tf (P := ¬ x < y) XT.ll_ge_t (fun q => XT.ll_ge_f (Classical.not_not.mp q))).1 hc))) (fun hc => kF (lt64.mp (Classical.not_not.mp ((tf (P := ¬ x < y) XT.ll_ge_t (fun q => XT.ll_ge_f (Classical.not_not.mp q))).2 hc))))).go fun T t A q => XT.lcmp (g := mkF m pc ls (.long y :: .long x :: st)) A C.1 rfl (hb C.2.1 hd0) rfl q
theorem r_icmpgt {x y : Int32} {o : Int} {pcT pcF : Nat} (C : Cx p c meth bytes maxL ret nm) (hd : decode bytes pc = .ok (.if_icmp .gt o, 3)) (hT : (pc : Int) + o = (pcT : Int)) (hF : pc + 3 = pcF) (kT : y.toInt < x.toInt → Run p l e R s m args below meth c Z own V n0 G h cells slots pcT ls st) (kF : x.toInt ≤ y.toInt → Run p l e R s m args below meth c Z own V n0 G h cells slots pcF ls st) : Run p l e R s m args below meth c Z own V n0 G h cells slots pc ls (.int y :: .int x :: st) :=
  r_icmp C hd hT hF (fun hc => kT (lt32.mp ((tf (P := y < x) XT.ii_gt_t XT.ii_gt_f).1 hc))) (fun hc => kF (nlt32.mp ((tf (P := y < x) XT.ii_gt_t XT.ii_gt_f).2 hc)))
theorem r_ifgt {x : Int32} {o : Int} {pcT pcF : Nat} (C : Cx p c meth bytes maxL ret nm) (hd : decode bytes pc = .ok (.ifCond .gt o, 3)) (hT : (pc : Int) + o = (pcT : Int)) (hF : pc + 3 = pcF) (kT : 0 < x.toInt → Run p l e R s m args below meth c Z own V n0 G h cells slots pcT ls st) (kF : x.toInt ≤ 0 → Run p l e R s m args below meth c Z own V n0 G h cells slots pcF ls st) : Run p l e R s m args below meth c Z own V n0 G h cells slots pc ls (.int x :: st) :=
  r_if C hd hT hF (fun hc => kT (lt32.mp ((tf (P := (0 : Int32) < x) XT.i0_gt_t XT.i0_gt_f).1 hc))) (fun hc => kF (nlt32.mp ((tf (P := (0 : Int32) < x) XT.i0_gt_t XT.i0_gt_f).2 hc)))
theorem r_lcmpgt {x y : Int64} {o : Int} {pcT pcF : Nat} (C : Cx p c meth bytes maxL ret nm) (hd0 : decode bytes pc = .ok (.lcmp, 1)) (hp : pc + 1 = pc') (hd : decode bytes pc' = .ok (.ifCond .gt o, 3)) (hT : (pc' : Int) + o = (pcT : Int)) (hF : pc' + 3 = pcF) (kT : y.toInt < x.toInt → Run p l e R s m args below meth c Z own V n0 G h cells slots pcT ls st) (kF : x.toInt ≤ y.toInt → Run p l e R s m args below meth c Z own V n0 G h cells slots pcF ls st) : Run p l e R s m args below meth c Z own V n0 G h cells slots pc ls (.long y :: .long x :: st) := by
  subst hp
  exact (r_if (x := XT.cmpL x y) C hd hT hF (fun hc => kT (lt64.mp ((tf (P := y < x) XT.ll_gt_t XT.ll_gt_f).1 hc))) (fun hc => kF (nlt64.mp ((tf (P := y < x) XT.ll_gt_t XT.ll_gt_f).2 hc)))).go fun T t A q => XT.lcmp (g := mkF m pc ls (.long y :: .long x :: st)) A C.1 rfl (hb C.2.1 hd0) rfl q
theorem r_icmple {x y : Int32} {o : Int} {pcT pcF : Nat} (C : Cx p c meth bytes maxL ret nm) (hd : decode bytes pc = .ok (.if_icmp .le o, 3)) (hT : (pc : Int) + o = (pcT : Int)) (hF : pc + 3 = pcF) (kT : x.toInt ≤ y.toInt → Run p l e R s m args below meth c Z own V n0 G h cells slots pcT ls st) (kF : y.toInt < x.toInt → Run p l e R s m args below meth c Z own V n0 G h cells slots pcF ls st) : Run p l e R s m args below meth c Z own V n0 G h cells slots pc ls (.int y :: .int x :: st) :=
  r_icmp C hd hT hF (fun hc => kT (nlt32.mp ((tf (P := ¬ y < x) XT.ii_le_t (fun q => XT.ii_le_f (Classical.not_not.mp q))).1 hc))) (fun hc => kF (lt32.mp (Classical.not_not.mp ((tf (P := ¬ y < x) XT.ii_le_t (fun q => XT.ii_le_f (Classical.not_not.mp q))).2 hc))))
theorem r_ifle {x : Int32} {o : Int} {pcT pcF : Nat} (C : Cx p c meth bytes maxL ret nm) (hd : decode bytes pc = .ok (.ifCond .le o, 3)) (hT : (pc : Int) + o = (pcT : Int)) (hF : pc + 3 = pcF) (kT : x.toInt ≤ 0 → Run p l e R s m args below meth c Z own V n0 G h cells slots pcT ls st) (kF : 0 < x.toInt → Run p l e R s m args below meth c Z own V n0 G h cells slots pcF ls st) : Run p l e R s m args below meth c Z own V n0 G h cells slots pc ls (.int x :: st) :=
  r_if C hd hT hF (fun hc => kT (nlt32.mp ((tf (P := ¬ (0 : Int32) < x) XT.i0_le_t (fun q => XT.i0_le_f (Classical.not_not.mp q))).1 hc))) (fun hc => kF (lt32.mp (Classical.not_not.mp ((tf (P := ¬ (0 : Int32) < x) XT.i0_le_t (fun q => XT.i0_le_f (Classical.not_not.mp q))).2 hc))))
theorem r_lcmple {x y : Int64} {o : Int} {pcT pcF : Nat} (C : Cx p c meth bytes maxL ret nm) (hd0 : decode bytes pc = .ok (.lcmp, 1)) (hp : pc + 1 = pc') (hd : decode bytes pc' = .ok (.ifCond .le o, 3)) (hT : (pc' : Int) + o = (pcT : Int)) (hF : pc' + 3 = pcF) (kT : x.toInt ≤ y.toInt → Run p l e R s m args below meth c Z own V n0 G h cells slots pcT ls st) (kF : y.toInt < x.toInt → Run p l e R s m args below meth c Z own V n0 G h cells slots pcF ls st) : Run p l e R s m args below meth c Z own V n0 G h cells slots pc ls (.long y :: .long x :: st) := by
  subst hp
  exact (r_if (x := XT.cmpL x y) C hd hT hF (fun hc => kT (nlt64.mp ((tf (P := ¬ y < x) XT.ll_le_t (fun q => XT.ll_le_f (Classical.not_not.mp q))).1 hc))) (fun hc => kF (lt64.mp (Classical.not_not.mp ((tf (P := ¬ y < x) XT.ll_le_t (fun q => XT.ll_le_f (Classical.not_not.mp q))).2 hc))))).go fun T t A q => XT.lcmp (g := mkF m pc ls (.long y :: .long x :: st)) A C.1 rfl (hb C.2.1 hd0) rfl q
theorem r_icmpeq {x y : Int32} {o : Int} {pcT pcF : Nat} (C : Cx p c meth bytes maxL ret nm) (hd : decode bytes pc = .ok (.if_icmp .eq o, 3)) (hT : (pc : Int) + o = (pcT : Int)) (hF : pc + 3 = pcF) (kT : x = y → Run p l e R s m args below meth c Z own V n0 G h cells slots pcT ls st) (kF : ¬ x = y → Run p l e R s m args below meth c Z own V n0 G h cells slots pcF ls st) : Run p l e R s m args below meth c Z own V n0 G h cells slots pc ls (.int y :: .int x :: st) :=
  r_icmp C hd hT hF (fun hc => kT ((tf (P := x = y) XT.ii_eq_t XT.ii_eq_f).1 hc)) (fun hc => kF ((tf (P := x = y) XT.ii_eq_t XT.ii_eq_f).2 hc))
theorem r_ifeq {x : Int32} {o : Int} {pcT pcF : Nat} (C : Cx p c meth bytes maxL ret nm) (hd : decode bytes pc = .ok (.ifCond .eq o, 3)) (hT : (pc : Int) + o = (pcT : Int)) (hF : pc + 3 = pcF) (kT : x = 0 → Run p l e R s m args below meth c Z own V n0 G h cells slots pcT ls st) (kF : ¬ x = 0 → Run p l e R s m args below meth c Z own V n0 G h cells slots pcF ls st) : Run p l e R s m args below meth c Z own V n0 G h cells slots pc ls (.int x :: st) :=
  r_if C hd hT hF (fun hc => kT ((tf (P := x = 0) XT.i0_eq_t XT.i0_eq_f).1 hc)) (fun hc => kF ((tf (P := x = 0) XT.i0_eq_t XT.i0_eq_f).2 hc))
theorem r_lcmpeq {x y : Int64} {o : Int} {pcT pcF : Nat} (C : Cx p c meth bytes maxL ret nm) (hd0 : decode bytes pc = .ok (.lcmp, 1)) (hp : pc + 1 = pc') (hd : decode bytes pc' = .ok (.ifCond .eq o, 3)) (hT : (pc' : Int) + o = (pcT : Int)) (hF : pc' + 3 = pcF) (kT : x = y → Run p l e R s m args below meth c Z own V n0 G h cells slots pcT ls st) (kF : ¬ x = y → Run p l e R s m args below meth c Z own V n0 G h cells slots pcF ls st) : Run p l e R s m args below meth c Z own V n0 G h cells slots pc ls (.long y :: .long x :: st) := by
  subst hp
  exact (r_if (x := XT.cmpL x y) C hd hT hF (fun hc => kT ((tf (P := x = y) XT.ll_eq_t XT.ll_eq_f).1 hc)) (fun hc => kF ((tf (P := x = y) XT.ll_eq_t XT.ll_eq_f).2 hc))).go fun T t A q => XT.lcmp (g := mkF m pc ls (.long y :: .long x :: st)) A C.1 rfl (hb C.2.1 hd0) rfl q
theorem r_icmpne {x y : Int32} {o : Int} {pcT pcF : Nat} (C : Cx p c meth bytes maxL ret nm) (hd : decode bytes pc = .ok (.if_icmp .ne o, 3)) (hT : (pc : Int) + o = (pcT : Int)) (hF : pc + 3 = pcF) (kT : ¬ x = y → Run p l e R s m args below meth c Z own V n0 G h cells slots pcT ls st) (kF : x = y → Run p l e R s m args below meth c Z own V n0 G h cells slots pcF ls st) : Run p l e R s m args below meth c Z own V n0 G h cells slots pc ls (.int y :: .int x :: st) :=
  r_icmp C hd hT hF (fun hc => kT ((tf (P := ¬ x = y) XT.ii_ne_t (fun q => XT.ii_ne_f (Classical.not_not.mp q))).1 hc)) (fun hc => kF (Classical.not_not.mp ((tf (P := ¬ x = y) XT.ii_ne_t (fun q => XT.ii_ne_f (Classical.not_not.mp q))).2 hc)))
theorem r_ifne {x : Int32} {o : Int} {pcT pcF : Nat} (C : Cx p c meth bytes maxL ret nm) (hd : decode bytes pc = .ok (.ifCond .ne o, 3)) (hT : (pc : Int) + o = (pcT : Int)) (hF : pc + 3 = pcF) (kT : ¬ x = 0 → Run p l e R s m args below meth c Z own V n0 G h cells slots pcT ls st) (kF : x = 0 → Run p l e R s m args below meth c Z own V n0 G h cells slots pcF ls st) : Run p l e R s m args below meth c Z own V n0 G h cells slots pc ls (.int x :: st) :=
  r_if C hd hT hF (fun hc => kT ((tf (P := ¬ x = 0) XT.i0_ne_t (fun q => XT.i0_ne_f (Classical.not_not.mp q))).1 hc)) (fun hc => kF (Classical.not_not.mp ((tf (P := ¬ x = 0) XT.i0_ne_t (fun q => XT.i0_ne_f (Classical.not_not.mp q))).2 hc)))
theorem r_lcmpne {x y : Int64} {o : Int} {pcT pcF : Nat} (C : Cx p c meth bytes maxL ret nm) (hd0 : decode bytes pc = .ok (.lcmp, 1)) (hp : pc + 1 = pc') (hd : decode bytes pc' = .ok (.ifCond .ne o, 3)) (hT : (pc' : Int) + o = (pcT : Int)) (hF : pc' + 3 = pcF) (kT : ¬ x = y → Run p l e R s m args below meth c Z own V n0 G h cells slots pcT ls st) (kF : x = y → Run p l e R s m args below meth c Z own V n0 G h cells slots pcF ls st) : Run p l e R s m args below meth c Z own V n0 G h cells slots pc ls (.long y :: .long x :: st) := by
  subst hp
  exact (r_if (x := XT.cmpL x y) C hd hT hF (fun hc => kT ((tf (P := ¬ x = y) XT.ll_ne_t (fun q => XT.ll_ne_f (Classical.not_not.mp q))).1 hc)) (fun hc => kF (Classical.not_not.mp ((tf (P := ¬ x = y) XT.ll_ne_t (fun q => XT.ll_ne_f (Classical.not_not.mp q))).2 hc)))).go fun T t A q => XT.lcmp (g := mkF m pc ls (.long y :: .long x :: st)) A C.1 rfl (hb C.2.1 hd0) rfl q
theorem r_ifnonnullR {a : Addr} {o : Int} (C : Cx p c meth bytes maxL ret nm) (hd : decode bytes pc = .ok (.ifnonnull o, 3)) (hp : (pc : Int) + o = (pc' : Int)) (k : Run p l e R s m args below meth c Z own V n0 G h cells slots pc' ls st) : Run p l e R s m args below meth c Z own V n0 G h cells slots pc ls (.ref a :: st) :=
  k.go fun T t A q => XT.ifnonnullYes (g := mkF m pc ls (.ref a :: st)) A C.1 rfl (pc0 := pc) (pc' := pc') rfl (hb C.2.1 hd) rfl (toN hp).1 (toN hp).2 q
theorem r_ifnullR {a : Addr} {o : Int} (C : Cx p c meth bytes maxL ret nm) (hd : decode bytes pc = .ok (.ifnull o, 3)) (hp : pc + 3 = pc') (k : Run p l e R s m args below meth c Z own V n0 G h cells slots pc' ls st) : Run p l e R s m args below meth c Z own V n0 G h cells slots pc ls (.ref a :: st) := by
  subst hp
  exact k.go fun T t A q => XS.ifnullNo (g := mkF m pc ls (.ref a :: st)) A C.1 rfl (hb C.2.1 hd) rfl q
theorem r_ldc {i : Nat} {x : Int32} (C : Cx p c meth bytes maxL ret nm) (w : (Jvm.Cond.constant own i x).before a0 Z = true) (hd : decode bytes pc = .ok (.ldc i, 2)) (hp : pc + 2 = pc') (k : Run p l e R s m args below meth c Z own V n0 G h cells slots pc' ls (.int x :: st)) : Run p l e R s m args below meth c Z own V n0 G h cells slots pc ls st := by
  subst hp
  intro vm0 k0 T L X hV hk hZ ho N eT
  obtain ⟨U, o, h1, r⟩ := k vm0 k0 T L X hV hk hZ ho N eT
  exact ⟨U, o, X.ldcI (g := mkF m pc ls st) C.1 (own := own) ho (mvT (s := s.setVm vm0) hZ w) rfl (hb C.2.1 hd) h1, r⟩
theorem r_ldc_w {i : Nat} {x : Int32} (C : Cx p c meth bytes maxL ret nm) (w : (Jvm.Cond.constant own i x).before a0 Z = true) (hd : decode bytes pc = .ok (.ldc_w i, 3)) (hp : pc + 3 = pc') (k : Run p l e R s m args below meth c Z own V n0 G h cells slots pc' ls (.int x :: st)) : Run p l e R s m args below meth c Z own V n0 G h cells slots pc ls st := by
  subst hp
  intro vm0 k0 T L X hV hk hZ ho N eT
  obtain ⟨U, o, h1, r⟩ := k vm0 k0 T L X hV hk hZ ho N eT
  exact ⟨U, o, X.ldcWI (g := mkF m pc ls st) C.1 (own := own) ho (mvT (s := s.setVm vm0) hZ w) rfl (hb C.2.1 hd) h1, r⟩
theorem r_ldc2_w {i : Nat} {x : Int64} (C : Cx p c meth bytes maxL ret nm) (w : (Jvm.Cond.constantLong own i x).before a0 Z = true) (hd : decode bytes pc = .ok (.ldc2_w i, 3)) (hp : pc + 3 = pc') (k : Run p l e R s m args below meth c Z own V n0 G h cells slots pc' ls (.long x :: st)) : Run p l e R s m args below meth c Z own V n0 G h cells slots pc ls st := by
  subst hp
  intro vm0 k0 T L X hV hk hZ ho N eT
  obtain ⟨U, o, h1, r⟩ := k vm0 k0 T L X hV hk hZ ho N eT
  exact ⟨U, o, X.ldc2J (g := mkF m pc ls st) C.1 (own := own) ho (mvT (s := s.setVm vm0) hZ w) rfl (hb C.2.1 hd) h1, r⟩
theorem retI0 {T : State} {locs : List Loc} {k n : Nat} (X : Stand p l e R s m args below meth c T locs k n) (hx : p.tables.exec = Jvm.exec) {pc : Nat} {Ls : Array Slot} {z : Int32} {rest : List Value} (hret : meth.sig.returnType = some .int) (hd : decode c.code pc = .ok (.ireturn, 1)) {fs : List Frame}
    (hl : ∀ (f : JFrame) (acts : List Action), f.method = m → f.locked = none → f.entered = [] → (doReturn e (T.setTop f) acts (some (.int z))).1 = T.setFrames fs) : Steps p.tables e below (T.setTop (mkF m pc Ls (.int z :: rest))) (T.setFrames fs) :=
  retOut X hx hret rfl (Or.inl ⟨rfl, Or.inl rfl, z, rfl⟩) hd hl
theorem r_ireturn {z : Int32} {P : Option Value → Heap → Prop} (C : Cx p c meth bytes maxL (some .int) nm) (hd : decode bytes pc = .ok (.ireturn, 1)) (hP : P (some (.int z)) h) (hc : cells ≤ R.cells) (hs : slots ≤ R.slots) : Run p l e R s m args below meth c Z own (plainV s) n0 (Gq s n0 R P) h cells slots pc ls (.int z :: st) := by
  intro vm0 k0 T L X hV hk hZ ho N eT
  cases (show vm0 = s.vm from hV)
  have X' : Stand p l e R s m args below meth c T L cells slots := X
  obtain ⟨fs, hr, hrun, hended, hW, hsame⟩ := X'.leave (v := (some (.int z))) (fun h => by first | rfl | (rw [C.2.2.2.1] at h; cases h)) C.2.2.2.2.1
  exact ⟨_, _, retI0 X' C.1 C.2.2.2.1 (hb C.2.1 hd) hr, hrun, hended, _, _, rfl, ⟨by show P _ T.heap; rw [eT]; exact hP, N⟩, ⟨_, rfl⟩, hW, hsame.mono hc hs⟩
theorem r_ireturnN {z : Int32} {t : FieldType} (ht : t = .boolean ∨ t = .byte ∨ t = .char ∨ t = .short) {P : Option Value → Heap → Prop} (C : Cx p c meth bytes maxL (some t) nm) (hd : decode bytes pc = .ok (.ireturn, 1)) (hP : P (some (.int (nar t z))) h) (hc : cells ≤ R.cells) (hs : slots ≤ R.slots) : Run p l e R s m args below meth c Z own (plainV s) n0 (Gq s n0 R P) h cells slots pc ls (.int z :: st) := by
  intro vm0 k0 T L X hV hk hZ ho N eT
  cases (show vm0 = s.vm from hV)
  have X' : Stand p l e R s m args below meth c T L cells slots := X
  obtain ⟨fs, hr, hrun, hended, hW, hsame⟩ := X'.leave (v := (some (.int (nar t z)))) (fun h => by first | rfl | (rw [C.2.2.2.1] at h; cases h)) C.2.2.2.2.1
  exact ⟨_, _, retN X' C.1 C.2.2.2.1 ht (hb C.2.1 hd) hr, hrun, hended, _, _, rfl, ⟨by show P _ T.heap; rw [eT]; exact hP, N⟩, ⟨_, rfl⟩, hW, hsame.mono hc hs⟩
theorem r_lreturn {z : Int64} {P : Option Value → Heap → Prop} (C : Cx p c meth bytes maxL (some .long) nm) (hd : decode bytes pc = .ok (.lreturn, 1)) (hP : P (some (.long z)) h) (hc : cells ≤ R.cells) (hs : slots ≤ R.slots) : Run p l e R s m args below meth c Z own (plainV s) n0 (Gq s n0 R P) h cells slots pc ls (.long z :: st) := by
  intro vm0 k0 T L X hV hk hZ ho N eT
  cases (show vm0 = s.vm from hV)
  have X' : Stand p l e R s m args below meth c T L cells slots := X
  obtain ⟨fs, hr, hrun, hended, hW, hsame⟩ := X'.leave (v := (some (.long z))) (fun h => by first | rfl | (rw [C.2.2.2.1] at h; cases h)) C.2.2.2.2.1
  exact ⟨_, _, retOut X' C.1 C.2.2.2.1 rfl (Or.inr (Or.inl ⟨rfl, rfl, z, rfl⟩)) (hb C.2.1 hd) hr, hrun, hended, _, _, rfl, ⟨by show P _ T.heap; rw [eT]; exact hP, N⟩, ⟨_, rfl⟩, hW, hsame.mono hc hs⟩
theorem r_areturn {a : Addr} {t : FieldType} (ht : t.isReference = true) (hn : narrow t (.ref a) = .ref a) {P : Option Value → Heap → Prop} (C : Cx p c meth bytes maxL (some t) nm) (hd : decode bytes pc = .ok (.areturn, 1)) (hP : P (some (.ref a)) h) (hc : cells ≤ R.cells) (hs : slots ≤ R.slots) : Run p l e R s m args below meth c Z own (plainV s) n0 (Gq s n0 R P) h cells slots pc ls (.ref a :: st) := by
  intro vm0 k0 T L X hV hk hZ ho N eT
  cases (show vm0 = s.vm from hV)
  have X' : Stand p l e R s m args below meth c T L cells slots := X
  obtain ⟨fs, hr, hrun, hended, hW, hsame⟩ := X'.leave (v := (some (.ref a))) (fun h => by first | rfl | (rw [C.2.2.2.1] at h; cases h)) C.2.2.2.2.1
  exact ⟨_, _, retOut X' C.1 C.2.2.2.1 hn (Or.inr (Or.inr (Or.inr (Or.inr ⟨rfl, ht, rfl⟩)))) (hb C.2.1 hd) hr, hrun, hended, _, _, rfl, ⟨by show P _ T.heap; rw [eT]; exact hP, N⟩, ⟨_, rfl⟩, hW, hsame.mono hc hs⟩
theorem r_return0  {P : Option Value → Heap → Prop} (C : Cx p c meth bytes maxL none nm) (hd : decode bytes pc = .ok (.return_, 1)) (hP : P none h) (hc : cells ≤ R.cells) (hs : slots ≤ R.slots) : Run p l e R s m args below meth c Z own (plainV s) n0 (Gq s n0 R P) h cells slots pc ls [] := by
  intro vm0 k0 T L X hV hk hZ ho N eT
  cases (show vm0 = s.vm from hV)
  have X' : Stand p l e R s m args below meth c T L cells slots := X
  obtain ⟨fs, hr, hrun, hended, hW, hsame⟩ := X'.leave (v := none) (fun h => by first | rfl | (rw [C.2.2.2.1] at h; cases h)) C.2.2.2.2.1
  exact ⟨_, _, X'.returnOut C.1 C.2.2.2.1 (hb C.2.1 hd) hr, hrun, hended, _, _, rfl, ⟨by show P _ T.heap; rw [eT]; exact hP, N⟩, ⟨_, rfl⟩, hW, hsame.mono hc hs⟩
theorem r_callS {y : MethodName} {bytes' : ByteArray} {maxL' : Nat} {ret' : Option FieldType} {rm : Room} {as : List Value} {P : Option Value → Heap → Prop} {index W : Nat} {ps : List FieldType} {r0 : Option FieldType} (C : Cx p c meth bytes maxL ret nm)
    (w1 : (Jvm.Cond.methodLink own index y).before a0 Z = true) (w2 : (Jvm.Cond.static y).before a0 Z = true) (w3 : (Jvm.Cond.initialized y.cls).before a0 Z = true) (w4 : (Jvm.Cond.code y bytes' maxL' ret').before a0 Z = true)
    (hy : y.cls ≠ "java/lang/invoke/MethodHandle" ∧ y.cls ≠ "java/lang/invoke/VarHandle") (hpd : parseMethodDescriptor y.desc = some ⟨ps, r0⟩) (hlen : as.length = ps.length) (hstk : st' = as.reverse ++ st) (hd : decode bytes pc = .ok (.invokestatic index, 3)) (hp : pc + 3 = pc')
    (hsz : ls.size = maxL) (hW : (st.map fun v => v.category).sum ≤ W) (K : Con l Z y bytes' maxL' ret' rm as.toArray h n0 P) (hf : rm.frames + 1 ≤ R.frames) (hl : W + (maxL' + 11) + rm.locals ≤ R.locals) (hc : cells + rm.cells ≤ R.cells) (hs : slots + rm.slots ≤ R.slots)
    (k : ∀ v h', P v h' → Run p l e R s m args below meth c Z own V n0 G h' (cells + rm.cells) (slots + rm.slots) pc' ls (v.toList ++ st)) : Run p l e R s m args below meth c Z own V n0 G h cells slots pc ls st' := by
  subst hp hstk
  intro vm0 k0 T L X hV hk hZ ho N eT
  have hZ' : Z.Warmed39 (s.setVm vm0).vm := hZ
  obtain ⟨v, vm₁, B, hw, X', ⟨L', hQ, e1, e2, e3⟩, stp⟩ := Jvm.LawKit.callS X C.1 (y := y) (own := own) ho (mvT hZ' w1) (mvT hZ' w2) (mvT hZ' w3) (mvT hZ' w4) hy
    (backOf (W := W) (Q := fun v h' L => P v h' ∧ Fr n0 L) (K []) hZ' w4 w3 hf hl) (g := mkF m pc ls (as.reverse ++ st)) rfl (by rw [C.2.2.1]; exact hsz) (argsL := as) (rest := st) (lenOf hpd hlen) rfl (by simpa using hW) (hb C.2.1 hd) (fun _ _ => ⟨rfl, eT, hc, hs⟩)
  obtain ⟨hP, N'⟩ := hQ
  obtain ⟨U, L2, ce2, sl2⟩ := B
  dsimp only [Pt.U, Pt.locs, Pt.cells, Pt.slots] at X' e1 e2 e3 stp hP
  subst e1 e2 e3
  have hle := (stp _ (Steps.refl _)).heap_le
  have hle' : h.size ≤ U.heap.size := by rw [← eT]; exact hle
  obtain ⟨U', o, h1, r⟩ := k v _ hP vm0 k0 U _ X' hV (Nat.le_trans hk hle') hZ ho (Fr.app N N') rfl
  exact ⟨U', o, stp _ h1, r⟩
/-- a constructor (or any '<init>') -/
theorem r_callI {y : MethodName} {bytes' : ByteArray} {maxL' : Nat} {rm : Room} {a : Addr} {as : List Value} {P : Option Value → Heap → Prop} {index W : Nat} {ps : List FieldType} {r0 : Option FieldType} (C : Cx p c meth bytes maxL ret nm) (hy1 : y.name = "<init>")
    (w1 : (Jvm.Cond.methodLink own index y).before a0 Z = true) (w2 : (Jvm.Cond.instanceMethod y).before a0 Z = true) (w3 : (Jvm.Cond.initialized y.cls).before a0 Z = true) (w4 : (Jvm.Cond.code y bytes' maxL' none).before a0 Z = true)
    (hy : y.cls ≠ "java/lang/invoke/MethodHandle" ∧ y.cls ≠ "java/lang/invoke/VarHandle") (hpd : parseMethodDescriptor y.desc = some ⟨ps, r0⟩) (hlen : as.length = ps.length) (hstk : st' = as.reverse ++ .ref a :: st) (hd : decode bytes pc = .ok (.invokespecial index, 3)) (hp : pc + 3 = pc')
    (hsz : ls.size = maxL) (hW : (st.map fun v => v.category).sum ≤ W) (K : Con l Z y bytes' maxL' none rm (.ref a :: as).toArray h n0 P) (hf : rm.frames + 1 ≤ R.frames) (hl : W + (maxL' + 11) + rm.locals ≤ R.locals) (hc : cells + rm.cells ≤ R.cells) (hs : slots + rm.slots ≤ R.slots)
    (k : ∀ v h', P v h' → Run p l e R s m args below meth c Z own V n0 G h' (cells + rm.cells) (slots + rm.slots) pc' ls (v.toList ++ st)) : Run p l e R s m args below meth c Z own V n0 G h cells slots pc ls st' := by
  subst hp hstk
  intro vm0 k0 T L X hV hk hZ ho N eT
  have hZ' : Z.Warmed39 (s.setVm vm0).vm := hZ
  obtain ⟨v, vm₁, B, hw, X', ⟨L', hQ, e1, e2, e3⟩, stp⟩ := X.specialBack C.1 (y := y) hy1 (own := own) ho (mvT hZ' w1) (mvT hZ' w2) (mvT hZ' w4) hy
    (backOf (W := W) (Q := fun v h' L => P v h' ∧ Fr n0 L) (K []) hZ' w4 w3 hf hl) (g := mkF m pc ls (as.reverse ++ .ref a :: st)) rfl (by rw [C.2.2.1]; exact hsz) (Steps.refl _) (a := a) (argsL := as) (rest := st) (lenOf hpd hlen) rfl (by simpa using hW) (hb C.2.1 hd) (fun _ _ => ⟨rfl, eT, hc, hs⟩)
  obtain ⟨hP, N'⟩ := hQ
  obtain ⟨U, L2, ce2, sl2⟩ := B
  dsimp only [Pt.U, Pt.locs, Pt.cells, Pt.slots] at X' e1 e2 e3 stp hP
  subst e1 e2 e3
  have hle := stp.heap_le
  have hle' : h.size ≤ U.heap.size := by rw [← eT]; exact hle
  obtain ⟨U', o, h1, r⟩ := k v _ hP vm0 k0 U _ X' hV (Nat.le_trans hk hle') hZ ho (Fr.app N N') rfl
  exact ⟨U', o, stp.trans h1, r⟩
/-- an instance method of an object whose class is known exactly -/
theorem r_callV {y z : MethodName} {K0 K1 : String} {bytes' : ByteArray} {maxL' : Nat} {ret' : Option FieldType} {rm : Room} {a : Addr} {as : List Value} {P : Option Value → Heap → Prop} {index W : Nat} {ps : List FieldType} {r0 : Option FieldType} (C : Cx p c meth bytes maxL ret nm)
    (w1 : (Jvm.Cond.methodLink own index y).before a0 Z = true) (w2 : (Jvm.Cond.declares y).before a0 Z = true) (w5 : (Jvm.Cond.selects K1 y y).before a0 Z = true) (w6 : (Jvm.Cond.selects K0 y z).before a0 Z = true) (w7 : (Jvm.Cond.instanceMethod z).before a0 Z = true) (w3 : (Jvm.Cond.initialized z.cls).before a0 Z = true) (w4 : (Jvm.Cond.code z bytes' maxL' ret').before a0 Z = true)
    (hy : y.cls ≠ "java/lang/invoke/MethodHandle" ∧ y.cls ≠ "java/lang/invoke/VarHandle") (hpd : parseMethodDescriptor y.desc = some ⟨ps, r0⟩) (hlen : as.length = ps.length) (hstk : st' = as.reverse ++ .ref a :: st) (hd : decode bytes pc = .ok (.invokevirtual index, 3)) (hp : pc + 3 = pc')
    (hsz : ls.size = maxL) (hW : (st.map fun v => v.category).sum ≤ W) (E : Exa Z h a K0) (K : Con l Z z bytes' maxL' ret' rm (.ref a :: as).toArray h n0 P) (hf : rm.frames + 1 ≤ R.frames) (hl : W + (maxL' + 11) + rm.locals ≤ R.locals) (hc : cells + rm.cells ≤ R.cells) (hs : slots + rm.slots ≤ R.slots)
    (k : ∀ v h', P v h' → Run p l e R s m args below meth c Z own V n0 G h' (cells + rm.cells) (slots + rm.slots) pc' ls (v.toList ++ st)) : Run p l e R s m args below meth c Z own V n0 G h cells slots pc ls st' := by
  subst hp hstk
  intro vm0 k0 T L X hV hk hZ ho N eT
  have hZ' : Z.Warmed39 (s.setVm vm0).vm := hZ
  obtain ⟨cq, kq, qa, qb, qc⟩ := isOf hZ' eT E
  have nf : NotFace (s.setVm vm0) y := notFace_of_selects (args := #[]) (mvT hZ' w5)
  obtain ⟨v, vm₁, B, hw, X', ⟨L', hQ, e1, e2, e3⟩, stp⟩ := X.virtualBack C.1 (y := y) (z := z) (own := own) ho (mvT hZ' w1) (mvT hZ' w2) nf (mvT hZ' w6) (mvT hZ' w7) hy
    (backOf (W := W) (Q := fun v h' L => P v h' ∧ Fr n0 L) (K []) hZ' w4 w3 hf hl) qa qc (g := mkF m pc ls (as.reverse ++ .ref a :: st)) rfl (by rw [C.2.2.1]; exact hsz) (Steps.refl _) (argsL := as) (rest := st) (lenOf hpd hlen) rfl (by simpa using hW) (hb C.2.1 hd) (fun _ _ => ⟨rfl, eT, hc, hs⟩)
  obtain ⟨hP, N'⟩ := hQ
  obtain ⟨U, L2, ce2, sl2⟩ := B
  dsimp only [Pt.U, Pt.locs, Pt.cells, Pt.slots] at X' e1 e2 e3 stp hP
  subst e1 e2 e3
  have hle := stp.heap_le
  have hle' : h.size ≤ U.heap.size := by rw [← eT]; exact hle
  obtain ⟨U', o, h1, r⟩ := k v _ hP vm0 k0 U _ X' hV (Nat.le_trans hk hle') hZ ho (Fr.app N N') rfl
  exact ⟨U', o, stp.trans h1, r⟩
theorem r_new {K0 : String} {index n : Nat} (C : Cx p c meth bytes maxL ret nm) (w1 : (Jvm.Cond.classLink own index K0).before a0 Z = true) (w2 : (Jvm.Cond.instantiable K0 n).before a0 Z = true) (w3 : (Jvm.Cond.initialized K0).before a0 Z = true) (hd : decode bytes pc = .ok (.new index, 3)) (hp : pc + 3 = pc') (hc : cells + 1 ≤ R.cells) (hs : slots + n ≤ R.slots)
    (k : ∀ (a : Addr) h', @Eq Nat a h.size → Keep h h' [] → Exa Z h' a K0 → (∀ {O nm d : String} {ty : FieldType}, Laid Z a0 K0 O nm d → parseFieldDescriptor d = some ty → Fld Z h' a O nm d (defaultValue ty)) → Run p l e R s m args below meth c Z own V n0 G h' (cells + 1) (slots + n) pc' ls (.ref a :: st)) : Run p l e R s m args below meth c Z own V n0 G h cells slots pc ls st := by
  subst hp
  intro vm0 k0 T L X hV hk hZ ho N eT
  have hZ' : Z.Warmed39 (s.setVm vm0).vm := hZ
  obtain ⟨T2, h2, X2, e2, E2, A2, D2, -, st2⟩ := newO X C.1 hZ' (own := own) ho w1 w2 w3 eT (g := mkF m pc ls st) rfl (hb C.2.1 hd) hc hs
  obtain ⟨U, o, h1, r⟩ := k _ h2 rfl ((Keep.refl h []).ext E2) A2 D2 vm0 k0 T2 L X2 hV (Nat.le_trans hk E2.1) hZ ho N e2
  exact ⟨U, o, st2 _ h1, r⟩
theorem r_getfield {R0 O n d : String} {host : String} {index : Nat} {a : Addr} {v : Value} (C : Cx p c meth bytes maxL ret nm) (w1 : (Jvm.Cond.fieldLink own index R0 n d).before a0 Z = true ∨ (Jvm.Cond.fieldLinkNest own index R0 n d host).before a0 Z = true) (via : Via Z R0 O n d) (hd : decode bytes pc = .ok (.getfield index, 3)) (hp : pc + 3 = pc') (F : Fld Z h a O n d v)
    (k : Run p l e R s m args below meth c Z own V n0 G h cells slots pc' ls (v :: st)) : Run p l e R s m args below meth c Z own V n0 G h cells slots pc ls (.ref a :: st) := by
  subst hp
  intro vm0 k0 T L X hV hk hZ ho N eT
  have hZ' : Z.Warmed39 (s.setVm vm0).vm := hZ
  obtain ⟨T2, X2, e2, st2⟩ := getF X C.1 hZ' (own := own) ho w1 via eT F (g := mkF m pc ls (.ref a :: st)) rfl rfl (hb C.2.1 hd)
  obtain ⟨U, o, h1, r⟩ := k vm0 k0 T2 L X2 hV hk hZ ho N e2
  exact ⟨U, o, st2 _ h1, r⟩
theorem r_putfield {R0 O n d K0 : String} {host : String} {index kk : Nat} {ty : FieldType} {a : Addr} {v old : Value} (C : Cx p c meth bytes maxL ret nm) (w1 : (Jvm.Cond.fieldLink own index R0 n d).before a0 Z = true ∨ (Jvm.Cond.fieldLinkNest own index R0 n d host).before a0 Z = true) (via : Via Z R0 O n d) (hL : (Jvm.Cond.lays K0 O n d).before a0 Z = true ∨ ((Jvm.Cond.laysFinal K0 O n d).before a0 Z = true ∧ own = O ∧ nm = "<init>")) (w2 : (Jvm.Cond.instantiable K0 kk).before a0 Z = true) (hty : parseFieldDescriptor d = some ty)
    (hd : decode bytes pc = .ok (.putfield index, 3)) (hp : pc + 3 = pc') (hn : narrow ty v = v) (hfi : fits ty v = true) (hge : n0 ≤ a) (F : Fld Z h a O n d old) (E : Exa Z h a K0)
    (k : ∀ h', Keep h h' [a] → Exa Z h' a K0 → Fld Z h' a O n d v → (∀ {O' n' d' : String} {w : Value} {t' : FieldType}, Laid Z a0 K0 O' n' d' → Laid Z a0 K0 O n d → n' ≠ n → parseFieldDescriptor d' = some t' → Fld Z h a O' n' d' w → Fld Z h' a O' n' d' w) → Run p l e R s m args below meth c Z own V n0 G h' cells slots pc' ls st) : Run p l e R s m args below meth c Z own V n0 G h cells slots pc ls (v :: .ref a :: st) := by
  subst hp
  intro vm0 k0 T L X hV hk hZ ho N eT
  have hZ' : Z.Warmed39 (s.setVm vm0).vm := hZ
  obtain ⟨T2, h2, X2, e2, W2, st2⟩ := putF X C.1 hZ' (own := own) ho w1 via eT F E (hL.imp id fun q => ⟨q.1, q.2.1, C.2.2.2.2.2.trans q.2.2⟩) w2 hty hn hfi (g := mkF m pc ls (v :: .ref a :: st)) rfl rfl (hb C.2.1 hd)
  obtain ⟨U, o, h1, r⟩ := k h2 (Keep.of_wr W2) (E.wr W2) (F.same W2) (fun L1 L2 hne ht F' => F'.other W2 (Or.inr (slot_ne L1 L2 hne ht hty))) vm0 k0 T2 _ X2 hV (by rw [W2.size]; exact hk) hZ ho (Fr.snoc X2 N hge) e2
  exact ⟨U, o, st2 _ h1, r⟩
theorem r_putfieldN {R0 O n d K0 : String} {index kk : Nat} {ty : FieldType} {a : Addr} {v v' old : Value} (C : Cx p c meth bytes maxL ret nm) (w1 : (Jvm.Cond.fieldLink own index R0 n d).before a0 Z = true) (via : Via Z R0 O n d) (hL : (Jvm.Cond.lays K0 O n d).before a0 Z = true ∨ ((Jvm.Cond.laysFinal K0 O n d).before a0 Z = true ∧ own = O ∧ nm = "<init>")) (w2 : (Jvm.Cond.instantiable K0 kk).before a0 Z = true) (hty : parseFieldDescriptor d = some ty)
    (hd : decode bytes pc = .ok (.putfield index, 3)) (hp : pc + 3 = pc') (hn : narrow ty v = v') (hfi : fits ty v' = true) (hge : n0 ≤ a) (F : Fld Z h a O n d old) (E : Exa Z h a K0)
    (k : ∀ h', Keep h h' [a] → Exa Z h' a K0 → Fld Z h' a O n d v' → (∀ {O' n' d' : String} {w : Value} {t' : FieldType}, Laid Z a0 K0 O' n' d' → Laid Z a0 K0 O n d → n' ≠ n → parseFieldDescriptor d' = some t' → Fld Z h a O' n' d' w → Fld Z h' a O' n' d' w) → Run p l e R s m args below meth c Z own V n0 G h' cells slots pc' ls st) : Run p l e R s m args below meth c Z own V n0 G h cells slots pc ls (v :: .ref a :: st) := by
  subst hp
  intro vm0 k0 T L X hV hk hZ ho N eT
  have hZ' : Z.Warmed39 (s.setVm vm0).vm := hZ
  obtain ⟨T2, h2, X2, e2, W2, st2⟩ := putFN X C.1 hZ' (own := own) ho w1 via eT F E (hL.imp id fun q => ⟨q.1, q.2.1, C.2.2.2.2.2.trans q.2.2⟩) w2 hty hn hfi (g := mkF m pc ls (v :: .ref a :: st)) rfl rfl (hb C.2.1 hd)
  obtain ⟨U, o, h1, r⟩ := k h2 (Keep.of_wr W2) (E.wr W2) (F.same W2) (fun L1 L2 hne ht F' => F'.other W2 (Or.inr (slot_ne L1 L2 hne ht hty))) vm0 k0 T2 _ X2 hV (by rw [W2.size]; exact hk) hZ ho (Fr.snoc X2 N hge) e2
  exact ⟨U, o, st2 _ h1, r⟩
theorem r_initO {index W : Nat} {a : Addr} (C : Cx p c meth bytes maxL ret nm) (w1 : (Jvm.Cond.methodLink own index Lib.objectInit).before a0 Z = true) (w2 : (Jvm.Cond.instanceMethod Lib.objectInit).before a0 Z = true) (w3 : (Jvm.Cond.code Lib.objectInit ⟨#[0xb1]⟩ 1 none).before a0 Z = true) (hd : decode bytes pc = .ok (.invokespecial index, 3)) (hp : pc + 3 = pc') (hsz : ls.size = maxL)
    (hf : 1 ≤ R.frames) (hW : (st.map fun v => v.category).sum ≤ W) (hl : W + 12 ≤ R.locals) (k : Run p l e R s m args below meth c Z own V n0 G h cells slots pc' ls st) : Run p l e R s m args below meth c Z own V n0 G h cells slots pc ls (.ref a :: st) := by
  subst hp
  intro vm0 k0 T L X hV hk hZ ho N eT
  have hZ' : Z.Warmed39 (s.setVm vm0).vm := hZ
  obtain ⟨T2, X2, e2, st2⟩ := initO X C.1 hZ' (own := own) ho w1 w2 w3 eT (g := mkF m pc ls (.ref a :: st)) rfl (by rw [C.2.2.1]; exact hsz) rfl (hb C.2.1 hd) hf (W := W) (by simpa using hW) hl
  obtain ⟨U, o, h1, r⟩ := k vm0 k0 T2 L X2 hV hk hZ ho N e2
  exact ⟨U, o, st2 _ h1, r⟩
theorem r_getstatic {R0 O n d host : String} {index : Nat} {v : Value} (C : Cx p c meth bytes maxL ret nm) (w1 : (Jvm.Cond.fieldLink own index R0 n d).before a0 Z = true) (via : Via Z R0 O n d) (hd : decode bytes pc = .ok (.getstatic index, 3)) (hp : pc + 3 = pc') (F : Sta Z h O n d v) (k : Run p l e R s m args below meth c Z own V n0 G h cells slots pc' ls (v :: st)) : Run p l e R s m args below meth c Z own V n0 G h cells slots pc ls st := by
  subst hp
  intro vm0 k0 T L X hV hk hZ ho N eT
  have hZ' : Z.Warmed39 (s.setVm vm0).vm := hZ
  obtain ⟨T2, X2, e2, st2⟩ := getS2 X C.1 hZ' (own := own) ho (host := "") (Or.inl w1) via eT F (g := mkF m pc ls st) rfl (hb C.2.1 hd)
  obtain ⟨U, o, h1, r⟩ := k vm0 k0 T2 L X2 hV hk hZ ho N e2
  exact ⟨U, o, st2 _ h1, r⟩
/-- the array at a: n places of kind ty, place j holds f j -/
def IA (Z : State) (h : Heap) (a : Addr) (ty : FieldType) (n : Nat) (f : Nat → Value) : Prop := ∃ cl : Cell, Arr Z h a cl ty ∧ cl.slots.size = n ∧ n < 2 ^ 31 ∧ ∀ j, j < n → cl.slots[j]? = some (f j)
theorem IA.lt {a : Addr} {ty : FieldType} {n : Nat} {f : Nat → Value} (A : IA Z h a ty n f) : a < h.size := by obtain ⟨cl, A, -⟩ := A; exact A.lt
theorem IA.keep {h' : Heap} {ws : List Addr} {a : Addr} {ty : FieldType} {n : Nat} {f : Nat → Value} (A : IA Z h a ty n f) (K : Keep h h' ws) (q : a ∉ ws) : IA Z h' a ty n f := by
  obtain ⟨cl, A, r⟩ := A
  exact ⟨cl, ⟨K.2.1 a cl A.1 q, A.2⟩, r⟩
theorem IA.congr {a : Addr} {ty : FieldType} {n : Nat} {f g : Nat → Value} (A : IA Z h a ty n f) (q : ∀ j, j < n → f j = g j) : IA Z h a ty n g := by
  obtain ⟨cl, A, r1, r2, r3⟩ := A
  exact ⟨cl, A, r1, r2, fun j hj => by rw [r3 j hj, q j hj]⟩
theorem tnn {j : Int32} {n : Nat} (h : j.toInt = (n : Int)) : ¬ j < 0 ∧ j.toNatClampNeg = n := by
  have h0 : ¬ j < 0 := nlt32.mpr (by rw [h]; show (0 : Int) ≤ _; omega)
  exact ⟨h0, by have := nat_of h0; omega⟩
theorem IA.set {h' : Heap} {a : Addr} {ty : FieldType} {n k : Nat} {f : Nat → Value} {v : Value} (A : IA Z h a ty n f) (W : Wr h h' a k v) : IA Z h' a ty n (fun j => if j = k then v else f j) := by
  obtain ⟨cl, A, r1, r2, r3⟩ := A
  refine ⟨cl.setSlot k v, A.same W, by rw [sz_set, r1], r2, fun j hj => ?_⟩
  show (cl.slots.setIfInBounds k v)[j]? = _
  rw [Array.getElem?_setIfInBounds]
  by_cases q : k = j
  · subst q; simp [r1, hj]
  · rw [if_neg q, r3 j hj]
    show some (f j) = some (if j = k then v else f j)
    rw [if_neg (fun z => q (Eq.symm z))]
theorem r_iaload {a : Addr} {n jn : Nat} {f : Nat → Int32} {j : Int32} {x : Int32} (C : Cx p c meth bytes maxL ret nm) (hd : decode bytes pc = .ok (.iaload, 1)) (hp : pc + 1 = pc') (A : IA Z h a .int n (fun i => .int (f i))) (hj : j.toInt = (jn : Int)) (hlt : jn < n) (hv : f jn = x) (k : Run p l e R s m args below meth c Z own V n0 G h cells slots pc' ls (.int x :: st)) : Run p l e R s m args below meth c Z own V n0 G h cells slots pc ls (.int j :: .ref a :: st) := by
  subst hp
  intro vm0 k0 T L X hV hk hZ ho N eT
  have hZ' : Z.Warmed39 (s.setVm vm0).vm := hZ
  obtain ⟨cl, A, r1, r2, r3⟩ := A
  obtain ⟨t1, t2⟩ := tnn hj
  obtain ⟨U, o, h1, r⟩ := k vm0 k0 T L X hV hk hZ ho N eT
  exact ⟨U, o, X.iaload C.1 (j := j) (v := .int x) (by rw [eT]; exact A.1) (State.isArrayOf_alike hZ'.alike A.2.1) A.2.2 (by rw [r1, t2]; exact fun q => q.elim t1 (Nat.not_le.mpr hlt)) (by rw [t2, r3 jn hlt, ← hv]) (g := mkF m pc ls (.int j :: .ref a :: st)) rfl rfl (hb C.2.1 hd) _ h1, r⟩
theorem r_laload {a : Addr} {n jn : Nat} {f : Nat → Int64} {j : Int32} {x : Int64} (C : Cx p c meth bytes maxL ret nm) (hd : decode bytes pc = .ok (.laload, 1)) (hp : pc + 1 = pc') (A : IA Z h a .long n (fun i => .long (f i))) (hj : j.toInt = (jn : Int)) (hlt : jn < n) (hv : f jn = x) (k : Run p l e R s m args below meth c Z own V n0 G h cells slots pc' ls (.long x :: st)) : Run p l e R s m args below meth c Z own V n0 G h cells slots pc ls (.int j :: .ref a :: st) := by
  subst hp
  intro vm0 k0 T L X hV hk hZ ho N eT
  have hZ' : Z.Warmed39 (s.setVm vm0).vm := hZ
  obtain ⟨cl, A, r1, r2, r3⟩ := A
  obtain ⟨t1, t2⟩ := tnn hj
  obtain ⟨U, o, h1, r⟩ := k vm0 k0 T L X hV hk hZ ho N eT
  exact ⟨U, o, X.laload C.1 (j := j) (v := .long x) (by rw [eT]; exact A.1) (State.isArrayOf_alike hZ'.alike A.2.1) A.2.2 (by rw [r1, t2]; exact fun q => q.elim t1 (Nat.not_le.mpr hlt)) (by rw [t2, r3 jn hlt, ← hv]) (g := mkF m pc ls (.int j :: .ref a :: st)) rfl rfl (hb C.2.1 hd) _ h1, r⟩
theorem r_caload {a : Addr} {n jn : Nat} {f : Nat → Int32} {j : Int32} {x : Int32} (C : Cx p c meth bytes maxL ret nm) (hd : decode bytes pc = .ok (.caload, 1)) (hp : pc + 1 = pc') (A : IA Z h a .char n (fun i => .int (f i))) (hj : j.toInt = (jn : Int)) (hlt : jn < n) (hv : f jn = x) (k : Run p l e R s m args below meth c Z own V n0 G h cells slots pc' ls (.int x :: st)) : Run p l e R s m args below meth c Z own V n0 G h cells slots pc ls (.int j :: .ref a :: st) := by
  subst hp
  intro vm0 k0 T L X hV hk hZ ho N eT
  have hZ' : Z.Warmed39 (s.setVm vm0).vm := hZ
  obtain ⟨cl, A, r1, r2, r3⟩ := A
  obtain ⟨t1, t2⟩ := tnn hj
  obtain ⟨U, o, h1, r⟩ := k vm0 k0 T L X hV hk hZ ho N eT
  exact ⟨U, o, X.caload C.1 (j := j) (v := .int x) (by rw [eT]; exact A.1) (State.isArrayOf_alike hZ'.alike A.2.1) A.2.2 (by rw [r1, t2]; exact fun q => q.elim t1 (Nat.not_le.mpr hlt)) (by rw [t2, r3 jn hlt, ← hv]) (g := mkF m pc ls (.int j :: .ref a :: st)) rfl rfl (hb C.2.1 hd) _ h1, r⟩
theorem r_baload {a : Addr} {n jn : Nat} {f : Nat → Int32} {j : Int32} {x : Int32} (C : Cx p c meth bytes maxL ret nm) (hd : decode bytes pc = .ok (.baload, 1)) (hp : pc + 1 = pc') (A : IA Z h a .byte n (fun i => .int (f i))) (hj : j.toInt = (jn : Int)) (hlt : jn < n) (hv : f jn = x) (k : Run p l e R s m args below meth c Z own V n0 G h cells slots pc' ls (.int x :: st)) : Run p l e R s m args below meth c Z own V n0 G h cells slots pc ls (.int j :: .ref a :: st) := by
  subst hp
  intro vm0 k0 T L X hV hk hZ ho N eT
  have hZ' : Z.Warmed39 (s.setVm vm0).vm := hZ
  obtain ⟨cl, A, r1, r2, r3⟩ := A
  obtain ⟨t1, t2⟩ := tnn hj
  obtain ⟨U, o, h1, r⟩ := k vm0 k0 T L X hV hk hZ ho N eT
  exact ⟨U, o, X.baloadBytes C.1 (j := j) (v := .int x) (by rw [eT]; exact A.1) (State.isArrayOf_alike hZ'.alike A.2.1) A.2.2 (by rw [r1, t2]; exact fun q => q.elim t1 (Nat.not_le.mpr hlt)) (by rw [t2, r3 jn hlt, ← hv]) (g := mkF m pc ls (.int j :: .ref a :: st)) rfl rfl (hb C.2.1 hd) _ h1, r⟩
theorem r_zaload {a : Addr} {n jn : Nat} {f : Nat → Int32} {j : Int32} {x : Int32} (C : Cx p c meth bytes maxL ret nm) (hd : decode bytes pc = .ok (.baload, 1)) (hp : pc + 1 = pc') (A : IA Z h a .boolean n (fun i => .int (f i))) (hj : j.toInt = (jn : Int)) (hlt : jn < n) (hv : f jn = x) (k : Run p l e R s m args below meth c Z own V n0 G h cells slots pc' ls (.int x :: st)) : Run p l e R s m args below meth c Z own V n0 G h cells slots pc ls (.int j :: .ref a :: st) := by
  subst hp
  intro vm0 k0 T L X hV hk hZ ho N eT
  have hZ' : Z.Warmed39 (s.setVm vm0).vm := hZ
  obtain ⟨cl, A, r1, r2, r3⟩ := A
  obtain ⟨t1, t2⟩ := tnn hj
  obtain ⟨U, o, h1, r⟩ := k vm0 k0 T L X hV hk hZ ho N eT
  exact ⟨U, o, X.baloadBooleans C.1 (j := j) (v := .int x) (by rw [eT]; exact A.1) (State.isArrayOf_alike hZ'.alike A.2.1) A.2.2 (by rw [r1, t2]; exact fun q => q.elim t1 (Nat.not_le.mpr hlt)) (by rw [t2, r3 jn hlt, ← hv]) (g := mkF m pc ls (.int j :: .ref a :: st)) rfl rfl (hb C.2.1 hd) _ h1, r⟩
theorem r_iastore {a : Addr} {n jn : Nat} {f : Nat → Int32} {j : Int32} {x : Int32} (C : Cx p c meth bytes maxL ret nm) (hd : decode bytes pc = .ok (.iastore, 1)) (hp : pc + 1 = pc') (A : IA Z h a .int n (fun i => .int (f i))) (hj : j.toInt = (jn : Int)) (hlt : jn < n) (hge : n0 ≤ a) (k : ∀ h', Keep h h' [a] → IA Z h' a .int n (fun i => .int (if i = jn then x else f i)) → Run p l e R s m args below meth c Z own V n0 G h' cells slots pc' ls st) : Run p l e R s m args below meth c Z own V n0 G h cells slots pc ls (.int x :: .int j :: .ref a :: st) := by
  subst hp
  intro vm0 k0 T L X hV hk hZ ho N eT
  have hZ' : Z.Warmed39 (s.setVm vm0).vm := hZ
  have A0 := A
  obtain ⟨cl, A, r1, r2, r3⟩ := A
  obtain ⟨t1, t2⟩ := tnn hj
  obtain ⟨T2, h2, X2, e2, W2, st2⟩ := stI X C.1 hZ' eT A (j := j) (x := x) (by rw [r1, t2]; exact fun q => q.elim t1 (Nat.not_le.mpr hlt)) (g := mkF m pc ls (.int x :: .int j :: .ref a :: st)) rfl rfl (hb C.2.1 hd)
  rw [t2] at W2
  obtain ⟨U, o, h1, r⟩ := k h2 (Keep.of_wr W2) ((A0.set W2).congr fun i _ => by by_cases q : i = jn <;> simp [q]) vm0 k0 T2 _ X2 hV (by rw [W2.size]; exact hk) hZ ho (Fr.snoc X2 N hge) e2
  exact ⟨U, o, st2 _ h1, r⟩
theorem r_lastore {a : Addr} {n jn : Nat} {f : Nat → Int64} {j : Int32} {x : Int64} (C : Cx p c meth bytes maxL ret nm) (hd : decode bytes pc = .ok (.lastore, 1)) (hp : pc + 1 = pc') (A : IA Z h a .long n (fun i => .long (f i))) (hj : j.toInt = (jn : Int)) (hlt : jn < n) (hge : n0 ≤ a) (k : ∀ h', Keep h h' [a] → IA Z h' a .long n (fun i => .long (if i = jn then x else f i)) → Run p l e R s m args below meth c Z own V n0 G h' cells slots pc' ls st) : Run p l e R s m args below meth c Z own V n0 G h cells slots pc ls (.long x :: .int j :: .ref a :: st) := by
  subst hp
  intro vm0 k0 T L X hV hk hZ ho N eT
  have hZ' : Z.Warmed39 (s.setVm vm0).vm := hZ
  have A0 := A
  obtain ⟨cl, A, r1, r2, r3⟩ := A
  obtain ⟨t1, t2⟩ := tnn hj
  obtain ⟨T2, h2, X2, e2, W2, st2⟩ := stJ X C.1 hZ' eT A (j := j) (x := x) (by rw [r1, t2]; exact fun q => q.elim t1 (Nat.not_le.mpr hlt)) (g := mkF m pc ls (.long x :: .int j :: .ref a :: st)) rfl rfl (hb C.2.1 hd)
  rw [t2] at W2
  obtain ⟨U, o, h1, r⟩ := k h2 (Keep.of_wr W2) ((A0.set W2).congr fun i _ => by by_cases q : i = jn <;> simp [q]) vm0 k0 T2 _ X2 hV (by rw [W2.size]; exact hk) hZ ho (Fr.snoc X2 N hge) e2
  exact ⟨U, o, st2 _ h1, r⟩
theorem r_castore {a : Addr} {n jn : Nat} {f : Nat → Int32} {j : Int32} {x : Int32} (C : Cx p c meth bytes maxL ret nm) (hd : decode bytes pc = .ok (.castore, 1)) (hp : pc + 1 = pc') (A : IA Z h a .char n (fun i => .int (f i))) (hj : j.toInt = (jn : Int)) (hlt : jn < n) (hge : n0 ≤ a) (k : ∀ h', Keep h h' [a] → IA Z h' a .char n (fun i => .int (if i = jn then (nar .char x) else f i)) → Run p l e R s m args below meth c Z own V n0 G h' cells slots pc' ls st) : Run p l e R s m args below meth c Z own V n0 G h cells slots pc ls (.int x :: .int j :: .ref a :: st) := by
  subst hp
  intro vm0 k0 T L X hV hk hZ ho N eT
  have hZ' : Z.Warmed39 (s.setVm vm0).vm := hZ
  have A0 := A
  obtain ⟨cl, A, r1, r2, r3⟩ := A
  obtain ⟨t1, t2⟩ := tnn hj
  obtain ⟨T2, h2, X2, e2, W2, st2⟩ := stC X C.1 hZ' eT A (j := j) (x := x) (by rw [r1, t2]; exact fun q => q.elim t1 (Nat.not_le.mpr hlt)) (g := mkF m pc ls (.int x :: .int j :: .ref a :: st)) rfl rfl (hb C.2.1 hd)
  rw [t2] at W2
  obtain ⟨U, o, h1, r⟩ := k h2 (Keep.of_wr W2) ((A0.set W2).congr fun i _ => by by_cases q : i = jn <;> simp [q]) vm0 k0 T2 _ X2 hV (by rw [W2.size]; exact hk) hZ ho (Fr.snoc X2 N hge) e2
  exact ⟨U, o, st2 _ h1, r⟩
theorem r_bastore {a : Addr} {n jn : Nat} {f : Nat → Int32} {j : Int32} {x : Int32} (C : Cx p c meth bytes maxL ret nm) (hd : decode bytes pc = .ok (.bastore, 1)) (hp : pc + 1 = pc') (A : IA Z h a .byte n (fun i => .int (f i))) (hj : j.toInt = (jn : Int)) (hlt : jn < n) (hge : n0 ≤ a) (k : ∀ h', Keep h h' [a] → IA Z h' a .byte n (fun i => .int (if i = jn then (nar .byte x) else f i)) → Run p l e R s m args below meth c Z own V n0 G h' cells slots pc' ls st) : Run p l e R s m args below meth c Z own V n0 G h cells slots pc ls (.int x :: .int j :: .ref a :: st) := by
  subst hp
  intro vm0 k0 T L X hV hk hZ ho N eT
  have hZ' : Z.Warmed39 (s.setVm vm0).vm := hZ
  have A0 := A
  obtain ⟨cl, A, r1, r2, r3⟩ := A
  obtain ⟨t1, t2⟩ := tnn hj
  obtain ⟨T2, h2, X2, e2, W2, st2⟩ := stB X C.1 hZ' eT A (j := j) (x := x) (by rw [r1, t2]; exact fun q => q.elim t1 (Nat.not_le.mpr hlt)) (g := mkF m pc ls (.int x :: .int j :: .ref a :: st)) rfl rfl (hb C.2.1 hd)
  rw [t2] at W2
  obtain ⟨U, o, h1, r⟩ := k h2 (Keep.of_wr W2) ((A0.set W2).congr fun i _ => by by_cases q : i = jn <;> simp [q]) vm0 k0 T2 _ X2 hV (by rw [W2.size]; exact hk) hZ ho (Fr.snoc X2 N hge) e2
  exact ⟨U, o, st2 _ h1, r⟩
theorem r_zastore {a : Addr} {n jn : Nat} {f : Nat → Int32} {j : Int32} {x : Int32} (C : Cx p c meth bytes maxL ret nm) (hd : decode bytes pc = .ok (.bastore, 1)) (hp : pc + 1 = pc') (A : IA Z h a .boolean n (fun i => .int (f i))) (hj : j.toInt = (jn : Int)) (hlt : jn < n) (hge : n0 ≤ a) (k : ∀ h', Keep h h' [a] → IA Z h' a .boolean n (fun i => .int (if i = jn then (nar .boolean x) else f i)) → Run p l e R s m args below meth c Z own V n0 G h' cells slots pc' ls st) : Run p l e R s m args below meth c Z own V n0 G h cells slots pc ls (.int x :: .int j :: .ref a :: st) := by
  subst hp
  intro vm0 k0 T L X hV hk hZ ho N eT
  have hZ' : Z.Warmed39 (s.setVm vm0).vm := hZ
  have A0 := A
  obtain ⟨cl, A, r1, r2, r3⟩ := A
  obtain ⟨t1, t2⟩ := tnn hj
  obtain ⟨T2, h2, X2, e2, W2, st2⟩ := stZ X C.1 hZ' eT A (j := j) (x := x) (by rw [r1, t2]; exact fun q => q.elim t1 (Nat.not_le.mpr hlt)) (g := mkF m pc ls (.int x :: .int j :: .ref a :: st)) rfl rfl (hb C.2.1 hd)
  rw [t2] at W2
  obtain ⟨U, o, h1, r⟩ := k h2 (Keep.of_wr W2) ((A0.set W2).congr fun i _ => by by_cases q : i = jn <;> simp [q]) vm0 k0 T2 _ X2 hV (by rw [W2.size]; exact hk) hZ ho (Fr.snoc X2 N hge) e2
  exact ⟨U, o, st2 _ h1, r⟩
theorem r_arraylength {a : Addr} {ty : FieldType} {n : Nat} {f : Nat → Value} {z : Int32} (C : Cx p c meth bytes maxL ret nm) (hd : decode bytes pc = .ok (.arraylength, 1)) (hp : pc + 1 = pc') (A : IA Z h a ty n f) (hz : z.toInt = (n : Int)) (k : Run p l e R s m args below meth c Z own V n0 G h cells slots pc' ls (.int z :: st)) : Run p l e R s m args below meth c Z own V n0 G h cells slots pc ls (.ref a :: st) := by
  subst hp
  intro vm0 k0 T L X hV hk hZ ho N eT
  have hZ' : Z.Warmed39 (s.setVm vm0).vm := hZ
  obtain ⟨cl, A, r1, r2, r3⟩ := A
  obtain ⟨t1, t2⟩ := tnn hz
  obtain ⟨U, o, h1, r⟩ := k vm0 k0 T L X hV hk hZ ho N eT
  have q : cl.slots.size.toInt32 = z := len_of (by rw [r1, t2]) t1
  exact ⟨U, o, X.arraylength C.1 (by rw [eT]; exact A.1) (State.isArrayOf_alike hZ'.alike A.2.1) (g := mkF m pc ls (.ref a :: st)) rfl rfl (hb C.2.1 hd) _ (by rw [q]; exact h1), r⟩
theorem r_newarray {aty : ArrayType} {ty : FieldType} {dv : Value} (hdv : defaultValue ty = dv) {z : Int32} {n cap : Nat} (C : Cx p c meth bytes maxL ret nm) (w1 : (Jvm.Cond.arrayClass ty).before a0 Z = true) (hty : newarray.typeOf aty = ty) (hd : decode bytes pc = .ok (.newarray aty, 2)) (hp : pc + 2 = pc') (hz : z.toInt = (n : Int)) (hcap : n ≤ cap) (hbg : cap * 8 ≤ 536870912) (hc : cells + 1 ≤ R.cells) (hs : slots + cap ≤ R.slots)
    (k : ∀ (a : Addr) h', @Eq Nat a h.size → Keep h h' [] → IA Z h' a ty n (fun _ => dv) → Run p l e R s m args below meth c Z own V n0 G h' (cells + 1) (slots + cap) pc' ls (.ref a :: st)) : Run p l e R s m args below meth c Z own V n0 G h cells slots pc ls (.int z :: st) := by
  subst hp hty hdv
  intro vm0 k0 T L X hV hk hZ ho N eT
  have hZ' : Z.Warmed39 (s.setVm vm0).vm := hZ
  obtain ⟨t1, t2⟩ := tnn hz
  obtain ⟨T2, h2, k2, X2, e2, E2, A2, st2⟩ := newP X C.1 hZ' w1 eT (g := mkF m pc ls (.int z :: st)) rfl (hb C.2.1 hd) rfl t1 (cap := cap) (by rw [t2]; exact hcap) hbg hc hs
  obtain ⟨U, o, h1, r⟩ := k _ h2 rfl ((Keep.refl h []).ext E2) ⟨_, A2, by rw [sz_new, t2], by have := rng32 z; omega, fun j hj => by simp [newA, t2, hj]⟩ vm0 k0 T2 L X2 hV (Nat.le_trans hk E2.1) hZ ho N e2
  exact ⟨U, o, st2 _ h1, r⟩
theorem Run.mono {ce sl : Nat} (k : Run p l e R s m args below meth c Z own V n0 G h ce sl pc ls st) (h1 : cells ≤ ce) (h2 : slots ≤ sl) : Run p l e R s m args below meth c Z own V n0 G h cells slots pc ls st :=
  fun vm0 k0 T L X => k vm0 k0 T L (X.mono h1 h2)
/-- where roads join: the goal from the join on, said once -/
theorem join {α : Type} (Φ : α → Prop) (hJ : α → Heap) (ce sl pcJ : Nat) (lsJ : α → Array Slot) (stJ : α → List Value) (j : ∀ x, Φ x → Run p l e R s m args below meth c Z own V n0 G (hJ x) ce sl pcJ (lsJ x) (stJ x)) (k : (∀ x, Φ x → Run p l e R s m args below meth c Z own V n0 G (hJ x) ce sl pcJ (lsJ x) (stJ x)) → Run p l e R s m args below meth c Z own V n0 G h cells slots pc ls st) : Run p l e R s m args below meth c Z own V n0 G h cells slots pc ls st := k j
/-- a loop: by a measure -/
theorem loop {α : Type} (μ : α → Nat) (Φ : α → Prop) (hJ : α → Heap) (ce sl pcJ : Nat) (lsJ : α → Array Slot) (stJ : α → List Value)
    (body : ∀ x, Φ x → (∀ x', Φ x' → μ x' < μ x → Run p l e R s m args below meth c Z own V n0 G (hJ x') ce sl pcJ (lsJ x') (stJ x')) → Run p l e R s m args below meth c Z own V n0 G (hJ x) ce sl pcJ (lsJ x) (stJ x)) (k : (∀ x, Φ x → Run p l e R s m args below meth c Z own V n0 G (hJ x) ce sl pcJ (lsJ x) (stJ x)) → Run p l e R s m args below meth c Z own V n0 G h cells slots pc ls st) : Run p l e R s m args below meth c Z own V n0 G h cells slots pc ls st := by
  refine k ?_
  have H : ∀ n x, μ x < n → Φ x → Run p l e R s m args below meth c Z own V n0 G (hJ x) ce sl pcJ (lsJ x) (stJ x) := by
    intro n
    induction n with
    | zero => intro x hx; omega
    | succ n ih => intro x hx hp; exact body x hp fun x' hp' hlt => ih x' (by omega) hp'
  exact fun x hp => H _ x (Nat.lt_succ_self _) hp
theorem xadd64 {x y : Int64} (h1 : -4611686018427387904 ≤ x.toInt + y.toInt) (h2 : x.toInt + y.toInt ≤ 4611686018427387904) : (x + y).toInt = x.toInt + y.toInt := by
  have h3 := c_ladd x y
  have h4 := rng64 (x + y)
  omega
theorem xsub64 {x y : Int64} (h1 : -4611686018427387904 ≤ x.toInt - y.toInt) (h2 : x.toInt - y.toInt ≤ 4611686018427387904) : (x - y).toInt = x.toInt - y.toInt := by
  have h3 := c_lsub x y
  have h4 := rng64 (x - y)
  omega
theorem xmul64 {x c : Int64} {k : Int} (hc : c.toInt = k) (h1 : -4611686018427387904 ≤ x.toInt * k) (h2 : x.toInt * k ≤ 4611686018427387904) : (x * c).toInt = x.toInt * k := by
  have h3 := c_lmul x c
  rw [hc] at h3
  have h4 := rng64 (x * c)
  generalize x.toInt * k = P at *
  omega
theorem xadd32 {x y : Int32} (h1 : -2147483648 ≤ x.toInt + y.toInt) (h2 : x.toInt + y.toInt < 2147483648) : (x + y).toInt = x.toInt + y.toInt := by
  have h3 := c_iadd x y
  have h4 := rng32 (x + y)
  omega
theorem xsub32 {x y : Int32} (h1 : -2147483648 ≤ x.toInt - y.toInt) (h2 : x.toInt - y.toInt < 2147483648) : (x - y).toInt = x.toInt - y.toInt := by
  have h3 := c_isub x y
  have h4 := rng32 (x - y)
  omega
theorem xl2i {x : Int64} (h1 : -2147483648 ≤ x.toInt) (h2 : x.toInt < 2147483648) : x.toInt32.toInt = x.toInt := by
  have h3 := c_l2i x
  have h4 := rng32 x.toInt32
  omega
end Kit
section Facts
theorem t0 {Z : State} {a0 : Array Value} (hw : ∀ d ∈ tables_1, d.before a0 Z = true) : (Jvm.Cond.arrayClass Jvm.ClassFile.FieldType.int).before a0 Z = true := hw _ (List.mem_of_getElem? (i := 0) rfl)
theorem t1 {Z : State} {a0 : Array Value} (hw : ∀ d ∈ tables_1, d.before a0 Z = true) : (Jvm.Cond.constant "com/example/trim_hedge/trimhedge/xml/XmlCharsIsNameStartCharPinLaw" (20 : Nat) (55295 : Int32)).before a0 Z = true := hw _ (List.mem_of_getElem? (i := 1) rfl)
theorem t2 {Z : State} {a0 : Array Value} (hw : ∀ d ∈ tables_1, d.before a0 Z = true) : (Jvm.Cond.constant "com/example/trim_hedge/trimhedge/xml/XmlCharsIsNameStartCharPinLaw" (21 : Nat) (63744 : Int32)).before a0 Z = true := hw _ (List.mem_of_getElem? (i := 2) rfl)
theorem t3 {Z : State} {a0 : Array Value} (hw : ∀ d ∈ tables_1, d.before a0 Z = true) : (Jvm.Cond.constant "com/example/trim_hedge/trimhedge/xml/XmlCharsIsNameStartCharPinLaw" (22 : Nat) (64975 : Int32)).before a0 Z = true := hw _ (List.mem_of_getElem? (i := 3) rfl)
theorem t4 {Z : State} {a0 : Array Value} (hw : ∀ d ∈ tables_1, d.before a0 Z = true) : (Jvm.Cond.constant "com/example/trim_hedge/trimhedge/xml/XmlCharsIsNameStartCharPinLaw" (23 : Nat) (65008 : Int32)).before a0 Z = true := hw _ (List.mem_of_getElem? (i := 4) rfl)
theorem t5 {Z : State} {a0 : Array Value} (hw : ∀ d ∈ tables_1, d.before a0 Z = true) : (Jvm.Cond.constant "com/example/trim_hedge/trimhedge/xml/XmlCharsIsNameStartCharPinLaw" (24 : Nat) (65533 : Int32)).before a0 Z = true := hw _ (List.mem_of_getElem? (i := 5) rfl)
theorem t6 {Z : State} {a0 : Array Value} (hw : ∀ d ∈ tables_1, d.before a0 Z = true) : (Jvm.Cond.constant "com/example/trim_hedge/trimhedge/xml/XmlCharsIsNameStartCharPinLaw" (25 : Nat) (65536 : Int32)).before a0 Z = true := hw _ (List.mem_of_getElem? (i := 6) rfl)
theorem t7 {Z : State} {a0 : Array Value} (hw : ∀ d ∈ tables_1, d.before a0 Z = true) : (Jvm.Cond.constant "com/example/trim_hedge/trimhedge/xml/XmlCharsIsNameStartCharPinLaw" (7 : Nat) (983039 : Int32)).before a0 Z = true := hw _ (List.mem_of_getElem? (i := 7) rfl)
theorem t8 {Z : State} {a0 : Array Value} (hw : ∀ d ∈ tables_1, d.before a0 Z = true) : (Jvm.Cond.constant "com/example/trim_hedge/trimhedge/xml/XmlCharsIsNameStartCharPinLaw" (26 : Nat) (2147483647 : Int32)).before a0 Z = true := hw _ (List.mem_of_getElem? (i := 8) rfl)
theorem t9 {Z : State} {a0 : Array Value} (hw : ∀ d ∈ tables_1, d.before a0 Z = true) : (Jvm.Cond.constant "com/example/trim_hedge/trimhedge/xml/XmlCharsIsNameStartCharPinLaw" (27 : Nat) (2097151 : Int32)).before a0 Z = true := hw _ (List.mem_of_getElem? (i := 9) rfl)
theorem t10 {Z : State} {a0 : Array Value} (hw : ∀ d ∈ tables_1, d.before a0 Z = true) : (Jvm.Cond.methodLink "com/example/trim_hedge/trimhedge/xml/XmlCharsIsNameStartCharPinLaw" (28 : Nat) ({ cls := "com/example/trim_hedge/trimhedge/xml/XmlChars", name := "isNameStartChar", desc := "(I)Z" } : Jvm.MethodName)).before a0 Z = true := hw _ (List.mem_of_getElem? (i := 10) rfl)
theorem t11 {Z : State} {a0 : Array Value} (hw : ∀ d ∈ tables_1, d.before a0 Z = true) : (Jvm.Cond.static ({ cls := "com/example/trim_hedge/trimhedge/xml/XmlChars", name := "isNameStartChar", desc := "(I)Z" } : Jvm.MethodName)).before a0 Z = true := hw _ (List.mem_of_getElem? (i := 11) rfl)
theorem t12 {Z : State} {a0 : Array Value} (hw : ∀ d ∈ tables_1, d.before a0 Z = true) : (Jvm.Cond.initialized "com/example/trim_hedge/trimhedge/xml/XmlChars").before a0 Z = true := hw _ (List.mem_of_getElem? (i := 12) rfl)
theorem t13 {Z : State} {a0 : Array Value} (hw : ∀ d ∈ tables_1, d.before a0 Z = true) : (Jvm.Cond.code ({ cls := "com/example/trim_hedge/trimhedge/xml/XmlChars", name := "isNameStartChar", desc := "(I)Z" } : Jvm.MethodName) prog_155_method_21_code (1 : Nat) (Option.some Jvm.ClassFile.FieldType.boolean)).before a0 Z = true := hw _ (List.mem_of_getElem? (i := 13) rfl)
theorem t14 {Z : State} {a0 : Array Value} (hw : ∀ d ∈ tables_1, d.before a0 Z = true) : (Jvm.Cond.constant "com/example/trim_hedge/trimhedge/xml/XmlChars" (91 : Nat) (63744 : Int32)).before a0 Z = true := hw _ (List.mem_of_getElem? (i := 14) rfl)
theorem t15 {Z : State} {a0 : Array Value} (hw : ∀ d ∈ tables_1, d.before a0 Z = true) : (Jvm.Cond.constant "com/example/trim_hedge/trimhedge/xml/XmlChars" (93 : Nat) (65008 : Int32)).before a0 Z = true := hw _ (List.mem_of_getElem? (i := 15) rfl)
theorem t16 {Z : State} {a0 : Array Value} (hw : ∀ d ∈ tables_1, d.before a0 Z = true) : (Jvm.Cond.constant "com/example/trim_hedge/trimhedge/xml/XmlChars" (85 : Nat) (65536 : Int32)).before a0 Z = true := hw _ (List.mem_of_getElem? (i := 16) rfl)
theorem t17 {Z : State} {a0 : Array Value} (hw : ∀ d ∈ tables_1, d.before a0 Z = true) : (Jvm.Cond.methodLink "com/example/trim_hedge/trimhedge/xml/XmlCharsIsNameStartCharPinLaw" (34 : Nat) ({ cls := "com/example/trim_hedge/trimhedge/xml/XmlCharsIsNameStartCharPinLaw", name := "ref", desc := "(I)Z" } : Jvm.MethodName)).before a0 Z = true := hw _ (List.mem_of_getElem? (i := 17) rfl)
theorem t18 {Z : State} {a0 : Array Value} (hw : ∀ d ∈ tables_1, d.before a0 Z = true) : (Jvm.Cond.static ({ cls := "com/example/trim_hedge/trimhedge/xml/XmlCharsIsNameStartCharPinLaw", name := "ref", desc := "(I)Z" } : Jvm.MethodName)).before a0 Z = true := hw _ (List.mem_of_getElem? (i := 18) rfl)
theorem t19 {Z : State} {a0 : Array Value} (hw : ∀ d ∈ tables_1, d.before a0 Z = true) : (Jvm.Cond.initialized "com/example/trim_hedge/trimhedge/xml/XmlCharsIsNameStartCharPinLaw").before a0 Z = true := hw _ (List.mem_of_getElem? (i := 19) rfl)
theorem t20 {Z : State} {a0 : Array Value} (hw : ∀ d ∈ tables_1, d.before a0 Z = true) : (Jvm.Cond.code ({ cls := "com/example/trim_hedge/trimhedge/xml/XmlCharsIsNameStartCharPinLaw", name := "ref", desc := "(I)Z" } : Jvm.MethodName) method_3_code (1 : Nat) (Option.some Jvm.ClassFile.FieldType.boolean)).before a0 Z = true := hw _ (List.mem_of_getElem? (i := 20) rfl)
theorem t21 {Z : State} {a0 : Array Value} (hw : ∀ d ∈ tables_1, d.before a0 Z = true) : (Jvm.Cond.methodLink "com/example/trim_hedge/trimhedge/xml/XmlCharsIsNameStartCharPinLaw" (8 : Nat) ({ cls := "com/example/trim_hedge/trimhedge/xml/XmlCharsIsNameStartCharPinLaw", name := "inside", desc := "(III)Z" } : Jvm.MethodName)).before a0 Z = true := hw _ (List.mem_of_getElem? (i := 21) rfl)
theorem t22 {Z : State} {a0 : Array Value} (hw : ∀ d ∈ tables_1, d.before a0 Z = true) : (Jvm.Cond.static ({ cls := "com/example/trim_hedge/trimhedge/xml/XmlCharsIsNameStartCharPinLaw", name := "inside", desc := "(III)Z" } : Jvm.MethodName)).before a0 Z = true := hw _ (List.mem_of_getElem? (i := 22) rfl)
theorem t23 {Z : State} {a0 : Array Value} (hw : ∀ d ∈ tables_1, d.before a0 Z = true) : (Jvm.Cond.code ({ cls := "com/example/trim_hedge/trimhedge/xml/XmlCharsIsNameStartCharPinLaw", name := "inside", desc := "(III)Z" } : Jvm.MethodName) method_2_code (3 : Nat) (Option.some Jvm.ClassFile.FieldType.boolean)).before a0 Z = true := hw _ (List.mem_of_getElem? (i := 23) rfl)
theorem t24 {Z : State} {a0 : Array Value} (hw : ∀ d ∈ tables_1, d.before a0 Z = true) : (Jvm.Cond.constant "com/example/trim_hedge/trimhedge/xml/XmlCharsIsNameStartCharPinLaw" (14 : Nat) (55296 : Int32)).before a0 Z = true := hw _ (List.mem_of_getElem? (i := 24) rfl)
theorem t25 {Z : State} {a0 : Array Value} (hw : ∀ d ∈ tables_1, d.before a0 Z = true) : (Jvm.Cond.constant "com/example/trim_hedge/trimhedge/xml/XmlCharsIsNameStartCharPinLaw" (15 : Nat) (63743 : Int32)).before a0 Z = true := hw _ (List.mem_of_getElem? (i := 25) rfl)
theorem t26 {Z : State} {a0 : Array Value} (hw : ∀ d ∈ tables_1, d.before a0 Z = true) : (Jvm.Cond.constant "com/example/trim_hedge/trimhedge/xml/XmlCharsIsNameStartCharPinLaw" (16 : Nat) (64976 : Int32)).before a0 Z = true := hw _ (List.mem_of_getElem? (i := 26) rfl)
theorem t27 {Z : State} {a0 : Array Value} (hw : ∀ d ∈ tables_1, d.before a0 Z = true) : (Jvm.Cond.constant "com/example/trim_hedge/trimhedge/xml/XmlCharsIsNameStartCharPinLaw" (17 : Nat) (65007 : Int32)).before a0 Z = true := hw _ (List.mem_of_getElem? (i := 27) rfl)
theorem t28 {Z : State} {a0 : Array Value} (hw : ∀ d ∈ tables_1, d.before a0 Z = true) : (Jvm.Cond.constant "com/example/trim_hedge/trimhedge/xml/XmlCharsIsNameStartCharPinLaw" (18 : Nat) (65534 : Int32)).before a0 Z = true := hw _ (List.mem_of_getElem? (i := 28) rfl)
theorem t29 {Z : State} {a0 : Array Value} (hw : ∀ d ∈ tables_1, d.before a0 Z = true) : (Jvm.Cond.constant "com/example/trim_hedge/trimhedge/xml/XmlCharsIsNameStartCharPinLaw" (19 : Nat) (65535 : Int32)).before a0 Z = true := hw _ (List.mem_of_getElem? (i := 29) rfl)
theorem t30 {Z : State} {a0 : Array Value} (hw : ∀ d ∈ tables_1, d.before a0 Z = true) : (Jvm.Cond.constant "com/example/trim_hedge/trimhedge/xml/XmlChars" (82 : Nat) (55295 : Int32)).before a0 Z = true := hw _ (List.mem_of_getElem? (i := 30) rfl)
theorem t31 {Z : State} {a0 : Array Value} (hw : ∀ d ∈ tables_1, d.before a0 Z = true) : (Jvm.Cond.constant "com/example/trim_hedge/trimhedge/xml/XmlChars" (92 : Nat) (64975 : Int32)).before a0 Z = true := hw _ (List.mem_of_getElem? (i := 31) rfl)
theorem t32 {Z : State} {a0 : Array Value} (hw : ∀ d ∈ tables_1, d.before a0 Z = true) : (Jvm.Cond.constant "com/example/trim_hedge/trimhedge/xml/XmlChars" (84 : Nat) (65533 : Int32)).before a0 Z = true := hw _ (List.mem_of_getElem? (i := 32) rfl)
theorem t33 {Z : State} {a0 : Array Value} (hw : ∀ d ∈ tables_1, d.before a0 Z = true) : (Jvm.Cond.constant "com/example/trim_hedge/trimhedge/xml/XmlChars" (94 : Nat) (983039 : Int32)).before a0 Z = true := hw _ (List.mem_of_getElem? (i := 33) rfl)
theorem d1_0 : decode method_2_code 0 = .ok (.iload_n 0, 1) := by decide +kernel
theorem d1_1 : decode method_2_code 1 = .ok (.iload_n 1, 1) := by decide +kernel
theorem d1_2 : decode method_2_code 2 = .ok (.if_icmp .lt 12, 3) := by decide +kernel
theorem d1_14 : decode method_2_code 14 = .ok (.iconst 0, 1) := by decide +kernel
theorem d1_15 : decode method_2_code 15 = .ok (.ireturn, 1) := by decide +kernel
theorem d1_5 : decode method_2_code 5 = .ok (.iload_n 0, 1) := by decide +kernel
theorem d1_6 : decode method_2_code 6 = .ok (.iload_n 2, 1) := by decide +kernel
theorem d1_7 : decode method_2_code 7 = .ok (.if_icmp .gt 7, 3) := by decide +kernel
theorem d1_10 : decode method_2_code 10 = .ok (.iconst 1, 1) := by decide +kernel
theorem d1_11 : decode method_2_code 11 = .ok (.goto 4, 3) := by decide +kernel
theorem d2_178 : decode method_3_code 178 = .ok (.iconst 0, 1) := by decide +kernel
theorem d2_179 : decode method_3_code 179 = .ok (.ireturn, 1) := by decide +kernel
theorem d2_143 : decode method_3_code 143 = .ok (.iconst 0, 1) := by decide +kernel
theorem d2_144 : decode method_3_code 144 = .ok (.ireturn, 1) := by decide +kernel
theorem d2_115 : decode method_3_code 115 = .ok (.iconst 0, 1) := by decide +kernel
theorem d2_116 : decode method_3_code 116 = .ok (.ireturn, 1) := by decide +kernel
theorem d2_87 : decode method_3_code 87 = .ok (.iconst 0, 1) := by decide +kernel
theorem d2_88 : decode method_3_code 88 = .ok (.ireturn, 1) := by decide +kernel
theorem d2_51 : decode method_3_code 51 = .ok (.iconst 0, 1) := by decide +kernel
theorem d2_52 : decode method_3_code 52 = .ok (.ireturn, 1) := by decide +kernel
theorem d2_20 : decode method_3_code 20 = .ok (.iconst 0, 1) := by decide +kernel
theorem d2_21 : decode method_3_code 21 = .ok (.ireturn, 1) := by decide +kernel
theorem d2_0 : decode method_3_code 0 = .ok (.iload_n 0, 1) := by decide +kernel
theorem d2_1 : decode method_3_code 1 = .ok (.bipush 58, 2) := by decide +kernel
theorem d2_3 : decode method_3_code 3 = .ok (.if_icmp .ne 5, 3) := by decide +kernel
theorem d2_8 : decode method_3_code 8 = .ok (.iload_n 0, 1) := by decide +kernel
theorem d2_9 : decode method_3_code 9 = .ok (.bipush 65, 2) := by decide +kernel
theorem d2_11 : decode method_3_code 11 = .ok (.if_icmp .lt 9, 3) := by decide +kernel
theorem d2_14 : decode method_3_code 14 = .ok (.iload_n 0, 1) := by decide +kernel
theorem d2_15 : decode method_3_code 15 = .ok (.ldc 7, 2) := by decide +kernel
theorem d2_17 : decode method_3_code 17 = .ok (.if_icmp .le 5, 3) := by decide +kernel
theorem d2_22 : decode method_3_code 22 = .ok (.iload_n 0, 1) := by decide +kernel
theorem d2_23 : decode method_3_code 23 = .ok (.bipush 91, 2) := by decide +kernel
theorem d2_25 : decode method_3_code 25 = .ok (.bipush 94, 2) := by decide +kernel
theorem d2_27 : decode method_3_code 27 = .ok (.invokestatic 8, 3) := by decide +kernel
theorem d2_30 : decode method_3_code 30 = .ok (.ifCond .ne 21, 3) := by decide +kernel
theorem d2_33 : decode method_3_code 33 = .ok (.iload_n 0, 1) := by decide +kernel
theorem d2_34 : decode method_3_code 34 = .ok (.bipush 96, 2) := by decide +kernel
theorem d2_36 : decode method_3_code 36 = .ok (.if_icmp .eq 15, 3) := by decide +kernel
theorem d2_39 : decode method_3_code 39 = .ok (.iload_n 0, 1) := by decide +kernel
theorem d2_40 : decode method_3_code 40 = .ok (.bipush 123, 2) := by decide +kernel
theorem d2_42 : decode method_3_code 42 = .ok (.sipush 191, 3) := by decide +kernel
theorem d2_45 : decode method_3_code 45 = .ok (.invokestatic 8, 3) := by decide +kernel
theorem d2_48 : decode method_3_code 48 = .ok (.ifCond .eq 5, 3) := by decide +kernel
theorem d2_53 : decode method_3_code 53 = .ok (.iload_n 0, 1) := by decide +kernel
theorem d2_54 : decode method_3_code 54 = .ok (.sipush 215, 3) := by decide +kernel
theorem d2_57 : decode method_3_code 57 = .ok (.if_icmp .eq 30, 3) := by decide +kernel
theorem d2_60 : decode method_3_code 60 = .ok (.iload_n 0, 1) := by decide +kernel
theorem d2_61 : decode method_3_code 61 = .ok (.sipush 247, 3) := by decide +kernel
theorem d2_64 : decode method_3_code 64 = .ok (.if_icmp .eq 23, 3) := by decide +kernel
theorem d2_67 : decode method_3_code 67 = .ok (.iload_n 0, 1) := by decide +kernel
theorem d2_68 : decode method_3_code 68 = .ok (.sipush 768, 3) := by decide +kernel
theorem d2_71 : decode method_3_code 71 = .ok (.sipush 879, 3) := by decide +kernel
theorem d2_74 : decode method_3_code 74 = .ok (.invokestatic 8, 3) := by decide +kernel
theorem d2_77 : decode method_3_code 77 = .ok (.ifCond .ne 10, 3) := by decide +kernel
theorem d2_80 : decode method_3_code 80 = .ok (.iload_n 0, 1) := by decide +kernel
theorem d2_81 : decode method_3_code 81 = .ok (.sipush 894, 3) := by decide +kernel
theorem d2_84 : decode method_3_code 84 = .ok (.if_icmp .ne 5, 3) := by decide +kernel
theorem d2_89 : decode method_3_code 89 = .ok (.iload_n 0, 1) := by decide +kernel
theorem d2_90 : decode method_3_code 90 = .ok (.sipush 8192, 3) := by decide +kernel
theorem d2_93 : decode method_3_code 93 = .ok (.sipush 8203, 3) := by decide +kernel
theorem d2_96 : decode method_3_code 96 = .ok (.invokestatic 8, 3) := by decide +kernel
theorem d2_99 : decode method_3_code 99 = .ok (.ifCond .ne 16, 3) := by decide +kernel
theorem d2_102 : decode method_3_code 102 = .ok (.iload_n 0, 1) := by decide +kernel
theorem d2_103 : decode method_3_code 103 = .ok (.sipush 8206, 3) := by decide +kernel
theorem d2_106 : decode method_3_code 106 = .ok (.sipush 8303, 3) := by decide +kernel
theorem d2_109 : decode method_3_code 109 = .ok (.invokestatic 8, 3) := by decide +kernel
theorem d2_112 : decode method_3_code 112 = .ok (.ifCond .eq 5, 3) := by decide +kernel
theorem d2_117 : decode method_3_code 117 = .ok (.iload_n 0, 1) := by decide +kernel
theorem d2_118 : decode method_3_code 118 = .ok (.sipush 8592, 3) := by decide +kernel
theorem d2_121 : decode method_3_code 121 = .ok (.sipush 11263, 3) := by decide +kernel
theorem d2_124 : decode method_3_code 124 = .ok (.invokestatic 8, 3) := by decide +kernel
theorem d2_127 : decode method_3_code 127 = .ok (.ifCond .ne 16, 3) := by decide +kernel
theorem d2_130 : decode method_3_code 130 = .ok (.iload_n 0, 1) := by decide +kernel
theorem d2_131 : decode method_3_code 131 = .ok (.sipush 12272, 3) := by decide +kernel
theorem d2_134 : decode method_3_code 134 = .ok (.sipush 12288, 3) := by decide +kernel
theorem d2_137 : decode method_3_code 137 = .ok (.invokestatic 8, 3) := by decide +kernel
theorem d2_140 : decode method_3_code 140 = .ok (.ifCond .eq 5, 3) := by decide +kernel
theorem d2_145 : decode method_3_code 145 = .ok (.iload_n 0, 1) := by decide +kernel
theorem d2_146 : decode method_3_code 146 = .ok (.ldc 14, 2) := by decide +kernel
theorem d2_148 : decode method_3_code 148 = .ok (.ldc 15, 2) := by decide +kernel
theorem d2_150 : decode method_3_code 150 = .ok (.invokestatic 8, 3) := by decide +kernel
theorem d2_153 : decode method_3_code 153 = .ok (.ifCond .ne 25, 3) := by decide +kernel
theorem d2_156 : decode method_3_code 156 = .ok (.iload_n 0, 1) := by decide +kernel
theorem d2_157 : decode method_3_code 157 = .ok (.ldc 16, 2) := by decide +kernel
theorem d2_159 : decode method_3_code 159 = .ok (.ldc 17, 2) := by decide +kernel
theorem d2_161 : decode method_3_code 161 = .ok (.invokestatic 8, 3) := by decide +kernel
theorem d2_164 : decode method_3_code 164 = .ok (.ifCond .ne 14, 3) := by decide +kernel
theorem d2_167 : decode method_3_code 167 = .ok (.iload_n 0, 1) := by decide +kernel
theorem d2_168 : decode method_3_code 168 = .ok (.ldc 18, 2) := by decide +kernel
theorem d2_170 : decode method_3_code 170 = .ok (.ldc 19, 2) := by decide +kernel
theorem d2_172 : decode method_3_code 172 = .ok (.invokestatic 8, 3) := by decide +kernel
theorem d2_175 : decode method_3_code 175 = .ok (.ifCond .eq 5, 3) := by decide +kernel
theorem d2_180 : decode method_3_code 180 = .ok (.iconst 1, 1) := by decide +kernel
theorem d2_181 : decode method_3_code 181 = .ok (.ireturn, 1) := by decide +kernel
theorem d2_6 : decode method_3_code 6 = .ok (.iconst 1, 1) := by decide +kernel
theorem d2_7 : decode method_3_code 7 = .ok (.ireturn, 1) := by decide +kernel
theorem d3_201 : decode prog_155_method_21_code 201 = .ok (.iconst 0, 1) := by decide +kernel
theorem d3_202 : decode prog_155_method_21_code 202 = .ok (.ireturn, 1) := by decide +kernel
theorem d3_197 : decode prog_155_method_21_code 197 = .ok (.iconst 1, 1) := by decide +kernel
theorem d3_198 : decode prog_155_method_21_code 198 = .ok (.goto 4, 3) := by decide +kernel
theorem d3_185 : decode prog_155_method_21_code 185 = .ok (.iload_n 0, 1) := by decide +kernel
theorem d3_186 : decode prog_155_method_21_code 186 = .ok (.ldc 85, 2) := by decide +kernel
theorem d3_188 : decode prog_155_method_21_code 188 = .ok (.if_icmp .lt 13, 3) := by decide +kernel
theorem d3_191 : decode prog_155_method_21_code 191 = .ok (.iload_n 0, 1) := by decide +kernel
theorem d3_192 : decode prog_155_method_21_code 192 = .ok (.ldc 94, 2) := by decide +kernel
theorem d3_194 : decode prog_155_method_21_code 194 = .ok (.if_icmp .gt 7, 3) := by decide +kernel
theorem d3_173 : decode prog_155_method_21_code 173 = .ok (.iload_n 0, 1) := by decide +kernel
theorem d3_174 : decode prog_155_method_21_code 174 = .ok (.ldc 93, 2) := by decide +kernel
theorem d3_176 : decode prog_155_method_21_code 176 = .ok (.if_icmp .lt 9, 3) := by decide +kernel
theorem d3_179 : decode prog_155_method_21_code 179 = .ok (.iload_n 0, 1) := by decide +kernel
theorem d3_180 : decode prog_155_method_21_code 180 = .ok (.ldc 84, 2) := by decide +kernel
theorem d3_182 : decode prog_155_method_21_code 182 = .ok (.if_icmp .le 15, 3) := by decide +kernel
theorem d3_161 : decode prog_155_method_21_code 161 = .ok (.iload_n 0, 1) := by decide +kernel
theorem d3_162 : decode prog_155_method_21_code 162 = .ok (.ldc 91, 2) := by decide +kernel
theorem d3_164 : decode prog_155_method_21_code 164 = .ok (.if_icmp .lt 9, 3) := by decide +kernel
theorem d3_167 : decode prog_155_method_21_code 167 = .ok (.iload_n 0, 1) := by decide +kernel
theorem d3_168 : decode prog_155_method_21_code 168 = .ok (.ldc 92, 2) := by decide +kernel
theorem d3_170 : decode prog_155_method_21_code 170 = .ok (.if_icmp .le 27, 3) := by decide +kernel
theorem d3_148 : decode prog_155_method_21_code 148 = .ok (.iload_n 0, 1) := by decide +kernel
theorem d3_149 : decode prog_155_method_21_code 149 = .ok (.sipush 12289, 3) := by decide +kernel
theorem d3_152 : decode prog_155_method_21_code 152 = .ok (.if_icmp .lt 9, 3) := by decide +kernel
theorem d3_155 : decode prog_155_method_21_code 155 = .ok (.iload_n 0, 1) := by decide +kernel
theorem d3_156 : decode prog_155_method_21_code 156 = .ok (.ldc 82, 2) := by decide +kernel
theorem d3_158 : decode prog_155_method_21_code 158 = .ok (.if_icmp .le 39, 3) := by decide +kernel
theorem d3_134 : decode prog_155_method_21_code 134 = .ok (.iload_n 0, 1) := by decide +kernel
theorem d3_135 : decode prog_155_method_21_code 135 = .ok (.sipush 11264, 3) := by decide +kernel
theorem d3_138 : decode prog_155_method_21_code 138 = .ok (.if_icmp .lt 10, 3) := by decide +kernel
theorem d3_141 : decode prog_155_method_21_code 141 = .ok (.iload_n 0, 1) := by decide +kernel
theorem d3_142 : decode prog_155_method_21_code 142 = .ok (.sipush 12271, 3) := by decide +kernel
theorem d3_145 : decode prog_155_method_21_code 145 = .ok (.if_icmp .le 52, 3) := by decide +kernel
theorem d3_120 : decode prog_155_method_21_code 120 = .ok (.iload_n 0, 1) := by decide +kernel
theorem d3_121 : decode prog_155_method_21_code 121 = .ok (.sipush 8304, 3) := by decide +kernel
theorem d3_124 : decode prog_155_method_21_code 124 = .ok (.if_icmp .lt 10, 3) := by decide +kernel
theorem d3_127 : decode prog_155_method_21_code 127 = .ok (.iload_n 0, 1) := by decide +kernel
theorem d3_128 : decode prog_155_method_21_code 128 = .ok (.sipush 8591, 3) := by decide +kernel
theorem d3_131 : decode prog_155_method_21_code 131 = .ok (.if_icmp .le 66, 3) := by decide +kernel
theorem d3_106 : decode prog_155_method_21_code 106 = .ok (.iload_n 0, 1) := by decide +kernel
theorem d3_107 : decode prog_155_method_21_code 107 = .ok (.sipush 8204, 3) := by decide +kernel
theorem d3_110 : decode prog_155_method_21_code 110 = .ok (.if_icmp .lt 10, 3) := by decide +kernel
theorem d3_113 : decode prog_155_method_21_code 113 = .ok (.iload_n 0, 1) := by decide +kernel
theorem d3_114 : decode prog_155_method_21_code 114 = .ok (.sipush 8205, 3) := by decide +kernel
theorem d3_117 : decode prog_155_method_21_code 117 = .ok (.if_icmp .le 80, 3) := by decide +kernel
theorem d3_92 : decode prog_155_method_21_code 92 = .ok (.iload_n 0, 1) := by decide +kernel
theorem d3_93 : decode prog_155_method_21_code 93 = .ok (.sipush 895, 3) := by decide +kernel
theorem d3_96 : decode prog_155_method_21_code 96 = .ok (.if_icmp .lt 10, 3) := by decide +kernel
theorem d3_99 : decode prog_155_method_21_code 99 = .ok (.iload_n 0, 1) := by decide +kernel
theorem d3_100 : decode prog_155_method_21_code 100 = .ok (.sipush 8191, 3) := by decide +kernel
theorem d3_103 : decode prog_155_method_21_code 103 = .ok (.if_icmp .le 94, 3) := by decide +kernel
theorem d3_78 : decode prog_155_method_21_code 78 = .ok (.iload_n 0, 1) := by decide +kernel
theorem d3_79 : decode prog_155_method_21_code 79 = .ok (.sipush 880, 3) := by decide +kernel
theorem d3_82 : decode prog_155_method_21_code 82 = .ok (.if_icmp .lt 10, 3) := by decide +kernel
theorem d3_85 : decode prog_155_method_21_code 85 = .ok (.iload_n 0, 1) := by decide +kernel
theorem d3_86 : decode prog_155_method_21_code 86 = .ok (.sipush 893, 3) := by decide +kernel
theorem d3_89 : decode prog_155_method_21_code 89 = .ok (.if_icmp .le 108, 3) := by decide +kernel
theorem d3_64 : decode prog_155_method_21_code 64 = .ok (.iload_n 0, 1) := by decide +kernel
theorem d3_65 : decode prog_155_method_21_code 65 = .ok (.sipush 248, 3) := by decide +kernel
theorem d3_68 : decode prog_155_method_21_code 68 = .ok (.if_icmp .lt 10, 3) := by decide +kernel
theorem d3_71 : decode prog_155_method_21_code 71 = .ok (.iload_n 0, 1) := by decide +kernel
theorem d3_72 : decode prog_155_method_21_code 72 = .ok (.sipush 767, 3) := by decide +kernel
theorem d3_75 : decode prog_155_method_21_code 75 = .ok (.if_icmp .le 122, 3) := by decide +kernel
theorem d3_50 : decode prog_155_method_21_code 50 = .ok (.iload_n 0, 1) := by decide +kernel
theorem d3_51 : decode prog_155_method_21_code 51 = .ok (.sipush 216, 3) := by decide +kernel
theorem d3_54 : decode prog_155_method_21_code 54 = .ok (.if_icmp .lt 10, 3) := by decide +kernel
theorem d3_57 : decode prog_155_method_21_code 57 = .ok (.iload_n 0, 1) := by decide +kernel
theorem d3_58 : decode prog_155_method_21_code 58 = .ok (.sipush 246, 3) := by decide +kernel
theorem d3_61 : decode prog_155_method_21_code 61 = .ok (.if_icmp .le 136, 3) := by decide +kernel
theorem d3_36 : decode prog_155_method_21_code 36 = .ok (.iload_n 0, 1) := by decide +kernel
theorem d3_37 : decode prog_155_method_21_code 37 = .ok (.sipush 192, 3) := by decide +kernel
theorem d3_40 : decode prog_155_method_21_code 40 = .ok (.if_icmp .lt 10, 3) := by decide +kernel
theorem d3_43 : decode prog_155_method_21_code 43 = .ok (.iload_n 0, 1) := by decide +kernel
theorem d3_44 : decode prog_155_method_21_code 44 = .ok (.sipush 214, 3) := by decide +kernel
theorem d3_47 : decode prog_155_method_21_code 47 = .ok (.if_icmp .le 150, 3) := by decide +kernel
theorem d3_18 : decode prog_155_method_21_code 18 = .ok (.iload_n 0, 1) := by decide +kernel
theorem d3_19 : decode prog_155_method_21_code 19 = .ok (.bipush 95, 2) := by decide +kernel
theorem d3_21 : decode prog_155_method_21_code 21 = .ok (.if_icmp .eq 176, 3) := by decide +kernel
theorem d3_24 : decode prog_155_method_21_code 24 = .ok (.iload_n 0, 1) := by decide +kernel
theorem d3_25 : decode prog_155_method_21_code 25 = .ok (.bipush 97, 2) := by decide +kernel
theorem d3_27 : decode prog_155_method_21_code 27 = .ok (.if_icmp .lt 9, 3) := by decide +kernel
theorem d3_30 : decode prog_155_method_21_code 30 = .ok (.iload_n 0, 1) := by decide +kernel
theorem d3_31 : decode prog_155_method_21_code 31 = .ok (.bipush 122, 2) := by decide +kernel
theorem d3_33 : decode prog_155_method_21_code 33 = .ok (.if_icmp .le 164, 3) := by decide +kernel
theorem d3_0 : decode prog_155_method_21_code 0 = .ok (.iload_n 0, 1) := by decide +kernel
theorem d3_1 : decode prog_155_method_21_code 1 = .ok (.bipush 58, 2) := by decide +kernel
theorem d3_3 : decode prog_155_method_21_code 3 = .ok (.if_icmp .eq 194, 3) := by decide +kernel
theorem d3_6 : decode prog_155_method_21_code 6 = .ok (.iload_n 0, 1) := by decide +kernel
theorem d3_7 : decode prog_155_method_21_code 7 = .ok (.bipush 65, 2) := by decide +kernel
theorem d3_9 : decode prog_155_method_21_code 9 = .ok (.if_icmp .lt 9, 3) := by decide +kernel
theorem d3_12 : decode prog_155_method_21_code 12 = .ok (.iload_n 0, 1) := by decide +kernel
theorem d3_13 : decode prog_155_method_21_code 13 = .ok (.bipush 90, 2) := by decide +kernel
theorem d3_15 : decode prog_155_method_21_code 15 = .ok (.if_icmp .le 182, 3) := by decide +kernel
theorem pd0 : parseMethodDescriptor "(III)Z" = some ⟨[.int, .int, .int], some .boolean⟩ := by decide +kernel
theorem pd1 : parseMethodDescriptor "(I)Z" = some ⟨[.int], some .boolean⟩ := by decide +kernel
theorem pn0 : plainName "com/example/trim_hedge/trimhedge/xml/XmlCharsIsNameStartCharPinLaw" = true := by first | (simp [plainName, overriddenIn]; done) | decide +kernel
theorem pn1 : plainName "com/example/trim_hedge/trimhedge/xml/XmlChars" = true := by first | (simp [plainName, overriddenIn]; done) | decide +kernel
end Facts
def own_ns (c : Int) : Bool := decide ((58 ≤ c ∧ c ≤ 58) ∨ (65 ≤ c ∧ c ≤ 90) ∨ (95 ≤ c ∧ c ≤ 95) ∨ (97 ≤ c ∧ c ≤ 122) ∨ (192 ≤ c ∧ c ≤ 214) ∨ (216 ≤ c ∧ c ≤ 246) ∨ (248 ≤ c ∧ c ≤ 767) ∨ (880 ≤ c ∧ c ≤ 893) ∨ (895 ≤ c ∧ c ≤ 8191) ∨ (8204 ≤ c ∧ c ≤ 8205) ∨ (8304 ≤ c ∧ c ≤ 8591) ∨ (11264 ≤ c ∧ c ≤ 12271) ∨ (12289 ≤ c ∧ c ≤ 55295) ∨ (63744 ≤ c ∧ c ≤ 64975) ∨ (65008 ≤ c ∧ c ≤ 65533) ∨ (65536 ≤ c ∧ c ≤ 983039))
theorem own_ns_t {c : Int} (h : (58 ≤ c ∧ c ≤ 58) ∨ (65 ≤ c ∧ c ≤ 90) ∨ (95 ≤ c ∧ c ≤ 95) ∨ (97 ≤ c ∧ c ≤ 122) ∨ (192 ≤ c ∧ c ≤ 214) ∨ (216 ≤ c ∧ c ≤ 246) ∨ (248 ≤ c ∧ c ≤ 767) ∨ (880 ≤ c ∧ c ≤ 893) ∨ (895 ≤ c ∧ c ≤ 8191) ∨ (8204 ≤ c ∧ c ≤ 8205) ∨ (8304 ≤ c ∧ c ≤ 8591) ∨ (11264 ≤ c ∧ c ≤ 12271) ∨ (12289 ≤ c ∧ c ≤ 55295) ∨ (63744 ≤ c ∧ c ≤ 64975) ∨ (65008 ≤ c ∧ c ≤ 65533) ∨ (65536 ≤ c ∧ c ≤ 983039)) : (58 ≤ c ∧ c ≤ 58) ∨ (65 ≤ c ∧ c ≤ 90) ∨ (95 ≤ c ∧ c ≤ 95) ∨ (97 ≤ c ∧ c ≤ 122) ∨ (192 ≤ c ∧ c ≤ 214) ∨ (216 ≤ c ∧ c ≤ 246) ∨ (248 ≤ c ∧ c ≤ 767) ∨ (880 ≤ c ∧ c ≤ 893) ∨ (895 ≤ c ∧ c ≤ 8191) ∨ (8204 ≤ c ∧ c ≤ 8205) ∨ (8304 ≤ c ∧ c ≤ 8591) ∨ (11264 ≤ c ∧ c ≤ 12271) ∨ (12289 ≤ c ∧ c ≤ 55295) ∨ (63744 ≤ c ∧ c ≤ 64975) ∨ (65008 ≤ c ∧ c ≤ 65533) ∨ (65536 ≤ c ∧ c ≤ 983039) := h
theorem own_ns_f {c : Int} (h : ((-2147483648) ≤ c ∧ c ≤ 57) ∨ (59 ≤ c ∧ c ≤ 64) ∨ (91 ≤ c ∧ c ≤ 94) ∨ (96 ≤ c ∧ c ≤ 96) ∨ (123 ≤ c ∧ c ≤ 191) ∨ (215 ≤ c ∧ c ≤ 215) ∨ (247 ≤ c ∧ c ≤ 247) ∨ (768 ≤ c ∧ c ≤ 879) ∨ (894 ≤ c ∧ c ≤ 894) ∨ (8192 ≤ c ∧ c ≤ 8203) ∨ (8206 ≤ c ∧ c ≤ 8303) ∨ (8592 ≤ c ∧ c ≤ 11263) ∨ (12272 ≤ c ∧ c ≤ 12288) ∨ (55296 ≤ c ∧ c ≤ 63743) ∨ (64976 ≤ c ∧ c ≤ 65007) ∨ (65534 ≤ c ∧ c ≤ 65535) ∨ (983040 ≤ c ∧ c ≤ 2147483647)) : ¬ ((58 ≤ c ∧ c ≤ 58) ∨ (65 ≤ c ∧ c ≤ 90) ∨ (95 ≤ c ∧ c ≤ 95) ∨ (97 ≤ c ∧ c ≤ 122) ∨ (192 ≤ c ∧ c ≤ 214) ∨ (216 ≤ c ∧ c ≤ 246) ∨ (248 ≤ c ∧ c ≤ 767) ∨ (880 ≤ c ∧ c ≤ 893) ∨ (895 ≤ c ∧ c ≤ 8191) ∨ (8204 ≤ c ∧ c ≤ 8205) ∨ (8304 ≤ c ∧ c ≤ 8591) ∨ (11264 ≤ c ∧ c ≤ 12271) ∨ (12289 ≤ c ∧ c ≤ 55295) ∨ (63744 ≤ c ∧ c ≤ 64975) ∨ (65008 ≤ c ∧ c ≤ 65533) ∨ (65536 ≤ c ∧ c ≤ 983039)) := by
  rcases h with h | h | h | h | h | h | h | h | h | h | h | h | h | h | h | h | h <;> rintro (q | q | q | q | q | q | q | q | q | q | q | q | q | q | q | q) <;> omega

theorem own_idx (s : Int32) : ∃ k : Nat, ((s &&& 2147483647) % 30).toInt = (k : Int) ∧ k < 30 := by
  have h1 := c_mask s 2147483647 31 (by decide) (by decide)
  have h2 := c_irem (s &&& 2147483647) 30 30 (by decide)
  have h3 := rng32 s
  have h6 : ((2 ^ 31 : Nat) : Int) = 2147483648 := by decide
  rw [h6] at h1
  refine ⟨((s &&& 2147483647) % 30).toInt.toNat, ?_, ?_⟩ <;> omega

set_option maxRecDepth 65536 in
set_option maxHeartbeats 40000000 in
theorem rm3 (l : Launch) (Z : State) (a0 : Array Value) (hw : ∀ d ∈ tables_1, d.before a0 Z = true) (ch : Int32) (lo : Int32) (hi : Int32) (h0 : Heap) (n0 : Nat)  :
    Con l Z (⟨"com/example/trim_hedge/trimhedge/xml/XmlCharsIsNameStartCharPinLaw", "inside", "(III)Z"⟩ : MethodName) method_2_code 3 (some .boolean) ({ frames := 0, cells := 0, slots := 0, locals := 0 } : Room) #[(.int ch), (.int lo), (.int hi)] h0 n0 (fun v h => (∃ b : Int32, v = some (.int b) ∧ (b = 1 ∧ (lo.toInt ≤ ch.toInt ∧ ch.toInt ≤ hi.toInt) ∨ b = 0 ∧ ¬ (lo.toInt ≤ ch.toInt ∧ ch.toInt ≤ hi.toInt))) ∧ h0 = h) := by
  refine Con.of_body (plainFor_of_name pn0) #[.val (.int ch), .val (.int lo), .val (.int hi)] (fun m => by first | rfl | (simp [entryFrame, mkF, argsToLocals, Value.category]; done)) ?_
  intro p e s m below meth c C
  refine r_iload_n C d1_0 (pc' := 1) rfl rfl ?_
  refine r_iload_n C d1_1 (pc' := 2) rfl rfl ?_
  refine r_icmplt C d1_2 (pcT := 14) (pcF := 5) (by decide) rfl ?_ ?_
  · intro c2
    refine r_iconst C d1_14 (pc' := 15) rfl (z := (0 : Int32)) rfl ?_
    exact r_ireturnN (t := .boolean) (by simp) C d1_15 ⟨⟨0, rfl, Or.inr ⟨rfl, by omega⟩⟩, rfl⟩ (by decide) (by decide)
  · intro c2
    refine r_iload_n C d1_5 (pc' := 6) rfl rfl ?_
    refine r_iload_n C d1_6 (pc' := 7) rfl rfl ?_
    refine r_icmpgt C d1_7 (pcT := 14) (pcF := 10) (by decide) rfl ?_ ?_
    · intro c7
      refine r_iconst C d1_14 (pc' := 15) rfl (z := (0 : Int32)) rfl ?_
      exact r_ireturnN (t := .boolean) (by simp) C d1_15 ⟨⟨0, rfl, Or.inr ⟨rfl, by omega⟩⟩, rfl⟩ (by decide) (by decide)
    · intro c7
      refine r_iconst C d1_10 (pc' := 11) rfl (z := (1 : Int32)) rfl ?_
      refine r_goto C d1_11 (pc' := 15) (by decide) ?_
      exact r_ireturnN (t := .boolean) (by simp) C d1_15 ⟨⟨1, rfl, Or.inl ⟨rfl, by omega, by omega⟩⟩, rfl⟩ (by decide) (by decide)
set_option maxRecDepth 65536 in
set_option maxHeartbeats 40000000 in
theorem rm2 (l : Launch) (Z : State) (a0 : Array Value) (hw : ∀ d ∈ tables_1, d.before a0 Z = true) (ch : Int32) (h0 : Heap) (n0 : Nat)  :
    Con l Z (⟨"com/example/trim_hedge/trimhedge/xml/XmlCharsIsNameStartCharPinLaw", "ref", "(I)Z"⟩ : MethodName) method_3_code 1 (some .boolean) ({ frames := 1, cells := 0, slots := 0, locals := 14 } : Room) #[(.int ch)] h0 n0 (fun v h => v = some (.int (if own_ns ch.toInt then 1 else 0)) ∧ h0 = h) := by
  refine Con.of_body (plainFor_of_name pn0) #[.val (.int ch)] (fun m => by first | rfl | (simp [entryFrame, mkF, argsToLocals, Value.category]; done)) ?_
  intro p e s m below meth c C
  have hr := rng32 ch
  refine join (α := Unit) (fun _ => (55296 ≤ ch.toInt ∧ ch.toInt ≤ 63743) ∨ (64976 ≤ ch.toInt ∧ ch.toInt ≤ 65007) ∨ (65534 ≤ ch.toInt ∧ ch.toInt ≤ 65535)) (fun _ => h0) 0 0 178 (fun _ => #[.val (.int ch)]) (fun _ => []) ?_ ?_
  · rintro _ q178
    refine r_iconst C d2_178 (pc' := 179) rfl (z := (0 : Int32)) rfl ?_
    have hz : ((-2147483648) ≤ ch.toInt ∧ ch.toInt ≤ 57) ∨ (59 ≤ ch.toInt ∧ ch.toInt ≤ 64) ∨ (91 ≤ ch.toInt ∧ ch.toInt ≤ 94) ∨ (96 ≤ ch.toInt ∧ ch.toInt ≤ 96) ∨ (123 ≤ ch.toInt ∧ ch.toInt ≤ 191) ∨ (215 ≤ ch.toInt ∧ ch.toInt ≤ 215) ∨ (247 ≤ ch.toInt ∧ ch.toInt ≤ 247) ∨ (768 ≤ ch.toInt ∧ ch.toInt ≤ 879) ∨ (894 ≤ ch.toInt ∧ ch.toInt ≤ 894) ∨ (8192 ≤ ch.toInt ∧ ch.toInt ≤ 8203) ∨ (8206 ≤ ch.toInt ∧ ch.toInt ≤ 8303) ∨ (8592 ≤ ch.toInt ∧ ch.toInt ≤ 11263) ∨ (12272 ≤ ch.toInt ∧ ch.toInt ≤ 12288) ∨ (55296 ≤ ch.toInt ∧ ch.toInt ≤ 63743) ∨ (64976 ≤ ch.toInt ∧ ch.toInt ≤ 65007) ∨ (65534 ≤ ch.toInt ∧ ch.toInt ≤ 65535) ∨ (983040 ≤ ch.toInt ∧ ch.toInt ≤ 2147483647) := by
      rcases q178 with q | q | q
      · exact (Or.inr (Or.inr (Or.inr (Or.inr (Or.inr (Or.inr (Or.inr (Or.inr (Or.inr (Or.inr (Or.inr (Or.inr (Or.inr (Or.inl ⟨by omega, by omega⟩))))))))))))))
      · exact (Or.inr (Or.inr (Or.inr (Or.inr (Or.inr (Or.inr (Or.inr (Or.inr (Or.inr (Or.inr (Or.inr (Or.inr (Or.inr (Or.inr (Or.inl ⟨by omega, by omega⟩)))))))))))))))
      · exact (Or.inr (Or.inr (Or.inr (Or.inr (Or.inr (Or.inr (Or.inr (Or.inr (Or.inr (Or.inr (Or.inr (Or.inr (Or.inr (Or.inr (Or.inr (Or.inl ⟨by omega, by omega⟩))))))))))))))))
    exact r_ireturnN (t := .boolean) (by simp) C d2_179 ⟨by rw [show own_ns ch.toInt = false from decide_eq_false (own_ns_f hz)]; rfl, rfl⟩ (by decide) (by decide)
  intro J178
  refine join (α := Unit) (fun _ => (8592 ≤ ch.toInt ∧ ch.toInt ≤ 11263) ∨ (12272 ≤ ch.toInt ∧ ch.toInt ≤ 12288)) (fun _ => h0) 0 0 143 (fun _ => #[.val (.int ch)]) (fun _ => []) ?_ ?_
  · rintro _ q143
    refine r_iconst C d2_143 (pc' := 144) rfl (z := (0 : Int32)) rfl ?_
    have hz : ((-2147483648) ≤ ch.toInt ∧ ch.toInt ≤ 57) ∨ (59 ≤ ch.toInt ∧ ch.toInt ≤ 64) ∨ (91 ≤ ch.toInt ∧ ch.toInt ≤ 94) ∨ (96 ≤ ch.toInt ∧ ch.toInt ≤ 96) ∨ (123 ≤ ch.toInt ∧ ch.toInt ≤ 191) ∨ (215 ≤ ch.toInt ∧ ch.toInt ≤ 215) ∨ (247 ≤ ch.toInt ∧ ch.toInt ≤ 247) ∨ (768 ≤ ch.toInt ∧ ch.toInt ≤ 879) ∨ (894 ≤ ch.toInt ∧ ch.toInt ≤ 894) ∨ (8192 ≤ ch.toInt ∧ ch.toInt ≤ 8203) ∨ (8206 ≤ ch.toInt ∧ ch.toInt ≤ 8303) ∨ (8592 ≤ ch.toInt ∧ ch.toInt ≤ 11263) ∨ (12272 ≤ ch.toInt ∧ ch.toInt ≤ 12288) ∨ (55296 ≤ ch.toInt ∧ ch.toInt ≤ 63743) ∨ (64976 ≤ ch.toInt ∧ ch.toInt ≤ 65007) ∨ (65534 ≤ ch.toInt ∧ ch.toInt ≤ 65535) ∨ (983040 ≤ ch.toInt ∧ ch.toInt ≤ 2147483647) := by
      rcases q143 with q | q
      · exact (Or.inr (Or.inr (Or.inr (Or.inr (Or.inr (Or.inr (Or.inr (Or.inr (Or.inr (Or.inr (Or.inr (Or.inl ⟨by omega, by omega⟩))))))))))))
      · exact (Or.inr (Or.inr (Or.inr (Or.inr (Or.inr (Or.inr (Or.inr (Or.inr (Or.inr (Or.inr (Or.inr (Or.inr (Or.inl ⟨by omega, by omega⟩)))))))))))))
    exact r_ireturnN (t := .boolean) (by simp) C d2_144 ⟨by rw [show own_ns ch.toInt = false from decide_eq_false (own_ns_f hz)]; rfl, rfl⟩ (by decide) (by decide)
  intro J143
  refine join (α := Unit) (fun _ => (8192 ≤ ch.toInt ∧ ch.toInt ≤ 8203) ∨ (8206 ≤ ch.toInt ∧ ch.toInt ≤ 8303)) (fun _ => h0) 0 0 115 (fun _ => #[.val (.int ch)]) (fun _ => []) ?_ ?_
  · rintro _ q115
    refine r_iconst C d2_115 (pc' := 116) rfl (z := (0 : Int32)) rfl ?_
    have hz : ((-2147483648) ≤ ch.toInt ∧ ch.toInt ≤ 57) ∨ (59 ≤ ch.toInt ∧ ch.toInt ≤ 64) ∨ (91 ≤ ch.toInt ∧ ch.toInt ≤ 94) ∨ (96 ≤ ch.toInt ∧ ch.toInt ≤ 96) ∨ (123 ≤ ch.toInt ∧ ch.toInt ≤ 191) ∨ (215 ≤ ch.toInt ∧ ch.toInt ≤ 215) ∨ (247 ≤ ch.toInt ∧ ch.toInt ≤ 247) ∨ (768 ≤ ch.toInt ∧ ch.toInt ≤ 879) ∨ (894 ≤ ch.toInt ∧ ch.toInt ≤ 894) ∨ (8192 ≤ ch.toInt ∧ ch.toInt ≤ 8203) ∨ (8206 ≤ ch.toInt ∧ ch.toInt ≤ 8303) ∨ (8592 ≤ ch.toInt ∧ ch.toInt ≤ 11263) ∨ (12272 ≤ ch.toInt ∧ ch.toInt ≤ 12288) ∨ (55296 ≤ ch.toInt ∧ ch.toInt ≤ 63743) ∨ (64976 ≤ ch.toInt ∧ ch.toInt ≤ 65007) ∨ (65534 ≤ ch.toInt ∧ ch.toInt ≤ 65535) ∨ (983040 ≤ ch.toInt ∧ ch.toInt ≤ 2147483647) := by
      rcases q115 with q | q
      · exact (Or.inr (Or.inr (Or.inr (Or.inr (Or.inr (Or.inr (Or.inr (Or.inr (Or.inr (Or.inl ⟨by omega, by omega⟩))))))))))
      · exact (Or.inr (Or.inr (Or.inr (Or.inr (Or.inr (Or.inr (Or.inr (Or.inr (Or.inr (Or.inr (Or.inl ⟨by omega, by omega⟩)))))))))))
    exact r_ireturnN (t := .boolean) (by simp) C d2_116 ⟨by rw [show own_ns ch.toInt = false from decide_eq_false (own_ns_f hz)]; rfl, rfl⟩ (by decide) (by decide)
  intro J115
  refine join (α := Unit) (fun _ => (215 ≤ ch.toInt ∧ ch.toInt ≤ 215) ∨ (247 ≤ ch.toInt ∧ ch.toInt ≤ 247) ∨ (768 ≤ ch.toInt ∧ ch.toInt ≤ 879) ∨ (894 ≤ ch.toInt ∧ ch.toInt ≤ 894)) (fun _ => h0) 0 0 87 (fun _ => #[.val (.int ch)]) (fun _ => []) ?_ ?_
  · rintro _ q87
    refine r_iconst C d2_87 (pc' := 88) rfl (z := (0 : Int32)) rfl ?_
    have hz : ((-2147483648) ≤ ch.toInt ∧ ch.toInt ≤ 57) ∨ (59 ≤ ch.toInt ∧ ch.toInt ≤ 64) ∨ (91 ≤ ch.toInt ∧ ch.toInt ≤ 94) ∨ (96 ≤ ch.toInt ∧ ch.toInt ≤ 96) ∨ (123 ≤ ch.toInt ∧ ch.toInt ≤ 191) ∨ (215 ≤ ch.toInt ∧ ch.toInt ≤ 215) ∨ (247 ≤ ch.toInt ∧ ch.toInt ≤ 247) ∨ (768 ≤ ch.toInt ∧ ch.toInt ≤ 879) ∨ (894 ≤ ch.toInt ∧ ch.toInt ≤ 894) ∨ (8192 ≤ ch.toInt ∧ ch.toInt ≤ 8203) ∨ (8206 ≤ ch.toInt ∧ ch.toInt ≤ 8303) ∨ (8592 ≤ ch.toInt ∧ ch.toInt ≤ 11263) ∨ (12272 ≤ ch.toInt ∧ ch.toInt ≤ 12288) ∨ (55296 ≤ ch.toInt ∧ ch.toInt ≤ 63743) ∨ (64976 ≤ ch.toInt ∧ ch.toInt ≤ 65007) ∨ (65534 ≤ ch.toInt ∧ ch.toInt ≤ 65535) ∨ (983040 ≤ ch.toInt ∧ ch.toInt ≤ 2147483647) := by
      rcases q87 with q | q | q | q
      · exact (Or.inr (Or.inr (Or.inr (Or.inr (Or.inr (Or.inl ⟨by omega, by omega⟩))))))
      · exact (Or.inr (Or.inr (Or.inr (Or.inr (Or.inr (Or.inr (Or.inl ⟨by omega, by omega⟩)))))))
      · exact (Or.inr (Or.inr (Or.inr (Or.inr (Or.inr (Or.inr (Or.inr (Or.inl ⟨by omega, by omega⟩))))))))
      · exact (Or.inr (Or.inr (Or.inr (Or.inr (Or.inr (Or.inr (Or.inr (Or.inr (Or.inl ⟨by omega, by omega⟩)))))))))
    exact r_ireturnN (t := .boolean) (by simp) C d2_88 ⟨by rw [show own_ns ch.toInt = false from decide_eq_false (own_ns_f hz)]; rfl, rfl⟩ (by decide) (by decide)
  intro J87
  refine join (α := Unit) (fun _ => (91 ≤ ch.toInt ∧ ch.toInt ≤ 94) ∨ (96 ≤ ch.toInt ∧ ch.toInt ≤ 96) ∨ (123 ≤ ch.toInt ∧ ch.toInt ≤ 191)) (fun _ => h0) 0 0 51 (fun _ => #[.val (.int ch)]) (fun _ => []) ?_ ?_
  · rintro _ q51
    refine r_iconst C d2_51 (pc' := 52) rfl (z := (0 : Int32)) rfl ?_
    have hz : ((-2147483648) ≤ ch.toInt ∧ ch.toInt ≤ 57) ∨ (59 ≤ ch.toInt ∧ ch.toInt ≤ 64) ∨ (91 ≤ ch.toInt ∧ ch.toInt ≤ 94) ∨ (96 ≤ ch.toInt ∧ ch.toInt ≤ 96) ∨ (123 ≤ ch.toInt ∧ ch.toInt ≤ 191) ∨ (215 ≤ ch.toInt ∧ ch.toInt ≤ 215) ∨ (247 ≤ ch.toInt ∧ ch.toInt ≤ 247) ∨ (768 ≤ ch.toInt ∧ ch.toInt ≤ 879) ∨ (894 ≤ ch.toInt ∧ ch.toInt ≤ 894) ∨ (8192 ≤ ch.toInt ∧ ch.toInt ≤ 8203) ∨ (8206 ≤ ch.toInt ∧ ch.toInt ≤ 8303) ∨ (8592 ≤ ch.toInt ∧ ch.toInt ≤ 11263) ∨ (12272 ≤ ch.toInt ∧ ch.toInt ≤ 12288) ∨ (55296 ≤ ch.toInt ∧ ch.toInt ≤ 63743) ∨ (64976 ≤ ch.toInt ∧ ch.toInt ≤ 65007) ∨ (65534 ≤ ch.toInt ∧ ch.toInt ≤ 65535) ∨ (983040 ≤ ch.toInt ∧ ch.toInt ≤ 2147483647) := by
      rcases q51 with q | q | q
      · exact (Or.inr (Or.inr (Or.inl ⟨by omega, by omega⟩)))
      · exact (Or.inr (Or.inr (Or.inr (Or.inl ⟨by omega, by omega⟩))))
      · exact (Or.inr (Or.inr (Or.inr (Or.inr (Or.inl ⟨by omega, by omega⟩)))))
    exact r_ireturnN (t := .boolean) (by simp) C d2_52 ⟨by rw [show own_ns ch.toInt = false from decide_eq_false (own_ns_f hz)]; rfl, rfl⟩ (by decide) (by decide)
  intro J51
  refine join (α := Unit) (fun _ => ((-2147483648) ≤ ch.toInt ∧ ch.toInt ≤ 57) ∨ (59 ≤ ch.toInt ∧ ch.toInt ≤ 64) ∨ (983040 ≤ ch.toInt ∧ ch.toInt ≤ 2147483647)) (fun _ => h0) 0 0 20 (fun _ => #[.val (.int ch)]) (fun _ => []) ?_ ?_
  · rintro _ q20
    refine r_iconst C d2_20 (pc' := 21) rfl (z := (0 : Int32)) rfl ?_
    have hz : ((-2147483648) ≤ ch.toInt ∧ ch.toInt ≤ 57) ∨ (59 ≤ ch.toInt ∧ ch.toInt ≤ 64) ∨ (91 ≤ ch.toInt ∧ ch.toInt ≤ 94) ∨ (96 ≤ ch.toInt ∧ ch.toInt ≤ 96) ∨ (123 ≤ ch.toInt ∧ ch.toInt ≤ 191) ∨ (215 ≤ ch.toInt ∧ ch.toInt ≤ 215) ∨ (247 ≤ ch.toInt ∧ ch.toInt ≤ 247) ∨ (768 ≤ ch.toInt ∧ ch.toInt ≤ 879) ∨ (894 ≤ ch.toInt ∧ ch.toInt ≤ 894) ∨ (8192 ≤ ch.toInt ∧ ch.toInt ≤ 8203) ∨ (8206 ≤ ch.toInt ∧ ch.toInt ≤ 8303) ∨ (8592 ≤ ch.toInt ∧ ch.toInt ≤ 11263) ∨ (12272 ≤ ch.toInt ∧ ch.toInt ≤ 12288) ∨ (55296 ≤ ch.toInt ∧ ch.toInt ≤ 63743) ∨ (64976 ≤ ch.toInt ∧ ch.toInt ≤ 65007) ∨ (65534 ≤ ch.toInt ∧ ch.toInt ≤ 65535) ∨ (983040 ≤ ch.toInt ∧ ch.toInt ≤ 2147483647) := by
      rcases q20 with q | q | q
      · exact (Or.inl ⟨by omega, by omega⟩)
      · exact (Or.inr (Or.inl ⟨by omega, by omega⟩))
      · exact (Or.inr (Or.inr (Or.inr (Or.inr (Or.inr (Or.inr (Or.inr (Or.inr (Or.inr (Or.inr (Or.inr (Or.inr (Or.inr (Or.inr (Or.inr (Or.inr (⟨by omega, by omega⟩)))))))))))))))))
    exact r_ireturnN (t := .boolean) (by simp) C d2_21 ⟨by rw [show own_ns ch.toInt = false from decide_eq_false (own_ns_f hz)]; rfl, rfl⟩ (by decide) (by decide)
  intro J20
  refine r_iload_n C d2_0 (pc' := 1) rfl rfl ?_
  refine r_bipush C d2_1 (pc' := 3) rfl (z := (58 : Int32)) rfl ?_
  refine r_icmpne C d2_3 (pcT := 8) (pcF := 6) (by decide) rfl ?_ ?_
  · intro c3
    replace c3 : ¬ ch.toInt = 58 := fun q => c3 (Int32.toInt_inj.mp (q.trans rfl))
    have q8 : ((-2147483648) ≤ ch.toInt ∧ ch.toInt ≤ 57) ∨ (59 ≤ ch.toInt ∧ ch.toInt ≤ 2147483647) := by
      omega
    refine r_iload_n C d2_8 (pc' := 9) rfl rfl ?_
    refine r_bipush C d2_9 (pc' := 11) rfl (z := (65 : Int32)) rfl ?_
    refine r_icmplt C d2_11 (pcT := 20) (pcF := 14) (by decide) rfl ?_ ?_
    · intro c11
      replace c11 : ch.toInt < 65 := c11
      refine J20 () ?_
      rcases q8 with q | q
      · exact (Or.inl ⟨by omega, by omega⟩)
      · exact (Or.inr (Or.inl ⟨by omega, by omega⟩))
    · intro c11
      replace c11 : ch.toInt ≥ 65 := c11
      have q14 : (65 ≤ ch.toInt ∧ ch.toInt ≤ 2147483647) := by
        rcases q8 with q | q
        · (exfalso; omega)
        · exact (⟨by omega, by omega⟩)
      refine r_iload_n C d2_14 (pc' := 15) rfl rfl ?_
      refine r_ldc C (t7 hw) d2_15 (pc' := 17) rfl ?_
      refine r_icmple C d2_17 (pcT := 22) (pcF := 20) (by decide) rfl ?_ ?_
      · intro c17
        replace c17 : ch.toInt ≤ 983039 := c17
        have q22 : (65 ≤ ch.toInt ∧ ch.toInt ≤ 983039) := by
          exact (⟨by omega, by omega⟩)
        refine r_iload_n C d2_22 (pc' := 23) rfl rfl ?_
        refine r_bipush C d2_23 (pc' := 25) rfl (z := (91 : Int32)) rfl ?_
        refine r_bipush C d2_25 (pc' := 27) rfl (z := (94 : Int32)) rfl ?_
        refine r_callS (y := (⟨"com/example/trim_hedge/trimhedge/xml/XmlCharsIsNameStartCharPinLaw", "inside", "(III)Z"⟩ : MethodName)) (as := [(.int ch), (.int (91 : Int32)), (.int (94 : Int32))]) (st := []) C (t21 hw) (t22 hw) (t19 hw) (t23 hw) (by decide) pd0 rfl rfl d2_27 (pc' := 30) rfl rfl (W := 0) (Nat.le_of_eq rfl) (rm3 l Z a0 hw ch (91 : Int32) (94 : Int32) h0 n0) (by decide) (by decide) (by decide) (by decide) ?_
        rintro _ _ ⟨⟨q, rfl, hin⟩, rfl⟩
        rcases hin with ⟨rfl, hin⟩ | ⟨rfl, hin⟩
        · replace hin : (91 ≤ ch.toInt ∧ ch.toInt ≤ 94) := hin
          show Run _ _ _ _ _ _ _ _ _ _ _ _ _ _ _ h0 0 0 30 #[.val (.int ch)] [(.int (1 : Int32))]
          refine r_ifne C d2_30 (pcT := 51) (pcF := 33) (by decide) rfl ?_ ?_
          rotate_left
          · intro c30
            first | exact absurd rfl c30 | exact absurd c30 (by decide)
          intro c30
          refine J51 () ?_
          exact (Or.inl ⟨by omega, by omega⟩)
        · replace hin : ¬ (91 ≤ ch.toInt ∧ ch.toInt ≤ 94) := hin
          show Run _ _ _ _ _ _ _ _ _ _ _ _ _ _ _ h0 0 0 30 #[.val (.int ch)] [(.int (0 : Int32))]
          refine r_ifne C d2_30 (pcT := 51) (pcF := 33) (by decide) rfl ?_ ?_
          · intro c30
            first | exact absurd rfl c30 | exact absurd c30 (by decide)
          intro c30
          have q33 : (65 ≤ ch.toInt ∧ ch.toInt ≤ 90) ∨ (95 ≤ ch.toInt ∧ ch.toInt ≤ 983039) := by
            omega
          refine r_iload_n C d2_33 (pc' := 34) rfl rfl ?_
          refine r_bipush C d2_34 (pc' := 36) rfl (z := (96 : Int32)) rfl ?_
          refine r_icmpeq C d2_36 (pcT := 51) (pcF := 39) (by decide) rfl ?_ ?_
          · intro c36
            replace c36 : ch.toInt = 96 := by rw [c36]; rfl
            refine J51 () ?_
            rcases q33 with q | q
            · (exfalso; omega)
            · exact (Or.inr (Or.inl ⟨by omega, by omega⟩))
          · intro c36
            replace c36 : ¬ ch.toInt = 96 := fun q => c36 (Int32.toInt_inj.mp (q.trans rfl))
            have q39 : (65 ≤ ch.toInt ∧ ch.toInt ≤ 90) ∨ (95 ≤ ch.toInt ∧ ch.toInt ≤ 95) ∨ (97 ≤ ch.toInt ∧ ch.toInt ≤ 983039) := by
              rcases q33 with q | q
              · exact (Or.inl ⟨by omega, by omega⟩)
              · omega
            refine r_iload_n C d2_39 (pc' := 40) rfl rfl ?_
            refine r_bipush C d2_40 (pc' := 42) rfl (z := (123 : Int32)) rfl ?_
            refine r_sipush C d2_42 (pc' := 45) rfl (z := (191 : Int32)) rfl ?_
            refine r_callS (y := (⟨"com/example/trim_hedge/trimhedge/xml/XmlCharsIsNameStartCharPinLaw", "inside", "(III)Z"⟩ : MethodName)) (as := [(.int ch), (.int (123 : Int32)), (.int (191 : Int32))]) (st := []) C (t21 hw) (t22 hw) (t19 hw) (t23 hw) (by decide) pd0 rfl rfl d2_45 (pc' := 48) rfl rfl (W := 0) (Nat.le_of_eq rfl) (rm3 l Z a0 hw ch (123 : Int32) (191 : Int32) h0 n0) (by decide) (by decide) (by decide) (by decide) ?_
            rintro _ _ ⟨⟨q, rfl, hin⟩, rfl⟩
            rcases hin with ⟨rfl, hin⟩ | ⟨rfl, hin⟩
            · replace hin : (123 ≤ ch.toInt ∧ ch.toInt ≤ 191) := hin
              show Run _ _ _ _ _ _ _ _ _ _ _ _ _ _ _ h0 0 0 48 #[.val (.int ch)] [(.int (1 : Int32))]
              refine r_ifeq C d2_48 (pcT := 53) (pcF := 51) (by decide) rfl ?_ ?_
              · intro c48
                first | exact absurd rfl c48 | exact absurd c48 (by decide)
              intro c48
              refine J51 () ?_
              rcases q39 with q | q | q
              · (exfalso; omega)
              · (exfalso; omega)
              · exact (Or.inr (Or.inr (⟨by omega, by omega⟩)))
            · replace hin : ¬ (123 ≤ ch.toInt ∧ ch.toInt ≤ 191) := hin
              show Run _ _ _ _ _ _ _ _ _ _ _ _ _ _ _ h0 0 0 48 #[.val (.int ch)] [(.int (0 : Int32))]
              refine r_ifeq C d2_48 (pcT := 53) (pcF := 51) (by decide) rfl ?_ ?_
              rotate_left
              · intro c48
                first | exact absurd rfl c48 | exact absurd c48 (by decide)
              intro c48
              have q53 : (65 ≤ ch.toInt ∧ ch.toInt ≤ 90) ∨ (95 ≤ ch.toInt ∧ ch.toInt ≤ 95) ∨ (97 ≤ ch.toInt ∧ ch.toInt ≤ 122) ∨ (192 ≤ ch.toInt ∧ ch.toInt ≤ 983039) := by
                rcases q39 with q | q | q
                · exact (Or.inl ⟨by omega, by omega⟩)
                · exact (Or.inr (Or.inl ⟨by omega, by omega⟩))
                · omega
              refine r_iload_n C d2_53 (pc' := 54) rfl rfl ?_
              refine r_sipush C d2_54 (pc' := 57) rfl (z := (215 : Int32)) rfl ?_
              refine r_icmpeq C d2_57 (pcT := 87) (pcF := 60) (by decide) rfl ?_ ?_
              · intro c57
                replace c57 : ch.toInt = 215 := by rw [c57]; rfl
                refine J87 () ?_
                rcases q53 with q | q | q | q
                · (exfalso; omega)
                · (exfalso; omega)
                · (exfalso; omega)
                · exact (Or.inl ⟨by omega, by omega⟩)
              · intro c57
                replace c57 : ¬ ch.toInt = 215 := fun q => c57 (Int32.toInt_inj.mp (q.trans rfl))
                have q60 : (65 ≤ ch.toInt ∧ ch.toInt ≤ 90) ∨ (95 ≤ ch.toInt ∧ ch.toInt ≤ 95) ∨ (97 ≤ ch.toInt ∧ ch.toInt ≤ 122) ∨ (192 ≤ ch.toInt ∧ ch.toInt ≤ 214) ∨ (216 ≤ ch.toInt ∧ ch.toInt ≤ 983039) := by
                  rcases q53 with q | q | q | q
                  · exact (Or.inl ⟨by omega, by omega⟩)
                  · exact (Or.inr (Or.inl ⟨by omega, by omega⟩))
                  · exact (Or.inr (Or.inr (Or.inl ⟨by omega, by omega⟩)))
                  · omega
                refine r_iload_n C d2_60 (pc' := 61) rfl rfl ?_
                refine r_sipush C d2_61 (pc' := 64) rfl (z := (247 : Int32)) rfl ?_
                refine r_icmpeq C d2_64 (pcT := 87) (pcF := 67) (by decide) rfl ?_ ?_
                · intro c64
                  replace c64 : ch.toInt = 247 := by rw [c64]; rfl
                  refine J87 () ?_
                  rcases q60 with q | q | q | q | q
                  · (exfalso; omega)
                  · (exfalso; omega)
                  · (exfalso; omega)
                  · (exfalso; omega)
                  · exact (Or.inr (Or.inl ⟨by omega, by omega⟩))
                · intro c64
                  replace c64 : ¬ ch.toInt = 247 := fun q => c64 (Int32.toInt_inj.mp (q.trans rfl))
                  have q67 : (65 ≤ ch.toInt ∧ ch.toInt ≤ 90) ∨ (95 ≤ ch.toInt ∧ ch.toInt ≤ 95) ∨ (97 ≤ ch.toInt ∧ ch.toInt ≤ 122) ∨ (192 ≤ ch.toInt ∧ ch.toInt ≤ 214) ∨ (216 ≤ ch.toInt ∧ ch.toInt ≤ 246) ∨ (248 ≤ ch.toInt ∧ ch.toInt ≤ 983039) := by
                    rcases q60 with q | q | q | q | q
                    · exact (Or.inl ⟨by omega, by omega⟩)
                    · exact (Or.inr (Or.inl ⟨by omega, by omega⟩))
                    · exact (Or.inr (Or.inr (Or.inl ⟨by omega, by omega⟩)))
                    · exact (Or.inr (Or.inr (Or.inr (Or.inl ⟨by omega, by omega⟩))))
                    · omega
                  refine r_iload_n C d2_67 (pc' := 68) rfl rfl ?_
                  refine r_sipush C d2_68 (pc' := 71) rfl (z := (768 : Int32)) rfl ?_
                  refine r_sipush C d2_71 (pc' := 74) rfl (z := (879 : Int32)) rfl ?_
                  refine r_callS (y := (⟨"com/example/trim_hedge/trimhedge/xml/XmlCharsIsNameStartCharPinLaw", "inside", "(III)Z"⟩ : MethodName)) (as := [(.int ch), (.int (768 : Int32)), (.int (879 : Int32))]) (st := []) C (t21 hw) (t22 hw) (t19 hw) (t23 hw) (by decide) pd0 rfl rfl d2_74 (pc' := 77) rfl rfl (W := 0) (Nat.le_of_eq rfl) (rm3 l Z a0 hw ch (768 : Int32) (879 : Int32) h0 n0) (by decide) (by decide) (by decide) (by decide) ?_
                  rintro _ _ ⟨⟨q, rfl, hin⟩, rfl⟩
                  rcases hin with ⟨rfl, hin⟩ | ⟨rfl, hin⟩
                  · replace hin : (768 ≤ ch.toInt ∧ ch.toInt ≤ 879) := hin
                    show Run _ _ _ _ _ _ _ _ _ _ _ _ _ _ _ h0 0 0 77 #[.val (.int ch)] [(.int (1 : Int32))]
                    refine r_ifne C d2_77 (pcT := 87) (pcF := 80) (by decide) rfl ?_ ?_
                    rotate_left
                    · intro c77
                      first | exact absurd rfl c77 | exact absurd c77 (by decide)
                    intro c77
                    refine J87 () ?_
                    rcases q67 with q | q | q | q | q | q
                    · (exfalso; omega)
                    · (exfalso; omega)
                    · (exfalso; omega)
                    · (exfalso; omega)
                    · (exfalso; omega)
                    · exact (Or.inr (Or.inr (Or.inl ⟨by omega, by omega⟩)))
                  · replace hin : ¬ (768 ≤ ch.toInt ∧ ch.toInt ≤ 879) := hin
                    show Run _ _ _ _ _ _ _ _ _ _ _ _ _ _ _ h0 0 0 77 #[.val (.int ch)] [(.int (0 : Int32))]
                    refine r_ifne C d2_77 (pcT := 87) (pcF := 80) (by decide) rfl ?_ ?_
                    · intro c77
                      first | exact absurd rfl c77 | exact absurd c77 (by decide)
                    intro c77
                    have q80 : (65 ≤ ch.toInt ∧ ch.toInt ≤ 90) ∨ (95 ≤ ch.toInt ∧ ch.toInt ≤ 95) ∨ (97 ≤ ch.toInt ∧ ch.toInt ≤ 122) ∨ (192 ≤ ch.toInt ∧ ch.toInt ≤ 214) ∨ (216 ≤ ch.toInt ∧ ch.toInt ≤ 246) ∨ (248 ≤ ch.toInt ∧ ch.toInt ≤ 767) ∨ (880 ≤ ch.toInt ∧ ch.toInt ≤ 983039) := by
                      rcases q67 with q | q | q | q | q | q
                      · exact (Or.inl ⟨by omega, by omega⟩)
                      · exact (Or.inr (Or.inl ⟨by omega, by omega⟩))
                      · exact (Or.inr (Or.inr (Or.inl ⟨by omega, by omega⟩)))
                      · exact (Or.inr (Or.inr (Or.inr (Or.inl ⟨by omega, by omega⟩))))
                      · exact (Or.inr (Or.inr (Or.inr (Or.inr (Or.inl ⟨by omega, by omega⟩)))))
                      · omega
                    refine r_iload_n C d2_80 (pc' := 81) rfl rfl ?_
                    refine r_sipush C d2_81 (pc' := 84) rfl (z := (894 : Int32)) rfl ?_
                    refine r_icmpne C d2_84 (pcT := 89) (pcF := 87) (by decide) rfl ?_ ?_
                    · intro c84
                      replace c84 : ¬ ch.toInt = 894 := fun q => c84 (Int32.toInt_inj.mp (q.trans rfl))
                      have q89 : (65 ≤ ch.toInt ∧ ch.toInt ≤ 90) ∨ (95 ≤ ch.toInt ∧ ch.toInt ≤ 95) ∨ (97 ≤ ch.toInt ∧ ch.toInt ≤ 122) ∨ (192 ≤ ch.toInt ∧ ch.toInt ≤ 214) ∨ (216 ≤ ch.toInt ∧ ch.toInt ≤ 246) ∨ (248 ≤ ch.toInt ∧ ch.toInt ≤ 767) ∨ (880 ≤ ch.toInt ∧ ch.toInt ≤ 893) ∨ (895 ≤ ch.toInt ∧ ch.toInt ≤ 983039) := by
                        rcases q80 with q | q | q | q | q | q | q
                        · exact (Or.inl ⟨by omega, by omega⟩)
                        · exact (Or.inr (Or.inl ⟨by omega, by omega⟩))
                        · exact (Or.inr (Or.inr (Or.inl ⟨by omega, by omega⟩)))
                        · exact (Or.inr (Or.inr (Or.inr (Or.inl ⟨by omega, by omega⟩))))
                        · exact (Or.inr (Or.inr (Or.inr (Or.inr (Or.inl ⟨by omega, by omega⟩)))))
                        · exact (Or.inr (Or.inr (Or.inr (Or.inr (Or.inr (Or.inl ⟨by omega, by omega⟩))))))
                        · omega
                      refine r_iload_n C d2_89 (pc' := 90) rfl rfl ?_
                      refine r_sipush C d2_90 (pc' := 93) rfl (z := (8192 : Int32)) rfl ?_
                      refine r_sipush C d2_93 (pc' := 96) rfl (z := (8203 : Int32)) rfl ?_
                      refine r_callS (y := (⟨"com/example/trim_hedge/trimhedge/xml/XmlCharsIsNameStartCharPinLaw", "inside", "(III)Z"⟩ : MethodName)) (as := [(.int ch), (.int (8192 : Int32)), (.int (8203 : Int32))]) (st := []) C (t21 hw) (t22 hw) (t19 hw) (t23 hw) (by decide) pd0 rfl rfl d2_96 (pc' := 99) rfl rfl (W := 0) (Nat.le_of_eq rfl) (rm3 l Z a0 hw ch (8192 : Int32) (8203 : Int32) h0 n0) (by decide) (by decide) (by decide) (by decide) ?_
                      rintro _ _ ⟨⟨q, rfl, hin⟩, rfl⟩
                      rcases hin with ⟨rfl, hin⟩ | ⟨rfl, hin⟩
                      · replace hin : (8192 ≤ ch.toInt ∧ ch.toInt ≤ 8203) := hin
                        show Run _ _ _ _ _ _ _ _ _ _ _ _ _ _ _ h0 0 0 99 #[.val (.int ch)] [(.int (1 : Int32))]
                        refine r_ifne C d2_99 (pcT := 115) (pcF := 102) (by decide) rfl ?_ ?_
                        rotate_left
                        · intro c99
                          first | exact absurd rfl c99 | exact absurd c99 (by decide)
                        intro c99
                        refine J115 () ?_
                        rcases q89 with q | q | q | q | q | q | q | q
                        · (exfalso; omega)
                        · (exfalso; omega)
                        · (exfalso; omega)
                        · (exfalso; omega)
                        · (exfalso; omega)
                        · (exfalso; omega)
                        · (exfalso; omega)
                        · exact (Or.inl ⟨by omega, by omega⟩)
                      · replace hin : ¬ (8192 ≤ ch.toInt ∧ ch.toInt ≤ 8203) := hin
                        show Run _ _ _ _ _ _ _ _ _ _ _ _ _ _ _ h0 0 0 99 #[.val (.int ch)] [(.int (0 : Int32))]
                        refine r_ifne C d2_99 (pcT := 115) (pcF := 102) (by decide) rfl ?_ ?_
                        · intro c99
                          first | exact absurd rfl c99 | exact absurd c99 (by decide)
                        intro c99
                        have q102 : (65 ≤ ch.toInt ∧ ch.toInt ≤ 90) ∨ (95 ≤ ch.toInt ∧ ch.toInt ≤ 95) ∨ (97 ≤ ch.toInt ∧ ch.toInt ≤ 122) ∨ (192 ≤ ch.toInt ∧ ch.toInt ≤ 214) ∨ (216 ≤ ch.toInt ∧ ch.toInt ≤ 246) ∨ (248 ≤ ch.toInt ∧ ch.toInt ≤ 767) ∨ (880 ≤ ch.toInt ∧ ch.toInt ≤ 893) ∨ (895 ≤ ch.toInt ∧ ch.toInt ≤ 8191) ∨ (8204 ≤ ch.toInt ∧ ch.toInt ≤ 983039) := by
                          rcases q89 with q | q | q | q | q | q | q | q
                          · exact (Or.inl ⟨by omega, by omega⟩)
                          · exact (Or.inr (Or.inl ⟨by omega, by omega⟩))
                          · exact (Or.inr (Or.inr (Or.inl ⟨by omega, by omega⟩)))
                          · exact (Or.inr (Or.inr (Or.inr (Or.inl ⟨by omega, by omega⟩))))
                          · exact (Or.inr (Or.inr (Or.inr (Or.inr (Or.inl ⟨by omega, by omega⟩)))))
                          · exact (Or.inr (Or.inr (Or.inr (Or.inr (Or.inr (Or.inl ⟨by omega, by omega⟩))))))
                          · exact (Or.inr (Or.inr (Or.inr (Or.inr (Or.inr (Or.inr (Or.inl ⟨by omega, by omega⟩)))))))
                          · omega
                        refine r_iload_n C d2_102 (pc' := 103) rfl rfl ?_
                        refine r_sipush C d2_103 (pc' := 106) rfl (z := (8206 : Int32)) rfl ?_
                        refine r_sipush C d2_106 (pc' := 109) rfl (z := (8303 : Int32)) rfl ?_
                        refine r_callS (y := (⟨"com/example/trim_hedge/trimhedge/xml/XmlCharsIsNameStartCharPinLaw", "inside", "(III)Z"⟩ : MethodName)) (as := [(.int ch), (.int (8206 : Int32)), (.int (8303 : Int32))]) (st := []) C (t21 hw) (t22 hw) (t19 hw) (t23 hw) (by decide) pd0 rfl rfl d2_109 (pc' := 112) rfl rfl (W := 0) (Nat.le_of_eq rfl) (rm3 l Z a0 hw ch (8206 : Int32) (8303 : Int32) h0 n0) (by decide) (by decide) (by decide) (by decide) ?_
                        rintro _ _ ⟨⟨q, rfl, hin⟩, rfl⟩
                        rcases hin with ⟨rfl, hin⟩ | ⟨rfl, hin⟩
                        · replace hin : (8206 ≤ ch.toInt ∧ ch.toInt ≤ 8303) := hin
                          show Run _ _ _ _ _ _ _ _ _ _ _ _ _ _ _ h0 0 0 112 #[.val (.int ch)] [(.int (1 : Int32))]
                          refine r_ifeq C d2_112 (pcT := 117) (pcF := 115) (by decide) rfl ?_ ?_
                          · intro c112
                            first | exact absurd rfl c112 | exact absurd c112 (by decide)
                          intro c112
                          refine J115 () ?_
                          rcases q102 with q | q | q | q | q | q | q | q | q
                          · (exfalso; omega)
                          · (exfalso; omega)
                          · (exfalso; omega)
                          · (exfalso; omega)
                          · (exfalso; omega)
                          · (exfalso; omega)
                          · (exfalso; omega)
                          · (exfalso; omega)
                          · exact (Or.inr (⟨by omega, by omega⟩))
                        · replace hin : ¬ (8206 ≤ ch.toInt ∧ ch.toInt ≤ 8303) := hin
                          show Run _ _ _ _ _ _ _ _ _ _ _ _ _ _ _ h0 0 0 112 #[.val (.int ch)] [(.int (0 : Int32))]
                          refine r_ifeq C d2_112 (pcT := 117) (pcF := 115) (by decide) rfl ?_ ?_
                          rotate_left
                          · intro c112
                            first | exact absurd rfl c112 | exact absurd c112 (by decide)
                          intro c112
                          have q117 : (65 ≤ ch.toInt ∧ ch.toInt ≤ 90) ∨ (95 ≤ ch.toInt ∧ ch.toInt ≤ 95) ∨ (97 ≤ ch.toInt ∧ ch.toInt ≤ 122) ∨ (192 ≤ ch.toInt ∧ ch.toInt ≤ 214) ∨ (216 ≤ ch.toInt ∧ ch.toInt ≤ 246) ∨ (248 ≤ ch.toInt ∧ ch.toInt ≤ 767) ∨ (880 ≤ ch.toInt ∧ ch.toInt ≤ 893) ∨ (895 ≤ ch.toInt ∧ ch.toInt ≤ 8191) ∨ (8204 ≤ ch.toInt ∧ ch.toInt ≤ 8205) ∨ (8304 ≤ ch.toInt ∧ ch.toInt ≤ 983039) := by
                            rcases q102 with q | q | q | q | q | q | q | q | q
                            · exact (Or.inl ⟨by omega, by omega⟩)
                            · exact (Or.inr (Or.inl ⟨by omega, by omega⟩))
                            · exact (Or.inr (Or.inr (Or.inl ⟨by omega, by omega⟩)))
                            · exact (Or.inr (Or.inr (Or.inr (Or.inl ⟨by omega, by omega⟩))))
                            · exact (Or.inr (Or.inr (Or.inr (Or.inr (Or.inl ⟨by omega, by omega⟩)))))
                            · exact (Or.inr (Or.inr (Or.inr (Or.inr (Or.inr (Or.inl ⟨by omega, by omega⟩))))))
                            · exact (Or.inr (Or.inr (Or.inr (Or.inr (Or.inr (Or.inr (Or.inl ⟨by omega, by omega⟩)))))))
                            · exact (Or.inr (Or.inr (Or.inr (Or.inr (Or.inr (Or.inr (Or.inr (Or.inl ⟨by omega, by omega⟩))))))))
                            · omega
                          refine r_iload_n C d2_117 (pc' := 118) rfl rfl ?_
                          refine r_sipush C d2_118 (pc' := 121) rfl (z := (8592 : Int32)) rfl ?_
                          refine r_sipush C d2_121 (pc' := 124) rfl (z := (11263 : Int32)) rfl ?_
                          refine r_callS (y := (⟨"com/example/trim_hedge/trimhedge/xml/XmlCharsIsNameStartCharPinLaw", "inside", "(III)Z"⟩ : MethodName)) (as := [(.int ch), (.int (8592 : Int32)), (.int (11263 : Int32))]) (st := []) C (t21 hw) (t22 hw) (t19 hw) (t23 hw) (by decide) pd0 rfl rfl d2_124 (pc' := 127) rfl rfl (W := 0) (Nat.le_of_eq rfl) (rm3 l Z a0 hw ch (8592 : Int32) (11263 : Int32) h0 n0) (by decide) (by decide) (by decide) (by decide) ?_
                          rintro _ _ ⟨⟨q, rfl, hin⟩, rfl⟩
                          rcases hin with ⟨rfl, hin⟩ | ⟨rfl, hin⟩
                          · replace hin : (8592 ≤ ch.toInt ∧ ch.toInt ≤ 11263) := hin
                            show Run _ _ _ _ _ _ _ _ _ _ _ _ _ _ _ h0 0 0 127 #[.val (.int ch)] [(.int (1 : Int32))]
                            refine r_ifne C d2_127 (pcT := 143) (pcF := 130) (by decide) rfl ?_ ?_
                            rotate_left
                            · intro c127
                              first | exact absurd rfl c127 | exact absurd c127 (by decide)
                            intro c127
                            refine J143 () ?_
                            rcases q117 with q | q | q | q | q | q | q | q | q | q
                            · (exfalso; omega)
                            · (exfalso; omega)
                            · (exfalso; omega)
                            · (exfalso; omega)
                            · (exfalso; omega)
                            · (exfalso; omega)
                            · (exfalso; omega)
                            · (exfalso; omega)
                            · (exfalso; omega)
                            · exact (Or.inl ⟨by omega, by omega⟩)
                          · replace hin : ¬ (8592 ≤ ch.toInt ∧ ch.toInt ≤ 11263) := hin
                            show Run _ _ _ _ _ _ _ _ _ _ _ _ _ _ _ h0 0 0 127 #[.val (.int ch)] [(.int (0 : Int32))]
                            refine r_ifne C d2_127 (pcT := 143) (pcF := 130) (by decide) rfl ?_ ?_
                            · intro c127
                              first | exact absurd rfl c127 | exact absurd c127 (by decide)
                            intro c127
                            have q130 : (65 ≤ ch.toInt ∧ ch.toInt ≤ 90) ∨ (95 ≤ ch.toInt ∧ ch.toInt ≤ 95) ∨ (97 ≤ ch.toInt ∧ ch.toInt ≤ 122) ∨ (192 ≤ ch.toInt ∧ ch.toInt ≤ 214) ∨ (216 ≤ ch.toInt ∧ ch.toInt ≤ 246) ∨ (248 ≤ ch.toInt ∧ ch.toInt ≤ 767) ∨ (880 ≤ ch.toInt ∧ ch.toInt ≤ 893) ∨ (895 ≤ ch.toInt ∧ ch.toInt ≤ 8191) ∨ (8204 ≤ ch.toInt ∧ ch.toInt ≤ 8205) ∨ (8304 ≤ ch.toInt ∧ ch.toInt ≤ 8591) ∨ (11264 ≤ ch.toInt ∧ ch.toInt ≤ 983039) := by
                              rcases q117 with q | q | q | q | q | q | q | q | q | q
                              · exact (Or.inl ⟨by omega, by omega⟩)
                              · exact (Or.inr (Or.inl ⟨by omega, by omega⟩))
                              · exact (Or.inr (Or.inr (Or.inl ⟨by omega, by omega⟩)))
                              · exact (Or.inr (Or.inr (Or.inr (Or.inl ⟨by omega, by omega⟩))))
                              · exact (Or.inr (Or.inr (Or.inr (Or.inr (Or.inl ⟨by omega, by omega⟩)))))
                              · exact (Or.inr (Or.inr (Or.inr (Or.inr (Or.inr (Or.inl ⟨by omega, by omega⟩))))))
                              · exact (Or.inr (Or.inr (Or.inr (Or.inr (Or.inr (Or.inr (Or.inl ⟨by omega, by omega⟩)))))))
                              · exact (Or.inr (Or.inr (Or.inr (Or.inr (Or.inr (Or.inr (Or.inr (Or.inl ⟨by omega, by omega⟩))))))))
                              · exact (Or.inr (Or.inr (Or.inr (Or.inr (Or.inr (Or.inr (Or.inr (Or.inr (Or.inl ⟨by omega, by omega⟩)))))))))
                              · omega
                            refine r_iload_n C d2_130 (pc' := 131) rfl rfl ?_
                            refine r_sipush C d2_131 (pc' := 134) rfl (z := (12272 : Int32)) rfl ?_
                            refine r_sipush C d2_134 (pc' := 137) rfl (z := (12288 : Int32)) rfl ?_
                            refine r_callS (y := (⟨"com/example/trim_hedge/trimhedge/xml/XmlCharsIsNameStartCharPinLaw", "inside", "(III)Z"⟩ : MethodName)) (as := [(.int ch), (.int (12272 : Int32)), (.int (12288 : Int32))]) (st := []) C (t21 hw) (t22 hw) (t19 hw) (t23 hw) (by decide) pd0 rfl rfl d2_137 (pc' := 140) rfl rfl (W := 0) (Nat.le_of_eq rfl) (rm3 l Z a0 hw ch (12272 : Int32) (12288 : Int32) h0 n0) (by decide) (by decide) (by decide) (by decide) ?_
                            rintro _ _ ⟨⟨q, rfl, hin⟩, rfl⟩
                            rcases hin with ⟨rfl, hin⟩ | ⟨rfl, hin⟩
                            · replace hin : (12272 ≤ ch.toInt ∧ ch.toInt ≤ 12288) := hin
                              show Run _ _ _ _ _ _ _ _ _ _ _ _ _ _ _ h0 0 0 140 #[.val (.int ch)] [(.int (1 : Int32))]
                              refine r_ifeq C d2_140 (pcT := 145) (pcF := 143) (by decide) rfl ?_ ?_
                              · intro c140
                                first | exact absurd rfl c140 | exact absurd c140 (by decide)
                              intro c140
                              refine J143 () ?_
                              rcases q130 with q | q | q | q | q | q | q | q | q | q | q
                              · (exfalso; omega)
                              · (exfalso; omega)
                              · (exfalso; omega)
                              · (exfalso; omega)
                              · (exfalso; omega)
                              · (exfalso; omega)
                              · (exfalso; omega)
                              · (exfalso; omega)
                              · (exfalso; omega)
                              · (exfalso; omega)
                              · exact (Or.inr (⟨by omega, by omega⟩))
                            · replace hin : ¬ (12272 ≤ ch.toInt ∧ ch.toInt ≤ 12288) := hin
                              show Run _ _ _ _ _ _ _ _ _ _ _ _ _ _ _ h0 0 0 140 #[.val (.int ch)] [(.int (0 : Int32))]
                              refine r_ifeq C d2_140 (pcT := 145) (pcF := 143) (by decide) rfl ?_ ?_
                              rotate_left
                              · intro c140
                                first | exact absurd rfl c140 | exact absurd c140 (by decide)
                              intro c140
                              have q145 : (65 ≤ ch.toInt ∧ ch.toInt ≤ 90) ∨ (95 ≤ ch.toInt ∧ ch.toInt ≤ 95) ∨ (97 ≤ ch.toInt ∧ ch.toInt ≤ 122) ∨ (192 ≤ ch.toInt ∧ ch.toInt ≤ 214) ∨ (216 ≤ ch.toInt ∧ ch.toInt ≤ 246) ∨ (248 ≤ ch.toInt ∧ ch.toInt ≤ 767) ∨ (880 ≤ ch.toInt ∧ ch.toInt ≤ 893) ∨ (895 ≤ ch.toInt ∧ ch.toInt ≤ 8191) ∨ (8204 ≤ ch.toInt ∧ ch.toInt ≤ 8205) ∨ (8304 ≤ ch.toInt ∧ ch.toInt ≤ 8591) ∨ (11264 ≤ ch.toInt ∧ ch.toInt ≤ 12271) ∨ (12289 ≤ ch.toInt ∧ ch.toInt ≤ 983039) := by
                                rcases q130 with q | q | q | q | q | q | q | q | q | q | q
                                · exact (Or.inl ⟨by omega, by omega⟩)
                                · exact (Or.inr (Or.inl ⟨by omega, by omega⟩))
                                · exact (Or.inr (Or.inr (Or.inl ⟨by omega, by omega⟩)))
                                · exact (Or.inr (Or.inr (Or.inr (Or.inl ⟨by omega, by omega⟩))))
                                · exact (Or.inr (Or.inr (Or.inr (Or.inr (Or.inl ⟨by omega, by omega⟩)))))
                                · exact (Or.inr (Or.inr (Or.inr (Or.inr (Or.inr (Or.inl ⟨by omega, by omega⟩))))))
                                · exact (Or.inr (Or.inr (Or.inr (Or.inr (Or.inr (Or.inr (Or.inl ⟨by omega, by omega⟩)))))))
                                · exact (Or.inr (Or.inr (Or.inr (Or.inr (Or.inr (Or.inr (Or.inr (Or.inl ⟨by omega, by omega⟩))))))))
                                · exact (Or.inr (Or.inr (Or.inr (Or.inr (Or.inr (Or.inr (Or.inr (Or.inr (Or.inl ⟨by omega, by omega⟩)))))))))
                                · exact (Or.inr (Or.inr (Or.inr (Or.inr (Or.inr (Or.inr (Or.inr (Or.inr (Or.inr (Or.inl ⟨by omega, by omega⟩))))))))))
                                · omega
                              refine r_iload_n C d2_145 (pc' := 146) rfl rfl ?_
                              refine r_ldc C (t24 hw) d2_146 (pc' := 148) rfl ?_
                              refine r_ldc C (t25 hw) d2_148 (pc' := 150) rfl ?_
                              refine r_callS (y := (⟨"com/example/trim_hedge/trimhedge/xml/XmlCharsIsNameStartCharPinLaw", "inside", "(III)Z"⟩ : MethodName)) (as := [(.int ch), (.int (55296 : Int32)), (.int (63743 : Int32))]) (st := []) C (t21 hw) (t22 hw) (t19 hw) (t23 hw) (by decide) pd0 rfl rfl d2_150 (pc' := 153) rfl rfl (W := 0) (Nat.le_of_eq rfl) (rm3 l Z a0 hw ch (55296 : Int32) (63743 : Int32) h0 n0) (by decide) (by decide) (by decide) (by decide) ?_
                              rintro _ _ ⟨⟨q, rfl, hin⟩, rfl⟩
                              rcases hin with ⟨rfl, hin⟩ | ⟨rfl, hin⟩
                              · replace hin : (55296 ≤ ch.toInt ∧ ch.toInt ≤ 63743) := hin
                                show Run _ _ _ _ _ _ _ _ _ _ _ _ _ _ _ h0 0 0 153 #[.val (.int ch)] [(.int (1 : Int32))]
                                refine r_ifne C d2_153 (pcT := 178) (pcF := 156) (by decide) rfl ?_ ?_
                                rotate_left
                                · intro c153
                                  first | exact absurd rfl c153 | exact absurd c153 (by decide)
                                intro c153
                                refine J178 () ?_
                                rcases q145 with q | q | q | q | q | q | q | q | q | q | q | q
                                · (exfalso; omega)
                                · (exfalso; omega)
                                · (exfalso; omega)
                                · (exfalso; omega)
                                · (exfalso; omega)
                                · (exfalso; omega)
                                · (exfalso; omega)
                                · (exfalso; omega)
                                · (exfalso; omega)
                                · (exfalso; omega)
                                · (exfalso; omega)
                                · exact (Or.inl ⟨by omega, by omega⟩)
                              · replace hin : ¬ (55296 ≤ ch.toInt ∧ ch.toInt ≤ 63743) := hin
                                show Run _ _ _ _ _ _ _ _ _ _ _ _ _ _ _ h0 0 0 153 #[.val (.int ch)] [(.int (0 : Int32))]
                                refine r_ifne C d2_153 (pcT := 178) (pcF := 156) (by decide) rfl ?_ ?_
                                · intro c153
                                  first | exact absurd rfl c153 | exact absurd c153 (by decide)
                                intro c153
                                have q156 : (65 ≤ ch.toInt ∧ ch.toInt ≤ 90) ∨ (95 ≤ ch.toInt ∧ ch.toInt ≤ 95) ∨ (97 ≤ ch.toInt ∧ ch.toInt ≤ 122) ∨ (192 ≤ ch.toInt ∧ ch.toInt ≤ 214) ∨ (216 ≤ ch.toInt ∧ ch.toInt ≤ 246) ∨ (248 ≤ ch.toInt ∧ ch.toInt ≤ 767) ∨ (880 ≤ ch.toInt ∧ ch.toInt ≤ 893) ∨ (895 ≤ ch.toInt ∧ ch.toInt ≤ 8191) ∨ (8204 ≤ ch.toInt ∧ ch.toInt ≤ 8205) ∨ (8304 ≤ ch.toInt ∧ ch.toInt ≤ 8591) ∨ (11264 ≤ ch.toInt ∧ ch.toInt ≤ 12271) ∨ (12289 ≤ ch.toInt ∧ ch.toInt ≤ 55295) ∨ (63744 ≤ ch.toInt ∧ ch.toInt ≤ 983039) := by
                                  rcases q145 with q | q | q | q | q | q | q | q | q | q | q | q
                                  · exact (Or.inl ⟨by omega, by omega⟩)
                                  · exact (Or.inr (Or.inl ⟨by omega, by omega⟩))
                                  · exact (Or.inr (Or.inr (Or.inl ⟨by omega, by omega⟩)))
                                  · exact (Or.inr (Or.inr (Or.inr (Or.inl ⟨by omega, by omega⟩))))
                                  · exact (Or.inr (Or.inr (Or.inr (Or.inr (Or.inl ⟨by omega, by omega⟩)))))
                                  · exact (Or.inr (Or.inr (Or.inr (Or.inr (Or.inr (Or.inl ⟨by omega, by omega⟩))))))
                                  · exact (Or.inr (Or.inr (Or.inr (Or.inr (Or.inr (Or.inr (Or.inl ⟨by omega, by omega⟩)))))))
                                  · exact (Or.inr (Or.inr (Or.inr (Or.inr (Or.inr (Or.inr (Or.inr (Or.inl ⟨by omega, by omega⟩))))))))
                                  · exact (Or.inr (Or.inr (Or.inr (Or.inr (Or.inr (Or.inr (Or.inr (Or.inr (Or.inl ⟨by omega, by omega⟩)))))))))
                                  · exact (Or.inr (Or.inr (Or.inr (Or.inr (Or.inr (Or.inr (Or.inr (Or.inr (Or.inr (Or.inl ⟨by omega, by omega⟩))))))))))
                                  · exact (Or.inr (Or.inr (Or.inr (Or.inr (Or.inr (Or.inr (Or.inr (Or.inr (Or.inr (Or.inr (Or.inl ⟨by omega, by omega⟩)))))))))))
                                  · omega
                                refine r_iload_n C d2_156 (pc' := 157) rfl rfl ?_
                                refine r_ldc C (t26 hw) d2_157 (pc' := 159) rfl ?_
                                refine r_ldc C (t27 hw) d2_159 (pc' := 161) rfl ?_
                                refine r_callS (y := (⟨"com/example/trim_hedge/trimhedge/xml/XmlCharsIsNameStartCharPinLaw", "inside", "(III)Z"⟩ : MethodName)) (as := [(.int ch), (.int (64976 : Int32)), (.int (65007 : Int32))]) (st := []) C (t21 hw) (t22 hw) (t19 hw) (t23 hw) (by decide) pd0 rfl rfl d2_161 (pc' := 164) rfl rfl (W := 0) (Nat.le_of_eq rfl) (rm3 l Z a0 hw ch (64976 : Int32) (65007 : Int32) h0 n0) (by decide) (by decide) (by decide) (by decide) ?_
                                rintro _ _ ⟨⟨q, rfl, hin⟩, rfl⟩
                                rcases hin with ⟨rfl, hin⟩ | ⟨rfl, hin⟩
                                · replace hin : (64976 ≤ ch.toInt ∧ ch.toInt ≤ 65007) := hin
                                  show Run _ _ _ _ _ _ _ _ _ _ _ _ _ _ _ h0 0 0 164 #[.val (.int ch)] [(.int (1 : Int32))]
                                  refine r_ifne C d2_164 (pcT := 178) (pcF := 167) (by decide) rfl ?_ ?_
                                  rotate_left
                                  · intro c164
                                    first | exact absurd rfl c164 | exact absurd c164 (by decide)
                                  intro c164
                                  refine J178 () ?_
                                  rcases q156 with q | q | q | q | q | q | q | q | q | q | q | q | q
                                  · (exfalso; omega)
                                  · (exfalso; omega)
                                  · (exfalso; omega)
                                  · (exfalso; omega)
                                  · (exfalso; omega)
                                  · (exfalso; omega)
                                  · (exfalso; omega)
                                  · (exfalso; omega)
                                  · (exfalso; omega)
                                  · (exfalso; omega)
                                  · (exfalso; omega)
                                  · (exfalso; omega)
                                  · exact (Or.inr (Or.inl ⟨by omega, by omega⟩))
                                · replace hin : ¬ (64976 ≤ ch.toInt ∧ ch.toInt ≤ 65007) := hin
                                  show Run _ _ _ _ _ _ _ _ _ _ _ _ _ _ _ h0 0 0 164 #[.val (.int ch)] [(.int (0 : Int32))]
                                  refine r_ifne C d2_164 (pcT := 178) (pcF := 167) (by decide) rfl ?_ ?_
                                  · intro c164
                                    first | exact absurd rfl c164 | exact absurd c164 (by decide)
                                  intro c164
                                  have q167 : (65 ≤ ch.toInt ∧ ch.toInt ≤ 90) ∨ (95 ≤ ch.toInt ∧ ch.toInt ≤ 95) ∨ (97 ≤ ch.toInt ∧ ch.toInt ≤ 122) ∨ (192 ≤ ch.toInt ∧ ch.toInt ≤ 214) ∨ (216 ≤ ch.toInt ∧ ch.toInt ≤ 246) ∨ (248 ≤ ch.toInt ∧ ch.toInt ≤ 767) ∨ (880 ≤ ch.toInt ∧ ch.toInt ≤ 893) ∨ (895 ≤ ch.toInt ∧ ch.toInt ≤ 8191) ∨ (8204 ≤ ch.toInt ∧ ch.toInt ≤ 8205) ∨ (8304 ≤ ch.toInt ∧ ch.toInt ≤ 8591) ∨ (11264 ≤ ch.toInt ∧ ch.toInt ≤ 12271) ∨ (12289 ≤ ch.toInt ∧ ch.toInt ≤ 55295) ∨ (63744 ≤ ch.toInt ∧ ch.toInt ≤ 64975) ∨ (65008 ≤ ch.toInt ∧ ch.toInt ≤ 983039) := by
                                    rcases q156 with q | q | q | q | q | q | q | q | q | q | q | q | q
                                    · exact (Or.inl ⟨by omega, by omega⟩)
                                    · exact (Or.inr (Or.inl ⟨by omega, by omega⟩))
                                    · exact (Or.inr (Or.inr (Or.inl ⟨by omega, by omega⟩)))
                                    · exact (Or.inr (Or.inr (Or.inr (Or.inl ⟨by omega, by omega⟩))))
                                    · exact (Or.inr (Or.inr (Or.inr (Or.inr (Or.inl ⟨by omega, by omega⟩)))))
                                    · exact (Or.inr (Or.inr (Or.inr (Or.inr (Or.inr (Or.inl ⟨by omega, by omega⟩))))))
                                    · exact (Or.inr (Or.inr (Or.inr (Or.inr (Or.inr (Or.inr (Or.inl ⟨by omega, by omega⟩)))))))
                                    · exact (Or.inr (Or.inr (Or.inr (Or.inr (Or.inr (Or.inr (Or.inr (Or.inl ⟨by omega, by omega⟩))))))))
                                    · exact (Or.inr (Or.inr (Or.inr (Or.inr (Or.inr (Or.inr (Or.inr (Or.inr (Or.inl ⟨by omega, by omega⟩)))))))))
                                    · exact (Or.inr (Or.inr (Or.inr (Or.inr (Or.inr (Or.inr (Or.inr (Or.inr (Or.inr (Or.inl ⟨by omega, by omega⟩))))))))))
                                    · exact (Or.inr (Or.inr (Or.inr (Or.inr (Or.inr (Or.inr (Or.inr (Or.inr (Or.inr (Or.inr (Or.inl ⟨by omega, by omega⟩)))))))))))
                                    · exact (Or.inr (Or.inr (Or.inr (Or.inr (Or.inr (Or.inr (Or.inr (Or.inr (Or.inr (Or.inr (Or.inr (Or.inl ⟨by omega, by omega⟩))))))))))))
                                    · omega
                                  refine r_iload_n C d2_167 (pc' := 168) rfl rfl ?_
                                  refine r_ldc C (t28 hw) d2_168 (pc' := 170) rfl ?_
                                  refine r_ldc C (t29 hw) d2_170 (pc' := 172) rfl ?_
                                  refine r_callS (y := (⟨"com/example/trim_hedge/trimhedge/xml/XmlCharsIsNameStartCharPinLaw", "inside", "(III)Z"⟩ : MethodName)) (as := [(.int ch), (.int (65534 : Int32)), (.int (65535 : Int32))]) (st := []) C (t21 hw) (t22 hw) (t19 hw) (t23 hw) (by decide) pd0 rfl rfl d2_172 (pc' := 175) rfl rfl (W := 0) (Nat.le_of_eq rfl) (rm3 l Z a0 hw ch (65534 : Int32) (65535 : Int32) h0 n0) (by decide) (by decide) (by decide) (by decide) ?_
                                  rintro _ _ ⟨⟨q, rfl, hin⟩, rfl⟩
                                  rcases hin with ⟨rfl, hin⟩ | ⟨rfl, hin⟩
                                  · replace hin : (65534 ≤ ch.toInt ∧ ch.toInt ≤ 65535) := hin
                                    show Run _ _ _ _ _ _ _ _ _ _ _ _ _ _ _ h0 0 0 175 #[.val (.int ch)] [(.int (1 : Int32))]
                                    refine r_ifeq C d2_175 (pcT := 180) (pcF := 178) (by decide) rfl ?_ ?_
                                    · intro c175
                                      first | exact absurd rfl c175 | exact absurd c175 (by decide)
                                    intro c175
                                    refine J178 () ?_
                                    rcases q167 with q | q | q | q | q | q | q | q | q | q | q | q | q | q
                                    · (exfalso; omega)
                                    · (exfalso; omega)
                                    · (exfalso; omega)
                                    · (exfalso; omega)
                                    · (exfalso; omega)
                                    · (exfalso; omega)
                                    · (exfalso; omega)
                                    · (exfalso; omega)
                                    · (exfalso; omega)
                                    · (exfalso; omega)
                                    · (exfalso; omega)
                                    · (exfalso; omega)
                                    · (exfalso; omega)
                                    · exact (Or.inr (Or.inr (⟨by omega, by omega⟩)))
                                  · replace hin : ¬ (65534 ≤ ch.toInt ∧ ch.toInt ≤ 65535) := hin
                                    show Run _ _ _ _ _ _ _ _ _ _ _ _ _ _ _ h0 0 0 175 #[.val (.int ch)] [(.int (0 : Int32))]
                                    refine r_ifeq C d2_175 (pcT := 180) (pcF := 178) (by decide) rfl ?_ ?_
                                    rotate_left
                                    · intro c175
                                      first | exact absurd rfl c175 | exact absurd c175 (by decide)
                                    intro c175
                                    have q180 : (65 ≤ ch.toInt ∧ ch.toInt ≤ 90) ∨ (95 ≤ ch.toInt ∧ ch.toInt ≤ 95) ∨ (97 ≤ ch.toInt ∧ ch.toInt ≤ 122) ∨ (192 ≤ ch.toInt ∧ ch.toInt ≤ 214) ∨ (216 ≤ ch.toInt ∧ ch.toInt ≤ 246) ∨ (248 ≤ ch.toInt ∧ ch.toInt ≤ 767) ∨ (880 ≤ ch.toInt ∧ ch.toInt ≤ 893) ∨ (895 ≤ ch.toInt ∧ ch.toInt ≤ 8191) ∨ (8204 ≤ ch.toInt ∧ ch.toInt ≤ 8205) ∨ (8304 ≤ ch.toInt ∧ ch.toInt ≤ 8591) ∨ (11264 ≤ ch.toInt ∧ ch.toInt ≤ 12271) ∨ (12289 ≤ ch.toInt ∧ ch.toInt ≤ 55295) ∨ (63744 ≤ ch.toInt ∧ ch.toInt ≤ 64975) ∨ (65008 ≤ ch.toInt ∧ ch.toInt ≤ 65533) ∨ (65536 ≤ ch.toInt ∧ ch.toInt ≤ 983039) := by
                                      rcases q167 with q | q | q | q | q | q | q | q | q | q | q | q | q | q
                                      · exact (Or.inl ⟨by omega, by omega⟩)
                                      · exact (Or.inr (Or.inl ⟨by omega, by omega⟩))
                                      · exact (Or.inr (Or.inr (Or.inl ⟨by omega, by omega⟩)))
                                      · exact (Or.inr (Or.inr (Or.inr (Or.inl ⟨by omega, by omega⟩))))
                                      · exact (Or.inr (Or.inr (Or.inr (Or.inr (Or.inl ⟨by omega, by omega⟩)))))
                                      · exact (Or.inr (Or.inr (Or.inr (Or.inr (Or.inr (Or.inl ⟨by omega, by omega⟩))))))
                                      · exact (Or.inr (Or.inr (Or.inr (Or.inr (Or.inr (Or.inr (Or.inl ⟨by omega, by omega⟩)))))))
                                      · exact (Or.inr (Or.inr (Or.inr (Or.inr (Or.inr (Or.inr (Or.inr (Or.inl ⟨by omega, by omega⟩))))))))
                                      · exact (Or.inr (Or.inr (Or.inr (Or.inr (Or.inr (Or.inr (Or.inr (Or.inr (Or.inl ⟨by omega, by omega⟩)))))))))
                                      · exact (Or.inr (Or.inr (Or.inr (Or.inr (Or.inr (Or.inr (Or.inr (Or.inr (Or.inr (Or.inl ⟨by omega, by omega⟩))))))))))
                                      · exact (Or.inr (Or.inr (Or.inr (Or.inr (Or.inr (Or.inr (Or.inr (Or.inr (Or.inr (Or.inr (Or.inl ⟨by omega, by omega⟩)))))))))))
                                      · exact (Or.inr (Or.inr (Or.inr (Or.inr (Or.inr (Or.inr (Or.inr (Or.inr (Or.inr (Or.inr (Or.inr (Or.inl ⟨by omega, by omega⟩))))))))))))
                                      · exact (Or.inr (Or.inr (Or.inr (Or.inr (Or.inr (Or.inr (Or.inr (Or.inr (Or.inr (Or.inr (Or.inr (Or.inr (Or.inl ⟨by omega, by omega⟩)))))))))))))
                                      · omega
                                    refine r_iconst C d2_180 (pc' := 181) rfl (z := (1 : Int32)) rfl ?_
                                    have hz : (58 ≤ ch.toInt ∧ ch.toInt ≤ 58) ∨ (65 ≤ ch.toInt ∧ ch.toInt ≤ 90) ∨ (95 ≤ ch.toInt ∧ ch.toInt ≤ 95) ∨ (97 ≤ ch.toInt ∧ ch.toInt ≤ 122) ∨ (192 ≤ ch.toInt ∧ ch.toInt ≤ 214) ∨ (216 ≤ ch.toInt ∧ ch.toInt ≤ 246) ∨ (248 ≤ ch.toInt ∧ ch.toInt ≤ 767) ∨ (880 ≤ ch.toInt ∧ ch.toInt ≤ 893) ∨ (895 ≤ ch.toInt ∧ ch.toInt ≤ 8191) ∨ (8204 ≤ ch.toInt ∧ ch.toInt ≤ 8205) ∨ (8304 ≤ ch.toInt ∧ ch.toInt ≤ 8591) ∨ (11264 ≤ ch.toInt ∧ ch.toInt ≤ 12271) ∨ (12289 ≤ ch.toInt ∧ ch.toInt ≤ 55295) ∨ (63744 ≤ ch.toInt ∧ ch.toInt ≤ 64975) ∨ (65008 ≤ ch.toInt ∧ ch.toInt ≤ 65533) ∨ (65536 ≤ ch.toInt ∧ ch.toInt ≤ 983039) := by
                                      rcases q180 with q | q | q | q | q | q | q | q | q | q | q | q | q | q | q
                                      · exact (Or.inr (Or.inl ⟨by omega, by omega⟩))
                                      · exact (Or.inr (Or.inr (Or.inl ⟨by omega, by omega⟩)))
                                      · exact (Or.inr (Or.inr (Or.inr (Or.inl ⟨by omega, by omega⟩))))
                                      · exact (Or.inr (Or.inr (Or.inr (Or.inr (Or.inl ⟨by omega, by omega⟩)))))
                                      · exact (Or.inr (Or.inr (Or.inr (Or.inr (Or.inr (Or.inl ⟨by omega, by omega⟩))))))
                                      · exact (Or.inr (Or.inr (Or.inr (Or.inr (Or.inr (Or.inr (Or.inl ⟨by omega, by omega⟩)))))))
                                      · exact (Or.inr (Or.inr (Or.inr (Or.inr (Or.inr (Or.inr (Or.inr (Or.inl ⟨by omega, by omega⟩))))))))
                                      · exact (Or.inr (Or.inr (Or.inr (Or.inr (Or.inr (Or.inr (Or.inr (Or.inr (Or.inl ⟨by omega, by omega⟩)))))))))
                                      · exact (Or.inr (Or.inr (Or.inr (Or.inr (Or.inr (Or.inr (Or.inr (Or.inr (Or.inr (Or.inl ⟨by omega, by omega⟩))))))))))
                                      · exact (Or.inr (Or.inr (Or.inr (Or.inr (Or.inr (Or.inr (Or.inr (Or.inr (Or.inr (Or.inr (Or.inl ⟨by omega, by omega⟩)))))))))))
                                      · exact (Or.inr (Or.inr (Or.inr (Or.inr (Or.inr (Or.inr (Or.inr (Or.inr (Or.inr (Or.inr (Or.inr (Or.inl ⟨by omega, by omega⟩))))))))))))
                                      · exact (Or.inr (Or.inr (Or.inr (Or.inr (Or.inr (Or.inr (Or.inr (Or.inr (Or.inr (Or.inr (Or.inr (Or.inr (Or.inl ⟨by omega, by omega⟩)))))))))))))
                                      · exact (Or.inr (Or.inr (Or.inr (Or.inr (Or.inr (Or.inr (Or.inr (Or.inr (Or.inr (Or.inr (Or.inr (Or.inr (Or.inr (Or.inl ⟨by omega, by omega⟩))))))))))))))
                                      · exact (Or.inr (Or.inr (Or.inr (Or.inr (Or.inr (Or.inr (Or.inr (Or.inr (Or.inr (Or.inr (Or.inr (Or.inr (Or.inr (Or.inr (Or.inl ⟨by omega, by omega⟩)))))))))))))))
                                      · exact (Or.inr (Or.inr (Or.inr (Or.inr (Or.inr (Or.inr (Or.inr (Or.inr (Or.inr (Or.inr (Or.inr (Or.inr (Or.inr (Or.inr (Or.inr (⟨by omega, by omega⟩))))))))))))))))
                                    exact r_ireturnN (t := .boolean) (by simp) C d2_181 ⟨by rw [show own_ns ch.toInt = true from decide_eq_true hz]; rfl, rfl⟩ (by decide) (by decide)
                    · intro c84
                      replace c84 : ch.toInt = 894 := by rw [c84]; rfl
                      refine J87 () ?_
                      rcases q80 with q | q | q | q | q | q | q
                      · (exfalso; omega)
                      · (exfalso; omega)
                      · (exfalso; omega)
                      · (exfalso; omega)
                      · (exfalso; omega)
                      · (exfalso; omega)
                      · exact (Or.inr (Or.inr (Or.inr (⟨by omega, by omega⟩))))
      · intro c17
        replace c17 : ch.toInt > 983039 := c17
        refine J20 () ?_
        exact (Or.inr (Or.inr (⟨by omega, by omega⟩)))
  · intro c3
    replace c3 : ch.toInt = 58 := by rw [c3]; rfl
    have q6 : (58 ≤ ch.toInt ∧ ch.toInt ≤ 58) := by
      exact (⟨by omega, by omega⟩)
    refine r_iconst C d2_6 (pc' := 7) rfl (z := (1 : Int32)) rfl ?_
    have hz : (58 ≤ ch.toInt ∧ ch.toInt ≤ 58) ∨ (65 ≤ ch.toInt ∧ ch.toInt ≤ 90) ∨ (95 ≤ ch.toInt ∧ ch.toInt ≤ 95) ∨ (97 ≤ ch.toInt ∧ ch.toInt ≤ 122) ∨ (192 ≤ ch.toInt ∧ ch.toInt ≤ 214) ∨ (216 ≤ ch.toInt ∧ ch.toInt ≤ 246) ∨ (248 ≤ ch.toInt ∧ ch.toInt ≤ 767) ∨ (880 ≤ ch.toInt ∧ ch.toInt ≤ 893) ∨ (895 ≤ ch.toInt ∧ ch.toInt ≤ 8191) ∨ (8204 ≤ ch.toInt ∧ ch.toInt ≤ 8205) ∨ (8304 ≤ ch.toInt ∧ ch.toInt ≤ 8591) ∨ (11264 ≤ ch.toInt ∧ ch.toInt ≤ 12271) ∨ (12289 ≤ ch.toInt ∧ ch.toInt ≤ 55295) ∨ (63744 ≤ ch.toInt ∧ ch.toInt ≤ 64975) ∨ (65008 ≤ ch.toInt ∧ ch.toInt ≤ 65533) ∨ (65536 ≤ ch.toInt ∧ ch.toInt ≤ 983039) := by
      exact (Or.inl ⟨by omega, by omega⟩)
    exact r_ireturnN (t := .boolean) (by simp) C d2_7 ⟨by rw [show own_ns ch.toInt = true from decide_eq_true hz]; rfl, rfl⟩ (by decide) (by decide)
set_option maxRecDepth 65536 in
set_option maxHeartbeats 40000000 in
theorem rm1 (l : Launch) (Z : State) (a0 : Array Value) (hw : ∀ d ∈ tables_1, d.before a0 Z = true) (ch : Int32) (h0 : Heap) (n0 : Nat)  :
    Con l Z (⟨"com/example/trim_hedge/trimhedge/xml/XmlChars", "isNameStartChar", "(I)Z"⟩ : MethodName) prog_155_method_21_code 1 (some .boolean) ({ frames := 0, cells := 0, slots := 0, locals := 0 } : Room) #[(.int ch)] h0 n0 (fun v h => v = some (.int (if own_ns ch.toInt then 1 else 0)) ∧ h0 = h) := by
  refine Con.of_body (plainFor_of_name pn1) #[.val (.int ch)] (fun m => by first | rfl | (simp [entryFrame, mkF, argsToLocals, Value.category]; done)) ?_
  intro p e s m below meth c C
  have hr := rng32 ch
  refine join (α := Unit) (fun _ => ((-2147483648) ≤ ch.toInt ∧ ch.toInt ≤ 57) ∨ (59 ≤ ch.toInt ∧ ch.toInt ≤ 64) ∨ (91 ≤ ch.toInt ∧ ch.toInt ≤ 94) ∨ (96 ≤ ch.toInt ∧ ch.toInt ≤ 96) ∨ (123 ≤ ch.toInt ∧ ch.toInt ≤ 191) ∨ (215 ≤ ch.toInt ∧ ch.toInt ≤ 215) ∨ (247 ≤ ch.toInt ∧ ch.toInt ≤ 247) ∨ (768 ≤ ch.toInt ∧ ch.toInt ≤ 879) ∨ (894 ≤ ch.toInt ∧ ch.toInt ≤ 894) ∨ (8192 ≤ ch.toInt ∧ ch.toInt ≤ 8203) ∨ (8206 ≤ ch.toInt ∧ ch.toInt ≤ 8303) ∨ (8592 ≤ ch.toInt ∧ ch.toInt ≤ 11263) ∨ (12272 ≤ ch.toInt ∧ ch.toInt ≤ 12288) ∨ (55296 ≤ ch.toInt ∧ ch.toInt ≤ 63743) ∨ (64976 ≤ ch.toInt ∧ ch.toInt ≤ 65007) ∨ (65534 ≤ ch.toInt ∧ ch.toInt ≤ 65535) ∨ (983040 ≤ ch.toInt ∧ ch.toInt ≤ 2147483647)) (fun _ => h0) 0 0 201 (fun _ => #[.val (.int ch)]) (fun _ => []) ?_ ?_
  · rintro _ q201
    refine r_iconst C d3_201 (pc' := 202) rfl (z := (0 : Int32)) rfl ?_
    have hz : ((-2147483648) ≤ ch.toInt ∧ ch.toInt ≤ 57) ∨ (59 ≤ ch.toInt ∧ ch.toInt ≤ 64) ∨ (91 ≤ ch.toInt ∧ ch.toInt ≤ 94) ∨ (96 ≤ ch.toInt ∧ ch.toInt ≤ 96) ∨ (123 ≤ ch.toInt ∧ ch.toInt ≤ 191) ∨ (215 ≤ ch.toInt ∧ ch.toInt ≤ 215) ∨ (247 ≤ ch.toInt ∧ ch.toInt ≤ 247) ∨ (768 ≤ ch.toInt ∧ ch.toInt ≤ 879) ∨ (894 ≤ ch.toInt ∧ ch.toInt ≤ 894) ∨ (8192 ≤ ch.toInt ∧ ch.toInt ≤ 8203) ∨ (8206 ≤ ch.toInt ∧ ch.toInt ≤ 8303) ∨ (8592 ≤ ch.toInt ∧ ch.toInt ≤ 11263) ∨ (12272 ≤ ch.toInt ∧ ch.toInt ≤ 12288) ∨ (55296 ≤ ch.toInt ∧ ch.toInt ≤ 63743) ∨ (64976 ≤ ch.toInt ∧ ch.toInt ≤ 65007) ∨ (65534 ≤ ch.toInt ∧ ch.toInt ≤ 65535) ∨ (983040 ≤ ch.toInt ∧ ch.toInt ≤ 2147483647) := by
      rcases q201 with q | q | q | q | q | q | q | q | q | q | q | q | q | q | q | q | q
      · exact (Or.inl ⟨by omega, by omega⟩)
      · exact (Or.inr (Or.inl ⟨by omega, by omega⟩))
      · exact (Or.inr (Or.inr (Or.inl ⟨by omega, by omega⟩)))
      · exact (Or.inr (Or.inr (Or.inr (Or.inl ⟨by omega, by omega⟩))))
      · exact (Or.inr (Or.inr (Or.inr (Or.inr (Or.inl ⟨by omega, by omega⟩)))))
      · exact (Or.inr (Or.inr (Or.inr (Or.inr (Or.inr (Or.inl ⟨by omega, by omega⟩))))))
      · exact (Or.inr (Or.inr (Or.inr (Or.inr (Or.inr (Or.inr (Or.inl ⟨by omega, by omega⟩)))))))
      · exact (Or.inr (Or.inr (Or.inr (Or.inr (Or.inr (Or.inr (Or.inr (Or.inl ⟨by omega, by omega⟩))))))))
      · exact (Or.inr (Or.inr (Or.inr (Or.inr (Or.inr (Or.inr (Or.inr (Or.inr (Or.inl ⟨by omega, by omega⟩)))))))))
      · exact (Or.inr (Or.inr (Or.inr (Or.inr (Or.inr (Or.inr (Or.inr (Or.inr (Or.inr (Or.inl ⟨by omega, by omega⟩))))))))))
      · exact (Or.inr (Or.inr (Or.inr (Or.inr (Or.inr (Or.inr (Or.inr (Or.inr (Or.inr (Or.inr (Or.inl ⟨by omega, by omega⟩)))))))))))
      · exact (Or.inr (Or.inr (Or.inr (Or.inr (Or.inr (Or.inr (Or.inr (Or.inr (Or.inr (Or.inr (Or.inr (Or.inl ⟨by omega, by omega⟩))))))))))))
      · exact (Or.inr (Or.inr (Or.inr (Or.inr (Or.inr (Or.inr (Or.inr (Or.inr (Or.inr (Or.inr (Or.inr (Or.inr (Or.inl ⟨by omega, by omega⟩)))))))))))))
      · exact (Or.inr (Or.inr (Or.inr (Or.inr (Or.inr (Or.inr (Or.inr (Or.inr (Or.inr (Or.inr (Or.inr (Or.inr (Or.inr (Or.inl ⟨by omega, by omega⟩))))))))))))))
      · exact (Or.inr (Or.inr (Or.inr (Or.inr (Or.inr (Or.inr (Or.inr (Or.inr (Or.inr (Or.inr (Or.inr (Or.inr (Or.inr (Or.inr (Or.inl ⟨by omega, by omega⟩)))))))))))))))
      · exact (Or.inr (Or.inr (Or.inr (Or.inr (Or.inr (Or.inr (Or.inr (Or.inr (Or.inr (Or.inr (Or.inr (Or.inr (Or.inr (Or.inr (Or.inr (Or.inl ⟨by omega, by omega⟩))))))))))))))))
      · exact (Or.inr (Or.inr (Or.inr (Or.inr (Or.inr (Or.inr (Or.inr (Or.inr (Or.inr (Or.inr (Or.inr (Or.inr (Or.inr (Or.inr (Or.inr (Or.inr (⟨by omega, by omega⟩)))))))))))))))))
    exact r_ireturnN (t := .boolean) (by simp) C d3_202 ⟨by rw [show own_ns ch.toInt = false from decide_eq_false (own_ns_f hz)]; rfl, rfl⟩ (by decide) (by decide)
  intro J201
  refine join (α := Unit) (fun _ => (58 ≤ ch.toInt ∧ ch.toInt ≤ 58) ∨ (65 ≤ ch.toInt ∧ ch.toInt ≤ 90) ∨ (95 ≤ ch.toInt ∧ ch.toInt ≤ 95) ∨ (97 ≤ ch.toInt ∧ ch.toInt ≤ 122) ∨ (192 ≤ ch.toInt ∧ ch.toInt ≤ 214) ∨ (216 ≤ ch.toInt ∧ ch.toInt ≤ 246) ∨ (248 ≤ ch.toInt ∧ ch.toInt ≤ 767) ∨ (880 ≤ ch.toInt ∧ ch.toInt ≤ 893) ∨ (895 ≤ ch.toInt ∧ ch.toInt ≤ 8191) ∨ (8204 ≤ ch.toInt ∧ ch.toInt ≤ 8205) ∨ (8304 ≤ ch.toInt ∧ ch.toInt ≤ 8591) ∨ (11264 ≤ ch.toInt ∧ ch.toInt ≤ 12271) ∨ (12289 ≤ ch.toInt ∧ ch.toInt ≤ 55295) ∨ (63744 ≤ ch.toInt ∧ ch.toInt ≤ 64975) ∨ (65008 ≤ ch.toInt ∧ ch.toInt ≤ 65533) ∨ (65536 ≤ ch.toInt ∧ ch.toInt ≤ 983039)) (fun _ => h0) 0 0 197 (fun _ => #[.val (.int ch)]) (fun _ => []) ?_ ?_
  · rintro _ q197
    refine r_iconst C d3_197 (pc' := 198) rfl (z := (1 : Int32)) rfl ?_
    refine r_goto C d3_198 (pc' := 202) (by decide) ?_
    have hz : (58 ≤ ch.toInt ∧ ch.toInt ≤ 58) ∨ (65 ≤ ch.toInt ∧ ch.toInt ≤ 90) ∨ (95 ≤ ch.toInt ∧ ch.toInt ≤ 95) ∨ (97 ≤ ch.toInt ∧ ch.toInt ≤ 122) ∨ (192 ≤ ch.toInt ∧ ch.toInt ≤ 214) ∨ (216 ≤ ch.toInt ∧ ch.toInt ≤ 246) ∨ (248 ≤ ch.toInt ∧ ch.toInt ≤ 767) ∨ (880 ≤ ch.toInt ∧ ch.toInt ≤ 893) ∨ (895 ≤ ch.toInt ∧ ch.toInt ≤ 8191) ∨ (8204 ≤ ch.toInt ∧ ch.toInt ≤ 8205) ∨ (8304 ≤ ch.toInt ∧ ch.toInt ≤ 8591) ∨ (11264 ≤ ch.toInt ∧ ch.toInt ≤ 12271) ∨ (12289 ≤ ch.toInt ∧ ch.toInt ≤ 55295) ∨ (63744 ≤ ch.toInt ∧ ch.toInt ≤ 64975) ∨ (65008 ≤ ch.toInt ∧ ch.toInt ≤ 65533) ∨ (65536 ≤ ch.toInt ∧ ch.toInt ≤ 983039) := by
      rcases q197 with q | q | q | q | q | q | q | q | q | q | q | q | q | q | q | q
      · exact (Or.inl ⟨by omega, by omega⟩)
      · exact (Or.inr (Or.inl ⟨by omega, by omega⟩))
      · exact (Or.inr (Or.inr (Or.inl ⟨by omega, by omega⟩)))
      · exact (Or.inr (Or.inr (Or.inr (Or.inl ⟨by omega, by omega⟩))))
      · exact (Or.inr (Or.inr (Or.inr (Or.inr (Or.inl ⟨by omega, by omega⟩)))))
      · exact (Or.inr (Or.inr (Or.inr (Or.inr (Or.inr (Or.inl ⟨by omega, by omega⟩))))))
      · exact (Or.inr (Or.inr (Or.inr (Or.inr (Or.inr (Or.inr (Or.inl ⟨by omega, by omega⟩)))))))
      · exact (Or.inr (Or.inr (Or.inr (Or.inr (Or.inr (Or.inr (Or.inr (Or.inl ⟨by omega, by omega⟩))))))))
      · exact (Or.inr (Or.inr (Or.inr (Or.inr (Or.inr (Or.inr (Or.inr (Or.inr (Or.inl ⟨by omega, by omega⟩)))))))))
      · exact (Or.inr (Or.inr (Or.inr (Or.inr (Or.inr (Or.inr (Or.inr (Or.inr (Or.inr (Or.inl ⟨by omega, by omega⟩))))))))))
      · exact (Or.inr (Or.inr (Or.inr (Or.inr (Or.inr (Or.inr (Or.inr (Or.inr (Or.inr (Or.inr (Or.inl ⟨by omega, by omega⟩)))))))))))
      · exact (Or.inr (Or.inr (Or.inr (Or.inr (Or.inr (Or.inr (Or.inr (Or.inr (Or.inr (Or.inr (Or.inr (Or.inl ⟨by omega, by omega⟩))))))))))))
      · exact (Or.inr (Or.inr (Or.inr (Or.inr (Or.inr (Or.inr (Or.inr (Or.inr (Or.inr (Or.inr (Or.inr (Or.inr (Or.inl ⟨by omega, by omega⟩)))))))))))))
      · exact (Or.inr (Or.inr (Or.inr (Or.inr (Or.inr (Or.inr (Or.inr (Or.inr (Or.inr (Or.inr (Or.inr (Or.inr (Or.inr (Or.inl ⟨by omega, by omega⟩))))))))))))))
      · exact (Or.inr (Or.inr (Or.inr (Or.inr (Or.inr (Or.inr (Or.inr (Or.inr (Or.inr (Or.inr (Or.inr (Or.inr (Or.inr (Or.inr (Or.inl ⟨by omega, by omega⟩)))))))))))))))
      · exact (Or.inr (Or.inr (Or.inr (Or.inr (Or.inr (Or.inr (Or.inr (Or.inr (Or.inr (Or.inr (Or.inr (Or.inr (Or.inr (Or.inr (Or.inr (⟨by omega, by omega⟩))))))))))))))))
    exact r_ireturnN (t := .boolean) (by simp) C d3_202 ⟨by rw [show own_ns ch.toInt = true from decide_eq_true hz]; rfl, rfl⟩ (by decide) (by decide)
  intro J197
  refine join (α := Unit) (fun _ => ((-2147483648) ≤ ch.toInt ∧ ch.toInt ≤ 57) ∨ (59 ≤ ch.toInt ∧ ch.toInt ≤ 64) ∨ (91 ≤ ch.toInt ∧ ch.toInt ≤ 94) ∨ (96 ≤ ch.toInt ∧ ch.toInt ≤ 96) ∨ (123 ≤ ch.toInt ∧ ch.toInt ≤ 191) ∨ (215 ≤ ch.toInt ∧ ch.toInt ≤ 215) ∨ (247 ≤ ch.toInt ∧ ch.toInt ≤ 247) ∨ (768 ≤ ch.toInt ∧ ch.toInt ≤ 879) ∨ (894 ≤ ch.toInt ∧ ch.toInt ≤ 894) ∨ (8192 ≤ ch.toInt ∧ ch.toInt ≤ 8203) ∨ (8206 ≤ ch.toInt ∧ ch.toInt ≤ 8303) ∨ (8592 ≤ ch.toInt ∧ ch.toInt ≤ 11263) ∨ (12272 ≤ ch.toInt ∧ ch.toInt ≤ 12288) ∨ (55296 ≤ ch.toInt ∧ ch.toInt ≤ 63743) ∨ (64976 ≤ ch.toInt ∧ ch.toInt ≤ 65007) ∨ (65534 ≤ ch.toInt ∧ ch.toInt ≤ 2147483647)) (fun _ => h0) 0 0 185 (fun _ => #[.val (.int ch)]) (fun _ => []) ?_ ?_
  · rintro _ q185
    refine r_iload_n C d3_185 (pc' := 186) rfl rfl ?_
    refine r_ldc C (t16 hw) d3_186 (pc' := 188) rfl ?_
    refine r_icmplt C d3_188 (pcT := 201) (pcF := 191) (by decide) rfl ?_ ?_
    · intro c188
      replace c188 : ch.toInt < 65536 := c188
      refine J201 () ?_
      rcases q185 with q | q | q | q | q | q | q | q | q | q | q | q | q | q | q | q
      · exact (Or.inl ⟨by omega, by omega⟩)
      · exact (Or.inr (Or.inl ⟨by omega, by omega⟩))
      · exact (Or.inr (Or.inr (Or.inl ⟨by omega, by omega⟩)))
      · exact (Or.inr (Or.inr (Or.inr (Or.inl ⟨by omega, by omega⟩))))
      · exact (Or.inr (Or.inr (Or.inr (Or.inr (Or.inl ⟨by omega, by omega⟩)))))
      · exact (Or.inr (Or.inr (Or.inr (Or.inr (Or.inr (Or.inl ⟨by omega, by omega⟩))))))
      · exact (Or.inr (Or.inr (Or.inr (Or.inr (Or.inr (Or.inr (Or.inl ⟨by omega, by omega⟩)))))))
      · exact (Or.inr (Or.inr (Or.inr (Or.inr (Or.inr (Or.inr (Or.inr (Or.inl ⟨by omega, by omega⟩))))))))
      · exact (Or.inr (Or.inr (Or.inr (Or.inr (Or.inr (Or.inr (Or.inr (Or.inr (Or.inl ⟨by omega, by omega⟩)))))))))
      · exact (Or.inr (Or.inr (Or.inr (Or.inr (Or.inr (Or.inr (Or.inr (Or.inr (Or.inr (Or.inl ⟨by omega, by omega⟩))))))))))
      · exact (Or.inr (Or.inr (Or.inr (Or.inr (Or.inr (Or.inr (Or.inr (Or.inr (Or.inr (Or.inr (Or.inl ⟨by omega, by omega⟩)))))))))))
      · exact (Or.inr (Or.inr (Or.inr (Or.inr (Or.inr (Or.inr (Or.inr (Or.inr (Or.inr (Or.inr (Or.inr (Or.inl ⟨by omega, by omega⟩))))))))))))
      · exact (Or.inr (Or.inr (Or.inr (Or.inr (Or.inr (Or.inr (Or.inr (Or.inr (Or.inr (Or.inr (Or.inr (Or.inr (Or.inl ⟨by omega, by omega⟩)))))))))))))
      · exact (Or.inr (Or.inr (Or.inr (Or.inr (Or.inr (Or.inr (Or.inr (Or.inr (Or.inr (Or.inr (Or.inr (Or.inr (Or.inr (Or.inl ⟨by omega, by omega⟩))))))))))))))
      · exact (Or.inr (Or.inr (Or.inr (Or.inr (Or.inr (Or.inr (Or.inr (Or.inr (Or.inr (Or.inr (Or.inr (Or.inr (Or.inr (Or.inr (Or.inl ⟨by omega, by omega⟩)))))))))))))))
      · exact (Or.inr (Or.inr (Or.inr (Or.inr (Or.inr (Or.inr (Or.inr (Or.inr (Or.inr (Or.inr (Or.inr (Or.inr (Or.inr (Or.inr (Or.inr (Or.inl ⟨by omega, by omega⟩))))))))))))))))
    · intro c188
      replace c188 : ch.toInt ≥ 65536 := c188
      have q191 : (65536 ≤ ch.toInt ∧ ch.toInt ≤ 2147483647) := by
        rcases q185 with q | q | q | q | q | q | q | q | q | q | q | q | q | q | q | q
        · (exfalso; omega)
        · (exfalso; omega)
        · (exfalso; omega)
        · (exfalso; omega)
        · (exfalso; omega)
        · (exfalso; omega)
        · (exfalso; omega)
        · (exfalso; omega)
        · (exfalso; omega)
        · (exfalso; omega)
        · (exfalso; omega)
        · (exfalso; omega)
        · (exfalso; omega)
        · (exfalso; omega)
        · (exfalso; omega)
        · exact (⟨by omega, by omega⟩)
      refine r_iload_n C d3_191 (pc' := 192) rfl rfl ?_
      refine r_ldc C (t33 hw) d3_192 (pc' := 194) rfl ?_
      refine r_icmpgt C d3_194 (pcT := 201) (pcF := 197) (by decide) rfl ?_ ?_
      · intro c194
        replace c194 : ch.toInt > 983039 := c194
        refine J201 () ?_
        exact (Or.inr (Or.inr (Or.inr (Or.inr (Or.inr (Or.inr (Or.inr (Or.inr (Or.inr (Or.inr (Or.inr (Or.inr (Or.inr (Or.inr (Or.inr (Or.inr (⟨by omega, by omega⟩)))))))))))))))))
      · intro c194
        replace c194 : ch.toInt ≤ 983039 := c194
        refine J197 () ?_
        exact (Or.inr (Or.inr (Or.inr (Or.inr (Or.inr (Or.inr (Or.inr (Or.inr (Or.inr (Or.inr (Or.inr (Or.inr (Or.inr (Or.inr (Or.inr (⟨by omega, by omega⟩))))))))))))))))
  intro J185
  refine join (α := Unit) (fun _ => ((-2147483648) ≤ ch.toInt ∧ ch.toInt ≤ 57) ∨ (59 ≤ ch.toInt ∧ ch.toInt ≤ 64) ∨ (91 ≤ ch.toInt ∧ ch.toInt ≤ 94) ∨ (96 ≤ ch.toInt ∧ ch.toInt ≤ 96) ∨ (123 ≤ ch.toInt ∧ ch.toInt ≤ 191) ∨ (215 ≤ ch.toInt ∧ ch.toInt ≤ 215) ∨ (247 ≤ ch.toInt ∧ ch.toInt ≤ 247) ∨ (768 ≤ ch.toInt ∧ ch.toInt ≤ 879) ∨ (894 ≤ ch.toInt ∧ ch.toInt ≤ 894) ∨ (8192 ≤ ch.toInt ∧ ch.toInt ≤ 8203) ∨ (8206 ≤ ch.toInt ∧ ch.toInt ≤ 8303) ∨ (8592 ≤ ch.toInt ∧ ch.toInt ≤ 11263) ∨ (12272 ≤ ch.toInt ∧ ch.toInt ≤ 12288) ∨ (55296 ≤ ch.toInt ∧ ch.toInt ≤ 63743) ∨ (64976 ≤ ch.toInt ∧ ch.toInt ≤ 2147483647)) (fun _ => h0) 0 0 173 (fun _ => #[.val (.int ch)]) (fun _ => []) ?_ ?_
  · rintro _ q173
    refine r_iload_n C d3_173 (pc' := 174) rfl rfl ?_
    refine r_ldc C (t15 hw) d3_174 (pc' := 176) rfl ?_
    refine r_icmplt C d3_176 (pcT := 185) (pcF := 179) (by decide) rfl ?_ ?_
    · intro c176
      replace c176 : ch.toInt < 65008 := c176
      refine J185 () ?_
      rcases q173 with q | q | q | q | q | q | q | q | q | q | q | q | q | q | q
      · exact (Or.inl ⟨by omega, by omega⟩)
      · exact (Or.inr (Or.inl ⟨by omega, by omega⟩))
      · exact (Or.inr (Or.inr (Or.inl ⟨by omega, by omega⟩)))
      · exact (Or.inr (Or.inr (Or.inr (Or.inl ⟨by omega, by omega⟩))))
      · exact (Or.inr (Or.inr (Or.inr (Or.inr (Or.inl ⟨by omega, by omega⟩)))))
      · exact (Or.inr (Or.inr (Or.inr (Or.inr (Or.inr (Or.inl ⟨by omega, by omega⟩))))))
      · exact (Or.inr (Or.inr (Or.inr (Or.inr (Or.inr (Or.inr (Or.inl ⟨by omega, by omega⟩)))))))
      · exact (Or.inr (Or.inr (Or.inr (Or.inr (Or.inr (Or.inr (Or.inr (Or.inl ⟨by omega, by omega⟩))))))))
      · exact (Or.inr (Or.inr (Or.inr (Or.inr (Or.inr (Or.inr (Or.inr (Or.inr (Or.inl ⟨by omega, by omega⟩)))))))))
      · exact (Or.inr (Or.inr (Or.inr (Or.inr (Or.inr (Or.inr (Or.inr (Or.inr (Or.inr (Or.inl ⟨by omega, by omega⟩))))))))))
      · exact (Or.inr (Or.inr (Or.inr (Or.inr (Or.inr (Or.inr (Or.inr (Or.inr (Or.inr (Or.inr (Or.inl ⟨by omega, by omega⟩)))))))))))
      · exact (Or.inr (Or.inr (Or.inr (Or.inr (Or.inr (Or.inr (Or.inr (Or.inr (Or.inr (Or.inr (Or.inr (Or.inl ⟨by omega, by omega⟩))))))))))))
      · exact (Or.inr (Or.inr (Or.inr (Or.inr (Or.inr (Or.inr (Or.inr (Or.inr (Or.inr (Or.inr (Or.inr (Or.inr (Or.inl ⟨by omega, by omega⟩)))))))))))))
      · exact (Or.inr (Or.inr (Or.inr (Or.inr (Or.inr (Or.inr (Or.inr (Or.inr (Or.inr (Or.inr (Or.inr (Or.inr (Or.inr (Or.inl ⟨by omega, by omega⟩))))))))))))))
      · exact (Or.inr (Or.inr (Or.inr (Or.inr (Or.inr (Or.inr (Or.inr (Or.inr (Or.inr (Or.inr (Or.inr (Or.inr (Or.inr (Or.inr (Or.inl ⟨by omega, by omega⟩)))))))))))))))
    · intro c176
      replace c176 : ch.toInt ≥ 65008 := c176
      have q179 : (65008 ≤ ch.toInt ∧ ch.toInt ≤ 2147483647) := by
        rcases q173 with q | q | q | q | q | q | q | q | q | q | q | q | q | q | q
        · (exfalso; omega)
        · (exfalso; omega)
        · (exfalso; omega)
        · (exfalso; omega)
        · (exfalso; omega)
        · (exfalso; omega)
        · (exfalso; omega)
        · (exfalso; omega)
        · (exfalso; omega)
        · (exfalso; omega)
        · (exfalso; omega)
        · (exfalso; omega)
        · (exfalso; omega)
        · (exfalso; omega)
        · exact (⟨by omega, by omega⟩)
      refine r_iload_n C d3_179 (pc' := 180) rfl rfl ?_
      refine r_ldc C (t32 hw) d3_180 (pc' := 182) rfl ?_
      refine r_icmple C d3_182 (pcT := 197) (pcF := 185) (by decide) rfl ?_ ?_
      · intro c182
        replace c182 : ch.toInt ≤ 65533 := c182
        refine J197 () ?_
        exact (Or.inr (Or.inr (Or.inr (Or.inr (Or.inr (Or.inr (Or.inr (Or.inr (Or.inr (Or.inr (Or.inr (Or.inr (Or.inr (Or.inr (Or.inl ⟨by omega, by omega⟩)))))))))))))))
      · intro c182
        replace c182 : ch.toInt > 65533 := c182
        refine J185 () ?_
        exact (Or.inr (Or.inr (Or.inr (Or.inr (Or.inr (Or.inr (Or.inr (Or.inr (Or.inr (Or.inr (Or.inr (Or.inr (Or.inr (Or.inr (Or.inr (⟨by omega, by omega⟩))))))))))))))))
  intro J173
  refine join (α := Unit) (fun _ => ((-2147483648) ≤ ch.toInt ∧ ch.toInt ≤ 57) ∨ (59 ≤ ch.toInt ∧ ch.toInt ≤ 64) ∨ (91 ≤ ch.toInt ∧ ch.toInt ≤ 94) ∨ (96 ≤ ch.toInt ∧ ch.toInt ≤ 96) ∨ (123 ≤ ch.toInt ∧ ch.toInt ≤ 191) ∨ (215 ≤ ch.toInt ∧ ch.toInt ≤ 215) ∨ (247 ≤ ch.toInt ∧ ch.toInt ≤ 247) ∨ (768 ≤ ch.toInt ∧ ch.toInt ≤ 879) ∨ (894 ≤ ch.toInt ∧ ch.toInt ≤ 894) ∨ (8192 ≤ ch.toInt ∧ ch.toInt ≤ 8203) ∨ (8206 ≤ ch.toInt ∧ ch.toInt ≤ 8303) ∨ (8592 ≤ ch.toInt ∧ ch.toInt ≤ 11263) ∨ (12272 ≤ ch.toInt ∧ ch.toInt ≤ 12288) ∨ (55296 ≤ ch.toInt ∧ ch.toInt ≤ 2147483647)) (fun _ => h0) 0 0 161 (fun _ => #[.val (.int ch)]) (fun _ => []) ?_ ?_
  · rintro _ q161
    refine r_iload_n C d3_161 (pc' := 162) rfl rfl ?_
    refine r_ldc C (t14 hw) d3_162 (pc' := 164) rfl ?_
    refine r_icmplt C d3_164 (pcT := 173) (pcF := 167) (by decide) rfl ?_ ?_
    · intro c164
      replace c164 : ch.toInt < 63744 := c164
      refine J173 () ?_
      rcases q161 with q | q | q | q | q | q | q | q | q | q | q | q | q | q
      · exact (Or.inl ⟨by omega, by omega⟩)
      · exact (Or.inr (Or.inl ⟨by omega, by omega⟩))
      · exact (Or.inr (Or.inr (Or.inl ⟨by omega, by omega⟩)))
      · exact (Or.inr (Or.inr (Or.inr (Or.inl ⟨by omega, by omega⟩))))
      · exact (Or.inr (Or.inr (Or.inr (Or.inr (Or.inl ⟨by omega, by omega⟩)))))
      · exact (Or.inr (Or.inr (Or.inr (Or.inr (Or.inr (Or.inl ⟨by omega, by omega⟩))))))
      · exact (Or.inr (Or.inr (Or.inr (Or.inr (Or.inr (Or.inr (Or.inl ⟨by omega, by omega⟩)))))))
      · exact (Or.inr (Or.inr (Or.inr (Or.inr (Or.inr (Or.inr (Or.inr (Or.inl ⟨by omega, by omega⟩))))))))
      · exact (Or.inr (Or.inr (Or.inr (Or.inr (Or.inr (Or.inr (Or.inr (Or.inr (Or.inl ⟨by omega, by omega⟩)))))))))
      · exact (Or.inr (Or.inr (Or.inr (Or.inr (Or.inr (Or.inr (Or.inr (Or.inr (Or.inr (Or.inl ⟨by omega, by omega⟩))))))))))
      · exact (Or.inr (Or.inr (Or.inr (Or.inr (Or.inr (Or.inr (Or.inr (Or.inr (Or.inr (Or.inr (Or.inl ⟨by omega, by omega⟩)))))))))))
      · exact (Or.inr (Or.inr (Or.inr (Or.inr (Or.inr (Or.inr (Or.inr (Or.inr (Or.inr (Or.inr (Or.inr (Or.inl ⟨by omega, by omega⟩))))))))))))
      · exact (Or.inr (Or.inr (Or.inr (Or.inr (Or.inr (Or.inr (Or.inr (Or.inr (Or.inr (Or.inr (Or.inr (Or.inr (Or.inl ⟨by omega, by omega⟩)))))))))))))
      · exact (Or.inr (Or.inr (Or.inr (Or.inr (Or.inr (Or.inr (Or.inr (Or.inr (Or.inr (Or.inr (Or.inr (Or.inr (Or.inr (Or.inl ⟨by omega, by omega⟩))))))))))))))
    · intro c164
      replace c164 : ch.toInt ≥ 63744 := c164
      have q167 : (63744 ≤ ch.toInt ∧ ch.toInt ≤ 2147483647) := by
        rcases q161 with q | q | q | q | q | q | q | q | q | q | q | q | q | q
        · (exfalso; omega)
        · (exfalso; omega)
        · (exfalso; omega)
        · (exfalso; omega)
        · (exfalso; omega)
        · (exfalso; omega)
        · (exfalso; omega)
        · (exfalso; omega)
        · (exfalso; omega)
        · (exfalso; omega)
        · (exfalso; omega)
        · (exfalso; omega)
        · (exfalso; omega)
        · exact (⟨by omega, by omega⟩)
      refine r_iload_n C d3_167 (pc' := 168) rfl rfl ?_
      refine r_ldc C (t31 hw) d3_168 (pc' := 170) rfl ?_
      refine r_icmple C d3_170 (pcT := 197) (pcF := 173) (by decide) rfl ?_ ?_
      · intro c170
        replace c170 : ch.toInt ≤ 64975 := c170
        refine J197 () ?_
        exact (Or.inr (Or.inr (Or.inr (Or.inr (Or.inr (Or.inr (Or.inr (Or.inr (Or.inr (Or.inr (Or.inr (Or.inr (Or.inr (Or.inl ⟨by omega, by omega⟩))))))))))))))
      · intro c170
        replace c170 : ch.toInt > 64975 := c170
        refine J173 () ?_
        exact (Or.inr (Or.inr (Or.inr (Or.inr (Or.inr (Or.inr (Or.inr (Or.inr (Or.inr (Or.inr (Or.inr (Or.inr (Or.inr (Or.inr (⟨by omega, by omega⟩)))))))))))))))
  intro J161
  refine join (α := Unit) (fun _ => ((-2147483648) ≤ ch.toInt ∧ ch.toInt ≤ 57) ∨ (59 ≤ ch.toInt ∧ ch.toInt ≤ 64) ∨ (91 ≤ ch.toInt ∧ ch.toInt ≤ 94) ∨ (96 ≤ ch.toInt ∧ ch.toInt ≤ 96) ∨ (123 ≤ ch.toInt ∧ ch.toInt ≤ 191) ∨ (215 ≤ ch.toInt ∧ ch.toInt ≤ 215) ∨ (247 ≤ ch.toInt ∧ ch.toInt ≤ 247) ∨ (768 ≤ ch.toInt ∧ ch.toInt ≤ 879) ∨ (894 ≤ ch.toInt ∧ ch.toInt ≤ 894) ∨ (8192 ≤ ch.toInt ∧ ch.toInt ≤ 8203) ∨ (8206 ≤ ch.toInt ∧ ch.toInt ≤ 8303) ∨ (8592 ≤ ch.toInt ∧ ch.toInt ≤ 11263) ∨ (12272 ≤ ch.toInt ∧ ch.toInt ≤ 2147483647)) (fun _ => h0) 0 0 148 (fun _ => #[.val (.int ch)]) (fun _ => []) ?_ ?_
  · rintro _ q148
    refine r_iload_n C d3_148 (pc' := 149) rfl rfl ?_
    refine r_sipush C d3_149 (pc' := 152) rfl (z := (12289 : Int32)) rfl ?_
    refine r_icmplt C d3_152 (pcT := 161) (pcF := 155) (by decide) rfl ?_ ?_
    · intro c152
      replace c152 : ch.toInt < 12289 := c152
      refine J161 () ?_
      rcases q148 with q | q | q | q | q | q | q | q | q | q | q | q | q
      · exact (Or.inl ⟨by omega, by omega⟩)
      · exact (Or.inr (Or.inl ⟨by omega, by omega⟩))
      · exact (Or.inr (Or.inr (Or.inl ⟨by omega, by omega⟩)))
      · exact (Or.inr (Or.inr (Or.inr (Or.inl ⟨by omega, by omega⟩))))
      · exact (Or.inr (Or.inr (Or.inr (Or.inr (Or.inl ⟨by omega, by omega⟩)))))
      · exact (Or.inr (Or.inr (Or.inr (Or.inr (Or.inr (Or.inl ⟨by omega, by omega⟩))))))
      · exact (Or.inr (Or.inr (Or.inr (Or.inr (Or.inr (Or.inr (Or.inl ⟨by omega, by omega⟩)))))))
      · exact (Or.inr (Or.inr (Or.inr (Or.inr (Or.inr (Or.inr (Or.inr (Or.inl ⟨by omega, by omega⟩))))))))
      · exact (Or.inr (Or.inr (Or.inr (Or.inr (Or.inr (Or.inr (Or.inr (Or.inr (Or.inl ⟨by omega, by omega⟩)))))))))
      · exact (Or.inr (Or.inr (Or.inr (Or.inr (Or.inr (Or.inr (Or.inr (Or.inr (Or.inr (Or.inl ⟨by omega, by omega⟩))))))))))
      · exact (Or.inr (Or.inr (Or.inr (Or.inr (Or.inr (Or.inr (Or.inr (Or.inr (Or.inr (Or.inr (Or.inl ⟨by omega, by omega⟩)))))))))))
      · exact (Or.inr (Or.inr (Or.inr (Or.inr (Or.inr (Or.inr (Or.inr (Or.inr (Or.inr (Or.inr (Or.inr (Or.inl ⟨by omega, by omega⟩))))))))))))
      · exact (Or.inr (Or.inr (Or.inr (Or.inr (Or.inr (Or.inr (Or.inr (Or.inr (Or.inr (Or.inr (Or.inr (Or.inr (Or.inl ⟨by omega, by omega⟩)))))))))))))
    · intro c152
      replace c152 : ch.toInt ≥ 12289 := c152
      have q155 : (12289 ≤ ch.toInt ∧ ch.toInt ≤ 2147483647) := by
        rcases q148 with q | q | q | q | q | q | q | q | q | q | q | q | q
        · (exfalso; omega)
        · (exfalso; omega)
        · (exfalso; omega)
        · (exfalso; omega)
        · (exfalso; omega)
        · (exfalso; omega)
        · (exfalso; omega)
        · (exfalso; omega)
        · (exfalso; omega)
        · (exfalso; omega)
        · (exfalso; omega)
        · (exfalso; omega)
        · exact (⟨by omega, by omega⟩)
      refine r_iload_n C d3_155 (pc' := 156) rfl rfl ?_
      refine r_ldc C (t30 hw) d3_156 (pc' := 158) rfl ?_
      refine r_icmple C d3_158 (pcT := 197) (pcF := 161) (by decide) rfl ?_ ?_
      · intro c158
        replace c158 : ch.toInt ≤ 55295 := c158
        refine J197 () ?_
        exact (Or.inr (Or.inr (Or.inr (Or.inr (Or.inr (Or.inr (Or.inr (Or.inr (Or.inr (Or.inr (Or.inr (Or.inr (Or.inl ⟨by omega, by omega⟩)))))))))))))
      · intro c158
        replace c158 : ch.toInt > 55295 := c158
        refine J161 () ?_
        exact (Or.inr (Or.inr (Or.inr (Or.inr (Or.inr (Or.inr (Or.inr (Or.inr (Or.inr (Or.inr (Or.inr (Or.inr (Or.inr (⟨by omega, by omega⟩))))))))))))))
  intro J148
  refine join (α := Unit) (fun _ => ((-2147483648) ≤ ch.toInt ∧ ch.toInt ≤ 57) ∨ (59 ≤ ch.toInt ∧ ch.toInt ≤ 64) ∨ (91 ≤ ch.toInt ∧ ch.toInt ≤ 94) ∨ (96 ≤ ch.toInt ∧ ch.toInt ≤ 96) ∨ (123 ≤ ch.toInt ∧ ch.toInt ≤ 191) ∨ (215 ≤ ch.toInt ∧ ch.toInt ≤ 215) ∨ (247 ≤ ch.toInt ∧ ch.toInt ≤ 247) ∨ (768 ≤ ch.toInt ∧ ch.toInt ≤ 879) ∨ (894 ≤ ch.toInt ∧ ch.toInt ≤ 894) ∨ (8192 ≤ ch.toInt ∧ ch.toInt ≤ 8203) ∨ (8206 ≤ ch.toInt ∧ ch.toInt ≤ 8303) ∨ (8592 ≤ ch.toInt ∧ ch.toInt ≤ 2147483647)) (fun _ => h0) 0 0 134 (fun _ => #[.val (.int ch)]) (fun _ => []) ?_ ?_
  · rintro _ q134
    refine r_iload_n C d3_134 (pc' := 135) rfl rfl ?_
    refine r_sipush C d3_135 (pc' := 138) rfl (z := (11264 : Int32)) rfl ?_
    refine r_icmplt C d3_138 (pcT := 148) (pcF := 141) (by decide) rfl ?_ ?_
    · intro c138
      replace c138 : ch.toInt < 11264 := c138
      refine J148 () ?_
      rcases q134 with q | q | q | q | q | q | q | q | q | q | q | q
      · exact (Or.inl ⟨by omega, by omega⟩)
      · exact (Or.inr (Or.inl ⟨by omega, by omega⟩))
      · exact (Or.inr (Or.inr (Or.inl ⟨by omega, by omega⟩)))
      · exact (Or.inr (Or.inr (Or.inr (Or.inl ⟨by omega, by omega⟩))))
      · exact (Or.inr (Or.inr (Or.inr (Or.inr (Or.inl ⟨by omega, by omega⟩)))))
      · exact (Or.inr (Or.inr (Or.inr (Or.inr (Or.inr (Or.inl ⟨by omega, by omega⟩))))))
      · exact (Or.inr (Or.inr (Or.inr (Or.inr (Or.inr (Or.inr (Or.inl ⟨by omega, by omega⟩)))))))
      · exact (Or.inr (Or.inr (Or.inr (Or.inr (Or.inr (Or.inr (Or.inr (Or.inl ⟨by omega, by omega⟩))))))))
      · exact (Or.inr (Or.inr (Or.inr (Or.inr (Or.inr (Or.inr (Or.inr (Or.inr (Or.inl ⟨by omega, by omega⟩)))))))))
      · exact (Or.inr (Or.inr (Or.inr (Or.inr (Or.inr (Or.inr (Or.inr (Or.inr (Or.inr (Or.inl ⟨by omega, by omega⟩))))))))))
      · exact (Or.inr (Or.inr (Or.inr (Or.inr (Or.inr (Or.inr (Or.inr (Or.inr (Or.inr (Or.inr (Or.inl ⟨by omega, by omega⟩)))))))))))
      · exact (Or.inr (Or.inr (Or.inr (Or.inr (Or.inr (Or.inr (Or.inr (Or.inr (Or.inr (Or.inr (Or.inr (Or.inl ⟨by omega, by omega⟩))))))))))))
    · intro c138
      replace c138 : ch.toInt ≥ 11264 := c138
      have q141 : (11264 ≤ ch.toInt ∧ ch.toInt ≤ 2147483647) := by
        rcases q134 with q | q | q | q | q | q | q | q | q | q | q | q
        · (exfalso; omega)
        · (exfalso; omega)
        · (exfalso; omega)
        · (exfalso; omega)
        · (exfalso; omega)
        · (exfalso; omega)
        · (exfalso; omega)
        · (exfalso; omega)
        · (exfalso; omega)
        · (exfalso; omega)
        · (exfalso; omega)
        · exact (⟨by omega, by omega⟩)
      refine r_iload_n C d3_141 (pc' := 142) rfl rfl ?_
      refine r_sipush C d3_142 (pc' := 145) rfl (z := (12271 : Int32)) rfl ?_
      refine r_icmple C d3_145 (pcT := 197) (pcF := 148) (by decide) rfl ?_ ?_
      · intro c145
        replace c145 : ch.toInt ≤ 12271 := c145
        refine J197 () ?_
        exact (Or.inr (Or.inr (Or.inr (Or.inr (Or.inr (Or.inr (Or.inr (Or.inr (Or.inr (Or.inr (Or.inr (Or.inl ⟨by omega, by omega⟩))))))))))))
      · intro c145
        replace c145 : ch.toInt > 12271 := c145
        refine J148 () ?_
        exact (Or.inr (Or.inr (Or.inr (Or.inr (Or.inr (Or.inr (Or.inr (Or.inr (Or.inr (Or.inr (Or.inr (Or.inr (⟨by omega, by omega⟩)))))))))))))
  intro J134
  refine join (α := Unit) (fun _ => ((-2147483648) ≤ ch.toInt ∧ ch.toInt ≤ 57) ∨ (59 ≤ ch.toInt ∧ ch.toInt ≤ 64) ∨ (91 ≤ ch.toInt ∧ ch.toInt ≤ 94) ∨ (96 ≤ ch.toInt ∧ ch.toInt ≤ 96) ∨ (123 ≤ ch.toInt ∧ ch.toInt ≤ 191) ∨ (215 ≤ ch.toInt ∧ ch.toInt ≤ 215) ∨ (247 ≤ ch.toInt ∧ ch.toInt ≤ 247) ∨ (768 ≤ ch.toInt ∧ ch.toInt ≤ 879) ∨ (894 ≤ ch.toInt ∧ ch.toInt ≤ 894) ∨ (8192 ≤ ch.toInt ∧ ch.toInt ≤ 8203) ∨ (8206 ≤ ch.toInt ∧ ch.toInt ≤ 2147483647)) (fun _ => h0) 0 0 120 (fun _ => #[.val (.int ch)]) (fun _ => []) ?_ ?_
  · rintro _ q120
    refine r_iload_n C d3_120 (pc' := 121) rfl rfl ?_
    refine r_sipush C d3_121 (pc' := 124) rfl (z := (8304 : Int32)) rfl ?_
    refine r_icmplt C d3_124 (pcT := 134) (pcF := 127) (by decide) rfl ?_ ?_
    · intro c124
      replace c124 : ch.toInt < 8304 := c124
      refine J134 () ?_
      rcases q120 with q | q | q | q | q | q | q | q | q | q | q
      · exact (Or.inl ⟨by omega, by omega⟩)
      · exact (Or.inr (Or.inl ⟨by omega, by omega⟩))
      · exact (Or.inr (Or.inr (Or.inl ⟨by omega, by omega⟩)))
      · exact (Or.inr (Or.inr (Or.inr (Or.inl ⟨by omega, by omega⟩))))
      · exact (Or.inr (Or.inr (Or.inr (Or.inr (Or.inl ⟨by omega, by omega⟩)))))
      · exact (Or.inr (Or.inr (Or.inr (Or.inr (Or.inr (Or.inl ⟨by omega, by omega⟩))))))
      · exact (Or.inr (Or.inr (Or.inr (Or.inr (Or.inr (Or.inr (Or.inl ⟨by omega, by omega⟩)))))))
      · exact (Or.inr (Or.inr (Or.inr (Or.inr (Or.inr (Or.inr (Or.inr (Or.inl ⟨by omega, by omega⟩))))))))
      · exact (Or.inr (Or.inr (Or.inr (Or.inr (Or.inr (Or.inr (Or.inr (Or.inr (Or.inl ⟨by omega, by omega⟩)))))))))
      · exact (Or.inr (Or.inr (Or.inr (Or.inr (Or.inr (Or.inr (Or.inr (Or.inr (Or.inr (Or.inl ⟨by omega, by omega⟩))))))))))
      · exact (Or.inr (Or.inr (Or.inr (Or.inr (Or.inr (Or.inr (Or.inr (Or.inr (Or.inr (Or.inr (Or.inl ⟨by omega, by omega⟩)))))))))))
    · intro c124
      replace c124 : ch.toInt ≥ 8304 := c124
      have q127 : (8304 ≤ ch.toInt ∧ ch.toInt ≤ 2147483647) := by
        rcases q120 with q | q | q | q | q | q | q | q | q | q | q
        · (exfalso; omega)
        · (exfalso; omega)
        · (exfalso; omega)
        · (exfalso; omega)
        · (exfalso; omega)
        · (exfalso; omega)
        · (exfalso; omega)
        · (exfalso; omega)
        · (exfalso; omega)
        · (exfalso; omega)
        · exact (⟨by omega, by omega⟩)
      refine r_iload_n C d3_127 (pc' := 128) rfl rfl ?_
      refine r_sipush C d3_128 (pc' := 131) rfl (z := (8591 : Int32)) rfl ?_
      refine r_icmple C d3_131 (pcT := 197) (pcF := 134) (by decide) rfl ?_ ?_
      · intro c131
        replace c131 : ch.toInt ≤ 8591 := c131
        refine J197 () ?_
        exact (Or.inr (Or.inr (Or.inr (Or.inr (Or.inr (Or.inr (Or.inr (Or.inr (Or.inr (Or.inr (Or.inl ⟨by omega, by omega⟩)))))))))))
      · intro c131
        replace c131 : ch.toInt > 8591 := c131
        refine J134 () ?_
        exact (Or.inr (Or.inr (Or.inr (Or.inr (Or.inr (Or.inr (Or.inr (Or.inr (Or.inr (Or.inr (Or.inr (⟨by omega, by omega⟩))))))))))))
  intro J120
  refine join (α := Unit) (fun _ => ((-2147483648) ≤ ch.toInt ∧ ch.toInt ≤ 57) ∨ (59 ≤ ch.toInt ∧ ch.toInt ≤ 64) ∨ (91 ≤ ch.toInt ∧ ch.toInt ≤ 94) ∨ (96 ≤ ch.toInt ∧ ch.toInt ≤ 96) ∨ (123 ≤ ch.toInt ∧ ch.toInt ≤ 191) ∨ (215 ≤ ch.toInt ∧ ch.toInt ≤ 215) ∨ (247 ≤ ch.toInt ∧ ch.toInt ≤ 247) ∨ (768 ≤ ch.toInt ∧ ch.toInt ≤ 879) ∨ (894 ≤ ch.toInt ∧ ch.toInt ≤ 894) ∨ (8192 ≤ ch.toInt ∧ ch.toInt ≤ 2147483647)) (fun _ => h0) 0 0 106 (fun _ => #[.val (.int ch)]) (fun _ => []) ?_ ?_
  · rintro _ q106
    refine r_iload_n C d3_106 (pc' := 107) rfl rfl ?_
    refine r_sipush C d3_107 (pc' := 110) rfl (z := (8204 : Int32)) rfl ?_
    refine r_icmplt C d3_110 (pcT := 120) (pcF := 113) (by decide) rfl ?_ ?_
    · intro c110
      replace c110 : ch.toInt < 8204 := c110
      refine J120 () ?_
      rcases q106 with q | q | q | q | q | q | q | q | q | q
      · exact (Or.inl ⟨by omega, by omega⟩)
      · exact (Or.inr (Or.inl ⟨by omega, by omega⟩))
      · exact (Or.inr (Or.inr (Or.inl ⟨by omega, by omega⟩)))
      · exact (Or.inr (Or.inr (Or.inr (Or.inl ⟨by omega, by omega⟩))))
      · exact (Or.inr (Or.inr (Or.inr (Or.inr (Or.inl ⟨by omega, by omega⟩)))))
      · exact (Or.inr (Or.inr (Or.inr (Or.inr (Or.inr (Or.inl ⟨by omega, by omega⟩))))))
      · exact (Or.inr (Or.inr (Or.inr (Or.inr (Or.inr (Or.inr (Or.inl ⟨by omega, by omega⟩)))))))
      · exact (Or.inr (Or.inr (Or.inr (Or.inr (Or.inr (Or.inr (Or.inr (Or.inl ⟨by omega, by omega⟩))))))))
      · exact (Or.inr (Or.inr (Or.inr (Or.inr (Or.inr (Or.inr (Or.inr (Or.inr (Or.inl ⟨by omega, by omega⟩)))))))))
      · exact (Or.inr (Or.inr (Or.inr (Or.inr (Or.inr (Or.inr (Or.inr (Or.inr (Or.inr (Or.inl ⟨by omega, by omega⟩))))))))))
    · intro c110
      replace c110 : ch.toInt ≥ 8204 := c110
      have q113 : (8204 ≤ ch.toInt ∧ ch.toInt ≤ 2147483647) := by
        rcases q106 with q | q | q | q | q | q | q | q | q | q
        · (exfalso; omega)
        · (exfalso; omega)
        · (exfalso; omega)
        · (exfalso; omega)
        · (exfalso; omega)
        · (exfalso; omega)
        · (exfalso; omega)
        · (exfalso; omega)
        · (exfalso; omega)
        · exact (⟨by omega, by omega⟩)
      refine r_iload_n C d3_113 (pc' := 114) rfl rfl ?_
      refine r_sipush C d3_114 (pc' := 117) rfl (z := (8205 : Int32)) rfl ?_
      refine r_icmple C d3_117 (pcT := 197) (pcF := 120) (by decide) rfl ?_ ?_
      · intro c117
        replace c117 : ch.toInt ≤ 8205 := c117
        refine J197 () ?_
        exact (Or.inr (Or.inr (Or.inr (Or.inr (Or.inr (Or.inr (Or.inr (Or.inr (Or.inr (Or.inl ⟨by omega, by omega⟩))))))))))
      · intro c117
        replace c117 : ch.toInt > 8205 := c117
        refine J120 () ?_
        exact (Or.inr (Or.inr (Or.inr (Or.inr (Or.inr (Or.inr (Or.inr (Or.inr (Or.inr (Or.inr (⟨by omega, by omega⟩)))))))))))
  intro J106
  refine join (α := Unit) (fun _ => ((-2147483648) ≤ ch.toInt ∧ ch.toInt ≤ 57) ∨ (59 ≤ ch.toInt ∧ ch.toInt ≤ 64) ∨ (91 ≤ ch.toInt ∧ ch.toInt ≤ 94) ∨ (96 ≤ ch.toInt ∧ ch.toInt ≤ 96) ∨ (123 ≤ ch.toInt ∧ ch.toInt ≤ 191) ∨ (215 ≤ ch.toInt ∧ ch.toInt ≤ 215) ∨ (247 ≤ ch.toInt ∧ ch.toInt ≤ 247) ∨ (768 ≤ ch.toInt ∧ ch.toInt ≤ 879) ∨ (894 ≤ ch.toInt ∧ ch.toInt ≤ 2147483647)) (fun _ => h0) 0 0 92 (fun _ => #[.val (.int ch)]) (fun _ => []) ?_ ?_
  · rintro _ q92
    refine r_iload_n C d3_92 (pc' := 93) rfl rfl ?_
    refine r_sipush C d3_93 (pc' := 96) rfl (z := (895 : Int32)) rfl ?_
    refine r_icmplt C d3_96 (pcT := 106) (pcF := 99) (by decide) rfl ?_ ?_
    · intro c96
      replace c96 : ch.toInt < 895 := c96
      refine J106 () ?_
      rcases q92 with q | q | q | q | q | q | q | q | q
      · exact (Or.inl ⟨by omega, by omega⟩)
      · exact (Or.inr (Or.inl ⟨by omega, by omega⟩))
      · exact (Or.inr (Or.inr (Or.inl ⟨by omega, by omega⟩)))
      · exact (Or.inr (Or.inr (Or.inr (Or.inl ⟨by omega, by omega⟩))))
      · exact (Or.inr (Or.inr (Or.inr (Or.inr (Or.inl ⟨by omega, by omega⟩)))))
      · exact (Or.inr (Or.inr (Or.inr (Or.inr (Or.inr (Or.inl ⟨by omega, by omega⟩))))))
      · exact (Or.inr (Or.inr (Or.inr (Or.inr (Or.inr (Or.inr (Or.inl ⟨by omega, by omega⟩)))))))
      · exact (Or.inr (Or.inr (Or.inr (Or.inr (Or.inr (Or.inr (Or.inr (Or.inl ⟨by omega, by omega⟩))))))))
      · exact (Or.inr (Or.inr (Or.inr (Or.inr (Or.inr (Or.inr (Or.inr (Or.inr (Or.inl ⟨by omega, by omega⟩)))))))))
    · intro c96
      replace c96 : ch.toInt ≥ 895 := c96
      have q99 : (895 ≤ ch.toInt ∧ ch.toInt ≤ 2147483647) := by
        rcases q92 with q | q | q | q | q | q | q | q | q
        · (exfalso; omega)
        · (exfalso; omega)
        · (exfalso; omega)
        · (exfalso; omega)
        · (exfalso; omega)
        · (exfalso; omega)
        · (exfalso; omega)
        · (exfalso; omega)
        · exact (⟨by omega, by omega⟩)
      refine r_iload_n C d3_99 (pc' := 100) rfl rfl ?_
      refine r_sipush C d3_100 (pc' := 103) rfl (z := (8191 : Int32)) rfl ?_
      refine r_icmple C d3_103 (pcT := 197) (pcF := 106) (by decide) rfl ?_ ?_
      · intro c103
        replace c103 : ch.toInt ≤ 8191 := c103
        refine J197 () ?_
        exact (Or.inr (Or.inr (Or.inr (Or.inr (Or.inr (Or.inr (Or.inr (Or.inr (Or.inl ⟨by omega, by omega⟩)))))))))
      · intro c103
        replace c103 : ch.toInt > 8191 := c103
        refine J106 () ?_
        exact (Or.inr (Or.inr (Or.inr (Or.inr (Or.inr (Or.inr (Or.inr (Or.inr (Or.inr (⟨by omega, by omega⟩))))))))))
  intro J92
  refine join (α := Unit) (fun _ => ((-2147483648) ≤ ch.toInt ∧ ch.toInt ≤ 57) ∨ (59 ≤ ch.toInt ∧ ch.toInt ≤ 64) ∨ (91 ≤ ch.toInt ∧ ch.toInt ≤ 94) ∨ (96 ≤ ch.toInt ∧ ch.toInt ≤ 96) ∨ (123 ≤ ch.toInt ∧ ch.toInt ≤ 191) ∨ (215 ≤ ch.toInt ∧ ch.toInt ≤ 215) ∨ (247 ≤ ch.toInt ∧ ch.toInt ≤ 247) ∨ (768 ≤ ch.toInt ∧ ch.toInt ≤ 2147483647)) (fun _ => h0) 0 0 78 (fun _ => #[.val (.int ch)]) (fun _ => []) ?_ ?_
  · rintro _ q78
    refine r_iload_n C d3_78 (pc' := 79) rfl rfl ?_
    refine r_sipush C d3_79 (pc' := 82) rfl (z := (880 : Int32)) rfl ?_
    refine r_icmplt C d3_82 (pcT := 92) (pcF := 85) (by decide) rfl ?_ ?_
    · intro c82
      replace c82 : ch.toInt < 880 := c82
      refine J92 () ?_
      rcases q78 with q | q | q | q | q | q | q | q
      · exact (Or.inl ⟨by omega, by omega⟩)
      · exact (Or.inr (Or.inl ⟨by omega, by omega⟩))
      · exact (Or.inr (Or.inr (Or.inl ⟨by omega, by omega⟩)))
      · exact (Or.inr (Or.inr (Or.inr (Or.inl ⟨by omega, by omega⟩))))
      · exact (Or.inr (Or.inr (Or.inr (Or.inr (Or.inl ⟨by omega, by omega⟩)))))
      · exact (Or.inr (Or.inr (Or.inr (Or.inr (Or.inr (Or.inl ⟨by omega, by omega⟩))))))
      · exact (Or.inr (Or.inr (Or.inr (Or.inr (Or.inr (Or.inr (Or.inl ⟨by omega, by omega⟩)))))))
      · exact (Or.inr (Or.inr (Or.inr (Or.inr (Or.inr (Or.inr (Or.inr (Or.inl ⟨by omega, by omega⟩))))))))
    · intro c82
      replace c82 : ch.toInt ≥ 880 := c82
      have q85 : (880 ≤ ch.toInt ∧ ch.toInt ≤ 2147483647) := by
        rcases q78 with q | q | q | q | q | q | q | q
        · (exfalso; omega)
        · (exfalso; omega)
        · (exfalso; omega)
        · (exfalso; omega)
        · (exfalso; omega)
        · (exfalso; omega)
        · (exfalso; omega)
        · exact (⟨by omega, by omega⟩)
      refine r_iload_n C d3_85 (pc' := 86) rfl rfl ?_
      refine r_sipush C d3_86 (pc' := 89) rfl (z := (893 : Int32)) rfl ?_
      refine r_icmple C d3_89 (pcT := 197) (pcF := 92) (by decide) rfl ?_ ?_
      · intro c89
        replace c89 : ch.toInt ≤ 893 := c89
        refine J197 () ?_
        exact (Or.inr (Or.inr (Or.inr (Or.inr (Or.inr (Or.inr (Or.inr (Or.inl ⟨by omega, by omega⟩))))))))
      · intro c89
        replace c89 : ch.toInt > 893 := c89
        refine J92 () ?_
        exact (Or.inr (Or.inr (Or.inr (Or.inr (Or.inr (Or.inr (Or.inr (Or.inr (⟨by omega, by omega⟩)))))))))
  intro J78
  refine join (α := Unit) (fun _ => ((-2147483648) ≤ ch.toInt ∧ ch.toInt ≤ 57) ∨ (59 ≤ ch.toInt ∧ ch.toInt ≤ 64) ∨ (91 ≤ ch.toInt ∧ ch.toInt ≤ 94) ∨ (96 ≤ ch.toInt ∧ ch.toInt ≤ 96) ∨ (123 ≤ ch.toInt ∧ ch.toInt ≤ 191) ∨ (215 ≤ ch.toInt ∧ ch.toInt ≤ 215) ∨ (247 ≤ ch.toInt ∧ ch.toInt ≤ 2147483647)) (fun _ => h0) 0 0 64 (fun _ => #[.val (.int ch)]) (fun _ => []) ?_ ?_
  · rintro _ q64
    refine r_iload_n C d3_64 (pc' := 65) rfl rfl ?_
    refine r_sipush C d3_65 (pc' := 68) rfl (z := (248 : Int32)) rfl ?_
    refine r_icmplt C d3_68 (pcT := 78) (pcF := 71) (by decide) rfl ?_ ?_
    · intro c68
      replace c68 : ch.toInt < 248 := c68
      refine J78 () ?_
      rcases q64 with q | q | q | q | q | q | q
      · exact (Or.inl ⟨by omega, by omega⟩)
      · exact (Or.inr (Or.inl ⟨by omega, by omega⟩))
      · exact (Or.inr (Or.inr (Or.inl ⟨by omega, by omega⟩)))
      · exact (Or.inr (Or.inr (Or.inr (Or.inl ⟨by omega, by omega⟩))))
      · exact (Or.inr (Or.inr (Or.inr (Or.inr (Or.inl ⟨by omega, by omega⟩)))))
      · exact (Or.inr (Or.inr (Or.inr (Or.inr (Or.inr (Or.inl ⟨by omega, by omega⟩))))))
      · exact (Or.inr (Or.inr (Or.inr (Or.inr (Or.inr (Or.inr (Or.inl ⟨by omega, by omega⟩)))))))
    · intro c68
      replace c68 : ch.toInt ≥ 248 := c68
      have q71 : (248 ≤ ch.toInt ∧ ch.toInt ≤ 2147483647) := by
        rcases q64 with q | q | q | q | q | q | q
        · (exfalso; omega)
        · (exfalso; omega)
        · (exfalso; omega)
        · (exfalso; omega)
        · (exfalso; omega)
        · (exfalso; omega)
        · exact (⟨by omega, by omega⟩)
      refine r_iload_n C d3_71 (pc' := 72) rfl rfl ?_
      refine r_sipush C d3_72 (pc' := 75) rfl (z := (767 : Int32)) rfl ?_
      refine r_icmple C d3_75 (pcT := 197) (pcF := 78) (by decide) rfl ?_ ?_
      · intro c75
        replace c75 : ch.toInt ≤ 767 := c75
        refine J197 () ?_
        exact (Or.inr (Or.inr (Or.inr (Or.inr (Or.inr (Or.inr (Or.inl ⟨by omega, by omega⟩)))))))
      · intro c75
        replace c75 : ch.toInt > 767 := c75
        refine J78 () ?_
        exact (Or.inr (Or.inr (Or.inr (Or.inr (Or.inr (Or.inr (Or.inr (⟨by omega, by omega⟩))))))))
  intro J64
  refine join (α := Unit) (fun _ => ((-2147483648) ≤ ch.toInt ∧ ch.toInt ≤ 57) ∨ (59 ≤ ch.toInt ∧ ch.toInt ≤ 64) ∨ (91 ≤ ch.toInt ∧ ch.toInt ≤ 94) ∨ (96 ≤ ch.toInt ∧ ch.toInt ≤ 96) ∨ (123 ≤ ch.toInt ∧ ch.toInt ≤ 191) ∨ (215 ≤ ch.toInt ∧ ch.toInt ≤ 2147483647)) (fun _ => h0) 0 0 50 (fun _ => #[.val (.int ch)]) (fun _ => []) ?_ ?_
  · rintro _ q50
    refine r_iload_n C d3_50 (pc' := 51) rfl rfl ?_
    refine r_sipush C d3_51 (pc' := 54) rfl (z := (216 : Int32)) rfl ?_
    refine r_icmplt C d3_54 (pcT := 64) (pcF := 57) (by decide) rfl ?_ ?_
    · intro c54
      replace c54 : ch.toInt < 216 := c54
      refine J64 () ?_
      rcases q50 with q | q | q | q | q | q
      · exact (Or.inl ⟨by omega, by omega⟩)
      · exact (Or.inr (Or.inl ⟨by omega, by omega⟩))
      · exact (Or.inr (Or.inr (Or.inl ⟨by omega, by omega⟩)))
      · exact (Or.inr (Or.inr (Or.inr (Or.inl ⟨by omega, by omega⟩))))
      · exact (Or.inr (Or.inr (Or.inr (Or.inr (Or.inl ⟨by omega, by omega⟩)))))
      · exact (Or.inr (Or.inr (Or.inr (Or.inr (Or.inr (Or.inl ⟨by omega, by omega⟩))))))
    · intro c54
      replace c54 : ch.toInt ≥ 216 := c54
      have q57 : (216 ≤ ch.toInt ∧ ch.toInt ≤ 2147483647) := by
        rcases q50 with q | q | q | q | q | q
        · (exfalso; omega)
        · (exfalso; omega)
        · (exfalso; omega)
        · (exfalso; omega)
        · (exfalso; omega)
        · exact (⟨by omega, by omega⟩)
      refine r_iload_n C d3_57 (pc' := 58) rfl rfl ?_
      refine r_sipush C d3_58 (pc' := 61) rfl (z := (246 : Int32)) rfl ?_
      refine r_icmple C d3_61 (pcT := 197) (pcF := 64) (by decide) rfl ?_ ?_
      · intro c61
        replace c61 : ch.toInt ≤ 246 := c61
        refine J197 () ?_
        exact (Or.inr (Or.inr (Or.inr (Or.inr (Or.inr (Or.inl ⟨by omega, by omega⟩))))))
      · intro c61
        replace c61 : ch.toInt > 246 := c61
        refine J64 () ?_
        exact (Or.inr (Or.inr (Or.inr (Or.inr (Or.inr (Or.inr (⟨by omega, by omega⟩)))))))
  intro J50
  refine join (α := Unit) (fun _ => ((-2147483648) ≤ ch.toInt ∧ ch.toInt ≤ 57) ∨ (59 ≤ ch.toInt ∧ ch.toInt ≤ 64) ∨ (91 ≤ ch.toInt ∧ ch.toInt ≤ 94) ∨ (96 ≤ ch.toInt ∧ ch.toInt ≤ 96) ∨ (123 ≤ ch.toInt ∧ ch.toInt ≤ 2147483647)) (fun _ => h0) 0 0 36 (fun _ => #[.val (.int ch)]) (fun _ => []) ?_ ?_
  · rintro _ q36
    refine r_iload_n C d3_36 (pc' := 37) rfl rfl ?_
    refine r_sipush C d3_37 (pc' := 40) rfl (z := (192 : Int32)) rfl ?_
    refine r_icmplt C d3_40 (pcT := 50) (pcF := 43) (by decide) rfl ?_ ?_
    · intro c40
      replace c40 : ch.toInt < 192 := c40
      refine J50 () ?_
      rcases q36 with q | q | q | q | q
      · exact (Or.inl ⟨by omega, by omega⟩)
      · exact (Or.inr (Or.inl ⟨by omega, by omega⟩))
      · exact (Or.inr (Or.inr (Or.inl ⟨by omega, by omega⟩)))
      · exact (Or.inr (Or.inr (Or.inr (Or.inl ⟨by omega, by omega⟩))))
      · exact (Or.inr (Or.inr (Or.inr (Or.inr (Or.inl ⟨by omega, by omega⟩)))))
    · intro c40
      replace c40 : ch.toInt ≥ 192 := c40
      have q43 : (192 ≤ ch.toInt ∧ ch.toInt ≤ 2147483647) := by
        rcases q36 with q | q | q | q | q
        · (exfalso; omega)
        · (exfalso; omega)
        · (exfalso; omega)
        · (exfalso; omega)
        · exact (⟨by omega, by omega⟩)
      refine r_iload_n C d3_43 (pc' := 44) rfl rfl ?_
      refine r_sipush C d3_44 (pc' := 47) rfl (z := (214 : Int32)) rfl ?_
      refine r_icmple C d3_47 (pcT := 197) (pcF := 50) (by decide) rfl ?_ ?_
      · intro c47
        replace c47 : ch.toInt ≤ 214 := c47
        refine J197 () ?_
        exact (Or.inr (Or.inr (Or.inr (Or.inr (Or.inl ⟨by omega, by omega⟩)))))
      · intro c47
        replace c47 : ch.toInt > 214 := c47
        refine J50 () ?_
        exact (Or.inr (Or.inr (Or.inr (Or.inr (Or.inr (⟨by omega, by omega⟩))))))
  intro J36
  refine join (α := Unit) (fun _ => ((-2147483648) ≤ ch.toInt ∧ ch.toInt ≤ 57) ∨ (59 ≤ ch.toInt ∧ ch.toInt ≤ 64) ∨ (91 ≤ ch.toInt ∧ ch.toInt ≤ 2147483647)) (fun _ => h0) 0 0 18 (fun _ => #[.val (.int ch)]) (fun _ => []) ?_ ?_
  · rintro _ q18
    refine r_iload_n C d3_18 (pc' := 19) rfl rfl ?_
    refine r_bipush C d3_19 (pc' := 21) rfl (z := (95 : Int32)) rfl ?_
    refine r_icmpeq C d3_21 (pcT := 197) (pcF := 24) (by decide) rfl ?_ ?_
    · intro c21
      replace c21 : ch.toInt = 95 := by rw [c21]; rfl
      refine J197 () ?_
      rcases q18 with q | q | q
      · (exfalso; omega)
      · (exfalso; omega)
      · exact (Or.inr (Or.inr (Or.inl ⟨by omega, by omega⟩)))
    · intro c21
      replace c21 : ¬ ch.toInt = 95 := fun q => c21 (Int32.toInt_inj.mp (q.trans rfl))
      have q24 : ((-2147483648) ≤ ch.toInt ∧ ch.toInt ≤ 57) ∨ (59 ≤ ch.toInt ∧ ch.toInt ≤ 64) ∨ (91 ≤ ch.toInt ∧ ch.toInt ≤ 94) ∨ (96 ≤ ch.toInt ∧ ch.toInt ≤ 2147483647) := by
        rcases q18 with q | q | q
        · exact (Or.inl ⟨by omega, by omega⟩)
        · exact (Or.inr (Or.inl ⟨by omega, by omega⟩))
        · omega
      refine r_iload_n C d3_24 (pc' := 25) rfl rfl ?_
      refine r_bipush C d3_25 (pc' := 27) rfl (z := (97 : Int32)) rfl ?_
      refine r_icmplt C d3_27 (pcT := 36) (pcF := 30) (by decide) rfl ?_ ?_
      · intro c27
        replace c27 : ch.toInt < 97 := c27
        refine J36 () ?_
        rcases q24 with q | q | q | q
        · exact (Or.inl ⟨by omega, by omega⟩)
        · exact (Or.inr (Or.inl ⟨by omega, by omega⟩))
        · exact (Or.inr (Or.inr (Or.inl ⟨by omega, by omega⟩)))
        · exact (Or.inr (Or.inr (Or.inr (Or.inl ⟨by omega, by omega⟩))))
      · intro c27
        replace c27 : ch.toInt ≥ 97 := c27
        have q30 : (97 ≤ ch.toInt ∧ ch.toInt ≤ 2147483647) := by
          rcases q24 with q | q | q | q
          · (exfalso; omega)
          · (exfalso; omega)
          · (exfalso; omega)
          · exact (⟨by omega, by omega⟩)
        refine r_iload_n C d3_30 (pc' := 31) rfl rfl ?_
        refine r_bipush C d3_31 (pc' := 33) rfl (z := (122 : Int32)) rfl ?_
        refine r_icmple C d3_33 (pcT := 197) (pcF := 36) (by decide) rfl ?_ ?_
        · intro c33
          replace c33 : ch.toInt ≤ 122 := c33
          refine J197 () ?_
          exact (Or.inr (Or.inr (Or.inr (Or.inl ⟨by omega, by omega⟩))))
        · intro c33
          replace c33 : ch.toInt > 122 := c33
          refine J36 () ?_
          exact (Or.inr (Or.inr (Or.inr (Or.inr (⟨by omega, by omega⟩)))))
  intro J18
  refine r_iload_n C d3_0 (pc' := 1) rfl rfl ?_
  refine r_bipush C d3_1 (pc' := 3) rfl (z := (58 : Int32)) rfl ?_
  refine r_icmpeq C d3_3 (pcT := 197) (pcF := 6) (by decide) rfl ?_ ?_
  · intro c3
    replace c3 : ch.toInt = 58 := by rw [c3]; rfl
    refine J197 () ?_
    exact (Or.inl ⟨by omega, by omega⟩)
  · intro c3
    replace c3 : ¬ ch.toInt = 58 := fun q => c3 (Int32.toInt_inj.mp (q.trans rfl))
    have q6 : ((-2147483648) ≤ ch.toInt ∧ ch.toInt ≤ 57) ∨ (59 ≤ ch.toInt ∧ ch.toInt ≤ 2147483647) := by
      omega
    refine r_iload_n C d3_6 (pc' := 7) rfl rfl ?_
    refine r_bipush C d3_7 (pc' := 9) rfl (z := (65 : Int32)) rfl ?_
    refine r_icmplt C d3_9 (pcT := 18) (pcF := 12) (by decide) rfl ?_ ?_
    · intro c9
      replace c9 : ch.toInt < 65 := c9
      refine J18 () ?_
      rcases q6 with q | q
      · exact (Or.inl ⟨by omega, by omega⟩)
      · exact (Or.inr (Or.inl ⟨by omega, by omega⟩))
    · intro c9
      replace c9 : ch.toInt ≥ 65 := c9
      have q12 : (65 ≤ ch.toInt ∧ ch.toInt ≤ 2147483647) := by
        rcases q6 with q | q
        · (exfalso; omega)
        · exact (⟨by omega, by omega⟩)
      refine r_iload_n C d3_12 (pc' := 13) rfl rfl ?_
      refine r_bipush C d3_13 (pc' := 15) rfl (z := (90 : Int32)) rfl ?_
      refine r_icmple C d3_15 (pcT := 197) (pcF := 18) (by decide) rfl ?_ ?_
      · intro c15
        replace c15 : ch.toInt ≤ 90 := c15
        refine J197 () ?_
        exact (Or.inr (Or.inl ⟨by omega, by omega⟩))
      · intro c15
        replace c15 : ch.toInt > 90 := c15
        refine J18 () ?_
        exact (Or.inr (Or.inr (⟨by omega, by omega⟩)))
set_option maxRecDepth 65536 in
set_option maxHeartbeats 40000000 in
theorem rm0 (l : Launch) (Z : State) (a0 : Array Value) (hw : ∀ d ∈ tables_1, d.before a0 Z = true) (x1 : Int32) (sel : Int32) (dd : Int32) (h0 : Heap) (n0 : Nat) (Z0 : n0 ≤ h0.size) :
    Con l Z x code maxLocals ret room_1 #[(.int x1), (.int sel), (.int dd)] h0 n0 (fun v h => v = some (.int 1)) := by
  refine Con.of_body (plainFor_of_name pn0) #[.val (.int x1), .val (.int sel), .val (.int dd), .unset, .unset, .unset] (fun m => by first | rfl | (simp [entryFrame, mkF, argsToLocals, Value.category]; done)) ?_
  intro p e s m below meth c C
  refine r_bipush C at_0 (pc' := 2) rfl (z := (30 : Int32)) rfl ?_
  refine r_newarray (ty := .int) (dv := (.int (0 : Int32))) rfl (n := 30) (cap := 30) C (t0 hw) rfl at_2 (pc' := 4) rfl (by decide) (by decide) (by decide) (by decide) (by decide) ?_
  intro ed h1 ha_ed K1 A_ed
  have ge_ed : n0 ≤ ed := Nat.le_trans Z0 (Nat.le_of_eq (Eq.symm ha_ed))
  have Z0 := Nat.le_trans Z0 K1.1
  have A_ed : IA Z h1 ed .int 30 (fun i => .int ((fun _ => (0 : Int32)) i)) := A_ed
  refine r_dup C at_4 (pc' := 5) rfl rfl ?_
  refine r_iconst C at_5 (pc' := 6) rfl (z := (0 : Int32)) rfl ?_
  refine r_bipush C at_6 (pc' := 8) rfl (z := (58 : Int32)) rfl ?_
  refine r_iastore C at_8 (pc' := 9) rfl A_ed (jn := 0) (by decide) (by decide) ge_ed ?_
  intro h2 K2 A_ed
  have Z0 := Nat.le_trans Z0 K2.1
  have A_ed : IA Z h2 ed .int 30 (fun i => .int ((fun i => if i = 0 then (58 : Int32) else (fun _ => (0 : Int32)) i) i)) := A_ed
  obtain ⟨f0, A_ed⟩ : ∃ g : Nat → Int32, IA Z h2 ed .int 30 (fun i => .int (g i)) := ⟨_, A_ed⟩
  refine r_dup C at_9 (pc' := 10) rfl rfl ?_
  refine r_iconst C at_10 (pc' := 11) rfl (z := (1 : Int32)) rfl ?_
  refine r_bipush C at_11 (pc' := 13) rfl (z := (65 : Int32)) rfl ?_
  refine r_iastore C at_13 (pc' := 14) rfl A_ed (jn := 1) (by decide) (by decide) ge_ed ?_
  intro h3 K3 A_ed
  have Z0 := Nat.le_trans Z0 K3.1
  have A_ed : IA Z h3 ed .int 30 (fun i => .int ((fun i => if i = 1 then (65 : Int32) else f0 i) i)) := A_ed
  obtain ⟨f1, A_ed⟩ : ∃ g : Nat → Int32, IA Z h3 ed .int 30 (fun i => .int (g i)) := ⟨_, A_ed⟩
  refine r_dup C at_14 (pc' := 15) rfl rfl ?_
  refine r_iconst C at_15 (pc' := 16) rfl (z := (2 : Int32)) rfl ?_
  refine r_bipush C at_16 (pc' := 18) rfl (z := (90 : Int32)) rfl ?_
  refine r_iastore C at_18 (pc' := 19) rfl A_ed (jn := 2) (by decide) (by decide) ge_ed ?_
  intro h4 K4 A_ed
  have Z0 := Nat.le_trans Z0 K4.1
  have A_ed : IA Z h4 ed .int 30 (fun i => .int ((fun i => if i = 2 then (90 : Int32) else f1 i) i)) := A_ed
  obtain ⟨f2, A_ed⟩ : ∃ g : Nat → Int32, IA Z h4 ed .int 30 (fun i => .int (g i)) := ⟨_, A_ed⟩
  refine r_dup C at_19 (pc' := 20) rfl rfl ?_
  refine r_iconst C at_20 (pc' := 21) rfl (z := (3 : Int32)) rfl ?_
  refine r_bipush C at_21 (pc' := 23) rfl (z := (95 : Int32)) rfl ?_
  refine r_iastore C at_23 (pc' := 24) rfl A_ed (jn := 3) (by decide) (by decide) ge_ed ?_
  intro h5 K5 A_ed
  have Z0 := Nat.le_trans Z0 K5.1
  have A_ed : IA Z h5 ed .int 30 (fun i => .int ((fun i => if i = 3 then (95 : Int32) else f2 i) i)) := A_ed
  obtain ⟨f3, A_ed⟩ : ∃ g : Nat → Int32, IA Z h5 ed .int 30 (fun i => .int (g i)) := ⟨_, A_ed⟩
  refine r_dup C at_24 (pc' := 25) rfl rfl ?_
  refine r_iconst C at_25 (pc' := 26) rfl (z := (4 : Int32)) rfl ?_
  refine r_bipush C at_26 (pc' := 28) rfl (z := (97 : Int32)) rfl ?_
  refine r_iastore C at_28 (pc' := 29) rfl A_ed (jn := 4) (by decide) (by decide) ge_ed ?_
  intro h6 K6 A_ed
  have Z0 := Nat.le_trans Z0 K6.1
  have A_ed : IA Z h6 ed .int 30 (fun i => .int ((fun i => if i = 4 then (97 : Int32) else f3 i) i)) := A_ed
  obtain ⟨f4, A_ed⟩ : ∃ g : Nat → Int32, IA Z h6 ed .int 30 (fun i => .int (g i)) := ⟨_, A_ed⟩
  refine r_dup C at_29 (pc' := 30) rfl rfl ?_
  refine r_iconst C at_30 (pc' := 31) rfl (z := (5 : Int32)) rfl ?_
  refine r_bipush C at_31 (pc' := 33) rfl (z := (122 : Int32)) rfl ?_
  refine r_iastore C at_33 (pc' := 34) rfl A_ed (jn := 5) (by decide) (by decide) ge_ed ?_
  intro h7 K7 A_ed
  have Z0 := Nat.le_trans Z0 K7.1
  have A_ed : IA Z h7 ed .int 30 (fun i => .int ((fun i => if i = 5 then (122 : Int32) else f4 i) i)) := A_ed
  obtain ⟨f5, A_ed⟩ : ∃ g : Nat → Int32, IA Z h7 ed .int 30 (fun i => .int (g i)) := ⟨_, A_ed⟩
  refine r_dup C at_34 (pc' := 35) rfl rfl ?_
  refine r_bipush C at_35 (pc' := 37) rfl (z := (6 : Int32)) rfl ?_
  refine r_sipush C at_37 (pc' := 40) rfl (z := (192 : Int32)) rfl ?_
  refine r_iastore C at_40 (pc' := 41) rfl A_ed (jn := 6) (by decide) (by decide) ge_ed ?_
  intro h8 K8 A_ed
  have Z0 := Nat.le_trans Z0 K8.1
  have A_ed : IA Z h8 ed .int 30 (fun i => .int ((fun i => if i = 6 then (192 : Int32) else f5 i) i)) := A_ed
  obtain ⟨f6, A_ed⟩ : ∃ g : Nat → Int32, IA Z h8 ed .int 30 (fun i => .int (g i)) := ⟨_, A_ed⟩
  refine r_dup C at_41 (pc' := 42) rfl rfl ?_
  refine r_bipush C at_42 (pc' := 44) rfl (z := (7 : Int32)) rfl ?_
  refine r_sipush C at_44 (pc' := 47) rfl (z := (214 : Int32)) rfl ?_
  refine r_iastore C at_47 (pc' := 48) rfl A_ed (jn := 7) (by decide) (by decide) ge_ed ?_
  intro h9 K9 A_ed
  have Z0 := Nat.le_trans Z0 K9.1
  have A_ed : IA Z h9 ed .int 30 (fun i => .int ((fun i => if i = 7 then (214 : Int32) else f6 i) i)) := A_ed
  obtain ⟨f7, A_ed⟩ : ∃ g : Nat → Int32, IA Z h9 ed .int 30 (fun i => .int (g i)) := ⟨_, A_ed⟩
  refine r_dup C at_48 (pc' := 49) rfl rfl ?_
  refine r_bipush C at_49 (pc' := 51) rfl (z := (8 : Int32)) rfl ?_
  refine r_sipush C at_51 (pc' := 54) rfl (z := (216 : Int32)) rfl ?_
  refine r_iastore C at_54 (pc' := 55) rfl A_ed (jn := 8) (by decide) (by decide) ge_ed ?_
  intro h10 K10 A_ed
  have Z0 := Nat.le_trans Z0 K10.1
  have A_ed : IA Z h10 ed .int 30 (fun i => .int ((fun i => if i = 8 then (216 : Int32) else f7 i) i)) := A_ed
  obtain ⟨f8, A_ed⟩ : ∃ g : Nat → Int32, IA Z h10 ed .int 30 (fun i => .int (g i)) := ⟨_, A_ed⟩
  refine r_dup C at_55 (pc' := 56) rfl rfl ?_
  refine r_bipush C at_56 (pc' := 58) rfl (z := (9 : Int32)) rfl ?_
  refine r_sipush C at_58 (pc' := 61) rfl (z := (246 : Int32)) rfl ?_
  refine r_iastore C at_61 (pc' := 62) rfl A_ed (jn := 9) (by decide) (by decide) ge_ed ?_
  intro h11 K11 A_ed
  have Z0 := Nat.le_trans Z0 K11.1
  have A_ed : IA Z h11 ed .int 30 (fun i => .int ((fun i => if i = 9 then (246 : Int32) else f8 i) i)) := A_ed
  obtain ⟨f9, A_ed⟩ : ∃ g : Nat → Int32, IA Z h11 ed .int 30 (fun i => .int (g i)) := ⟨_, A_ed⟩
  refine r_dup C at_62 (pc' := 63) rfl rfl ?_
  refine r_bipush C at_63 (pc' := 65) rfl (z := (10 : Int32)) rfl ?_
  refine r_sipush C at_65 (pc' := 68) rfl (z := (248 : Int32)) rfl ?_
  refine r_iastore C at_68 (pc' := 69) rfl A_ed (jn := 10) (by decide) (by decide) ge_ed ?_
  intro h12 K12 A_ed
  have Z0 := Nat.le_trans Z0 K12.1
  have A_ed : IA Z h12 ed .int 30 (fun i => .int ((fun i => if i = 10 then (248 : Int32) else f9 i) i)) := A_ed
  obtain ⟨f10, A_ed⟩ : ∃ g : Nat → Int32, IA Z h12 ed .int 30 (fun i => .int (g i)) := ⟨_, A_ed⟩
  refine r_dup C at_69 (pc' := 70) rfl rfl ?_
  refine r_bipush C at_70 (pc' := 72) rfl (z := (11 : Int32)) rfl ?_
  refine r_sipush C at_72 (pc' := 75) rfl (z := (767 : Int32)) rfl ?_
  refine r_iastore C at_75 (pc' := 76) rfl A_ed (jn := 11) (by decide) (by decide) ge_ed ?_
  intro h13 K13 A_ed
  have Z0 := Nat.le_trans Z0 K13.1
  have A_ed : IA Z h13 ed .int 30 (fun i => .int ((fun i => if i = 11 then (767 : Int32) else f10 i) i)) := A_ed
  obtain ⟨f11, A_ed⟩ : ∃ g : Nat → Int32, IA Z h13 ed .int 30 (fun i => .int (g i)) := ⟨_, A_ed⟩
  refine r_dup C at_76 (pc' := 77) rfl rfl ?_
  refine r_bipush C at_77 (pc' := 79) rfl (z := (12 : Int32)) rfl ?_
  refine r_sipush C at_79 (pc' := 82) rfl (z := (880 : Int32)) rfl ?_
  refine r_iastore C at_82 (pc' := 83) rfl A_ed (jn := 12) (by decide) (by decide) ge_ed ?_
  intro h14 K14 A_ed
  have Z0 := Nat.le_trans Z0 K14.1
  have A_ed : IA Z h14 ed .int 30 (fun i => .int ((fun i => if i = 12 then (880 : Int32) else f11 i) i)) := A_ed
  obtain ⟨f12, A_ed⟩ : ∃ g : Nat → Int32, IA Z h14 ed .int 30 (fun i => .int (g i)) := ⟨_, A_ed⟩
  refine r_dup C at_83 (pc' := 84) rfl rfl ?_
  refine r_bipush C at_84 (pc' := 86) rfl (z := (13 : Int32)) rfl ?_
  refine r_sipush C at_86 (pc' := 89) rfl (z := (893 : Int32)) rfl ?_
  refine r_iastore C at_89 (pc' := 90) rfl A_ed (jn := 13) (by decide) (by decide) ge_ed ?_
  intro h15 K15 A_ed
  have Z0 := Nat.le_trans Z0 K15.1
  have A_ed : IA Z h15 ed .int 30 (fun i => .int ((fun i => if i = 13 then (893 : Int32) else f12 i) i)) := A_ed
  obtain ⟨f13, A_ed⟩ : ∃ g : Nat → Int32, IA Z h15 ed .int 30 (fun i => .int (g i)) := ⟨_, A_ed⟩
  refine r_dup C at_90 (pc' := 91) rfl rfl ?_
  refine r_bipush C at_91 (pc' := 93) rfl (z := (14 : Int32)) rfl ?_
  refine r_sipush C at_93 (pc' := 96) rfl (z := (895 : Int32)) rfl ?_
  refine r_iastore C at_96 (pc' := 97) rfl A_ed (jn := 14) (by decide) (by decide) ge_ed ?_
  intro h16 K16 A_ed
  have Z0 := Nat.le_trans Z0 K16.1
  have A_ed : IA Z h16 ed .int 30 (fun i => .int ((fun i => if i = 14 then (895 : Int32) else f13 i) i)) := A_ed
  obtain ⟨f14, A_ed⟩ : ∃ g : Nat → Int32, IA Z h16 ed .int 30 (fun i => .int (g i)) := ⟨_, A_ed⟩
  refine r_dup C at_97 (pc' := 98) rfl rfl ?_
  refine r_bipush C at_98 (pc' := 100) rfl (z := (15 : Int32)) rfl ?_
  refine r_sipush C at_100 (pc' := 103) rfl (z := (8191 : Int32)) rfl ?_
  refine r_iastore C at_103 (pc' := 104) rfl A_ed (jn := 15) (by decide) (by decide) ge_ed ?_
  intro h17 K17 A_ed
  have Z0 := Nat.le_trans Z0 K17.1
  have A_ed : IA Z h17 ed .int 30 (fun i => .int ((fun i => if i = 15 then (8191 : Int32) else f14 i) i)) := A_ed
  obtain ⟨f15, A_ed⟩ : ∃ g : Nat → Int32, IA Z h17 ed .int 30 (fun i => .int (g i)) := ⟨_, A_ed⟩
  refine r_dup C at_104 (pc' := 105) rfl rfl ?_
  refine r_bipush C at_105 (pc' := 107) rfl (z := (16 : Int32)) rfl ?_
  refine r_sipush C at_107 (pc' := 110) rfl (z := (8204 : Int32)) rfl ?_
  refine r_iastore C at_110 (pc' := 111) rfl A_ed (jn := 16) (by decide) (by decide) ge_ed ?_
  intro h18 K18 A_ed
  have Z0 := Nat.le_trans Z0 K18.1
  have A_ed : IA Z h18 ed .int 30 (fun i => .int ((fun i => if i = 16 then (8204 : Int32) else f15 i) i)) := A_ed
  obtain ⟨f16, A_ed⟩ : ∃ g : Nat → Int32, IA Z h18 ed .int 30 (fun i => .int (g i)) := ⟨_, A_ed⟩
  refine r_dup C at_111 (pc' := 112) rfl rfl ?_
  refine r_bipush C at_112 (pc' := 114) rfl (z := (17 : Int32)) rfl ?_
  refine r_sipush C at_114 (pc' := 117) rfl (z := (8205 : Int32)) rfl ?_
  refine r_iastore C at_117 (pc' := 118) rfl A_ed (jn := 17) (by decide) (by decide) ge_ed ?_
  intro h19 K19 A_ed
  have Z0 := Nat.le_trans Z0 K19.1
  have A_ed : IA Z h19 ed .int 30 (fun i => .int ((fun i => if i = 17 then (8205 : Int32) else f16 i) i)) := A_ed
  obtain ⟨f17, A_ed⟩ : ∃ g : Nat → Int32, IA Z h19 ed .int 30 (fun i => .int (g i)) := ⟨_, A_ed⟩
  refine r_dup C at_118 (pc' := 119) rfl rfl ?_
  refine r_bipush C at_119 (pc' := 121) rfl (z := (18 : Int32)) rfl ?_
  refine r_sipush C at_121 (pc' := 124) rfl (z := (8304 : Int32)) rfl ?_
  refine r_iastore C at_124 (pc' := 125) rfl A_ed (jn := 18) (by decide) (by decide) ge_ed ?_
  intro h20 K20 A_ed
  have Z0 := Nat.le_trans Z0 K20.1
  have A_ed : IA Z h20 ed .int 30 (fun i => .int ((fun i => if i = 18 then (8304 : Int32) else f17 i) i)) := A_ed
  obtain ⟨f18, A_ed⟩ : ∃ g : Nat → Int32, IA Z h20 ed .int 30 (fun i => .int (g i)) := ⟨_, A_ed⟩
  refine r_dup C at_125 (pc' := 126) rfl rfl ?_
  refine r_bipush C at_126 (pc' := 128) rfl (z := (19 : Int32)) rfl ?_
  refine r_sipush C at_128 (pc' := 131) rfl (z := (8591 : Int32)) rfl ?_
  refine r_iastore C at_131 (pc' := 132) rfl A_ed (jn := 19) (by decide) (by decide) ge_ed ?_
  intro h21 K21 A_ed
  have Z0 := Nat.le_trans Z0 K21.1
  have A_ed : IA Z h21 ed .int 30 (fun i => .int ((fun i => if i = 19 then (8591 : Int32) else f18 i) i)) := A_ed
  obtain ⟨f19, A_ed⟩ : ∃ g : Nat → Int32, IA Z h21 ed .int 30 (fun i => .int (g i)) := ⟨_, A_ed⟩
  refine r_dup C at_132 (pc' := 133) rfl rfl ?_
  refine r_bipush C at_133 (pc' := 135) rfl (z := (20 : Int32)) rfl ?_
  refine r_sipush C at_135 (pc' := 138) rfl (z := (11264 : Int32)) rfl ?_
  refine r_iastore C at_138 (pc' := 139) rfl A_ed (jn := 20) (by decide) (by decide) ge_ed ?_
  intro h22 K22 A_ed
  have Z0 := Nat.le_trans Z0 K22.1
  have A_ed : IA Z h22 ed .int 30 (fun i => .int ((fun i => if i = 20 then (11264 : Int32) else f19 i) i)) := A_ed
  obtain ⟨f20, A_ed⟩ : ∃ g : Nat → Int32, IA Z h22 ed .int 30 (fun i => .int (g i)) := ⟨_, A_ed⟩
  refine r_dup C at_139 (pc' := 140) rfl rfl ?_
  refine r_bipush C at_140 (pc' := 142) rfl (z := (21 : Int32)) rfl ?_
  refine r_sipush C at_142 (pc' := 145) rfl (z := (12271 : Int32)) rfl ?_
  refine r_iastore C at_145 (pc' := 146) rfl A_ed (jn := 21) (by decide) (by decide) ge_ed ?_
  intro h23 K23 A_ed
  have Z0 := Nat.le_trans Z0 K23.1
  have A_ed : IA Z h23 ed .int 30 (fun i => .int ((fun i => if i = 21 then (12271 : Int32) else f20 i) i)) := A_ed
  obtain ⟨f21, A_ed⟩ : ∃ g : Nat → Int32, IA Z h23 ed .int 30 (fun i => .int (g i)) := ⟨_, A_ed⟩
  refine r_dup C at_146 (pc' := 147) rfl rfl ?_
  refine r_bipush C at_147 (pc' := 149) rfl (z := (22 : Int32)) rfl ?_
  refine r_sipush C at_149 (pc' := 152) rfl (z := (12289 : Int32)) rfl ?_
  refine r_iastore C at_152 (pc' := 153) rfl A_ed (jn := 22) (by decide) (by decide) ge_ed ?_
  intro h24 K24 A_ed
  have Z0 := Nat.le_trans Z0 K24.1
  have A_ed : IA Z h24 ed .int 30 (fun i => .int ((fun i => if i = 22 then (12289 : Int32) else f21 i) i)) := A_ed
  obtain ⟨f22, A_ed⟩ : ∃ g : Nat → Int32, IA Z h24 ed .int 30 (fun i => .int (g i)) := ⟨_, A_ed⟩
  refine r_dup C at_153 (pc' := 154) rfl rfl ?_
  refine r_bipush C at_154 (pc' := 156) rfl (z := (23 : Int32)) rfl ?_
  refine r_ldc C (t1 hw) at_156 (pc' := 158) rfl ?_
  refine r_iastore C at_158 (pc' := 159) rfl A_ed (jn := 23) (by decide) (by decide) ge_ed ?_
  intro h25 K25 A_ed
  have Z0 := Nat.le_trans Z0 K25.1
  have A_ed : IA Z h25 ed .int 30 (fun i => .int ((fun i => if i = 23 then (55295 : Int32) else f22 i) i)) := A_ed
  obtain ⟨f23, A_ed⟩ : ∃ g : Nat → Int32, IA Z h25 ed .int 30 (fun i => .int (g i)) := ⟨_, A_ed⟩
  refine r_dup C at_159 (pc' := 160) rfl rfl ?_
  refine r_bipush C at_160 (pc' := 162) rfl (z := (24 : Int32)) rfl ?_
  refine r_ldc C (t2 hw) at_162 (pc' := 164) rfl ?_
  refine r_iastore C at_164 (pc' := 165) rfl A_ed (jn := 24) (by decide) (by decide) ge_ed ?_
  intro h26 K26 A_ed
  have Z0 := Nat.le_trans Z0 K26.1
  have A_ed : IA Z h26 ed .int 30 (fun i => .int ((fun i => if i = 24 then (63744 : Int32) else f23 i) i)) := A_ed
  obtain ⟨f24, A_ed⟩ : ∃ g : Nat → Int32, IA Z h26 ed .int 30 (fun i => .int (g i)) := ⟨_, A_ed⟩
  refine r_dup C at_165 (pc' := 166) rfl rfl ?_
  refine r_bipush C at_166 (pc' := 168) rfl (z := (25 : Int32)) rfl ?_
  refine r_ldc C (t3 hw) at_168 (pc' := 170) rfl ?_
  refine r_iastore C at_170 (pc' := 171) rfl A_ed (jn := 25) (by decide) (by decide) ge_ed ?_
  intro h27 K27 A_ed
  have Z0 := Nat.le_trans Z0 K27.1
  have A_ed : IA Z h27 ed .int 30 (fun i => .int ((fun i => if i = 25 then (64975 : Int32) else f24 i) i)) := A_ed
  obtain ⟨f25, A_ed⟩ : ∃ g : Nat → Int32, IA Z h27 ed .int 30 (fun i => .int (g i)) := ⟨_, A_ed⟩
  refine r_dup C at_171 (pc' := 172) rfl rfl ?_
  refine r_bipush C at_172 (pc' := 174) rfl (z := (26 : Int32)) rfl ?_
  refine r_ldc C (t4 hw) at_174 (pc' := 176) rfl ?_
  refine r_iastore C at_176 (pc' := 177) rfl A_ed (jn := 26) (by decide) (by decide) ge_ed ?_
  intro h28 K28 A_ed
  have Z0 := Nat.le_trans Z0 K28.1
  have A_ed : IA Z h28 ed .int 30 (fun i => .int ((fun i => if i = 26 then (65008 : Int32) else f25 i) i)) := A_ed
  obtain ⟨f26, A_ed⟩ : ∃ g : Nat → Int32, IA Z h28 ed .int 30 (fun i => .int (g i)) := ⟨_, A_ed⟩
  refine r_dup C at_177 (pc' := 178) rfl rfl ?_
  refine r_bipush C at_178 (pc' := 180) rfl (z := (27 : Int32)) rfl ?_
  refine r_ldc C (t5 hw) at_180 (pc' := 182) rfl ?_
  refine r_iastore C at_182 (pc' := 183) rfl A_ed (jn := 27) (by decide) (by decide) ge_ed ?_
  intro h29 K29 A_ed
  have Z0 := Nat.le_trans Z0 K29.1
  have A_ed : IA Z h29 ed .int 30 (fun i => .int ((fun i => if i = 27 then (65533 : Int32) else f26 i) i)) := A_ed
  obtain ⟨f27, A_ed⟩ : ∃ g : Nat → Int32, IA Z h29 ed .int 30 (fun i => .int (g i)) := ⟨_, A_ed⟩
  refine r_dup C at_183 (pc' := 184) rfl rfl ?_
  refine r_bipush C at_184 (pc' := 186) rfl (z := (28 : Int32)) rfl ?_
  refine r_ldc C (t6 hw) at_186 (pc' := 188) rfl ?_
  refine r_iastore C at_188 (pc' := 189) rfl A_ed (jn := 28) (by decide) (by decide) ge_ed ?_
  intro h30 K30 A_ed
  have Z0 := Nat.le_trans Z0 K30.1
  have A_ed : IA Z h30 ed .int 30 (fun i => .int ((fun i => if i = 28 then (65536 : Int32) else f27 i) i)) := A_ed
  obtain ⟨f28, A_ed⟩ : ∃ g : Nat → Int32, IA Z h30 ed .int 30 (fun i => .int (g i)) := ⟨_, A_ed⟩
  refine r_dup C at_189 (pc' := 190) rfl rfl ?_
  refine r_bipush C at_190 (pc' := 192) rfl (z := (29 : Int32)) rfl ?_
  refine r_ldc C (t7 hw) at_192 (pc' := 194) rfl ?_
  refine r_iastore C at_194 (pc' := 195) rfl A_ed (jn := 29) (by decide) (by decide) ge_ed ?_
  intro h31 K31 A_ed
  have Z0 := Nat.le_trans Z0 K31.1
  have A_ed : IA Z h31 ed .int 30 (fun i => .int ((fun i => if i = 29 then (983039 : Int32) else f28 i) i)) := A_ed
  obtain ⟨f29, A_ed⟩ : ∃ g : Nat → Int32, IA Z h31 ed .int 30 (fun i => .int (g i)) := ⟨_, A_ed⟩
  refine r_astore_n C at_195 (pc' := 196) rfl rfl (ls' := #[.val (.int x1), .val (.int sel), .val (.int dd), .val (.ref ed), .unset, .unset]) rfl ?_
  refine r_aload_n C at_196 (pc' := 197) rfl rfl rfl ?_
  refine r_iload_n C at_197 (pc' := 198) rfl rfl ?_
  refine r_ldc C (t8 hw) at_198 (pc' := 200) rfl ?_
  refine r_iand C at_200 (pc' := 201) rfl (z := (sel &&& (2147483647 : Int32))) rfl ?_
  refine r_aload_n C at_201 (pc' := 202) rfl rfl rfl ?_
  refine r_arraylength C at_202 (pc' := 203) rfl A_ed (z := (30 : Int32)) (by decide) ?_
  obtain ⟨ix, hi, hlt⟩ := own_idx sel
  refine r_irem C at_203 (pc' := 204) rfl (by decide) (z := ((sel &&& (2147483647 : Int32)) % (30 : Int32))) rfl ?_
  refine r_iaload C at_204 (pc' := 205) rfl A_ed (jn := ix) hi hlt (x := (f29 ix)) rfl ?_
  obtain ⟨nr, hnr⟩ : ∃ q : Int32, (f29 ix + dd % 3) = q := ⟨_, rfl⟩
  obtain ⟨sm, hsm⟩ : ∃ q : Int32, (x1 &&& 2097151) = q := ⟨_, rfl⟩
  refine r_iload_n C at_205 (pc' := 206) rfl rfl ?_
  refine r_iconst C at_206 (pc' := 207) rfl (z := (3 : Int32)) rfl ?_
  refine r_irem C at_207 (pc' := 208) rfl (by decide) (z := (dd % (3 : Int32))) rfl ?_
  refine r_iadd C at_208 (pc' := 209) rfl (z := nr) hnr ?_
  refine r_istore C at_209 (pc' := 211) rfl (ls' := #[.val (.int x1), .val (.int sel), .val (.int dd), .val (.ref ed), .val (.int nr), .unset]) rfl ?_
  refine r_iload_n C at_211 (pc' := 212) rfl rfl ?_
  refine r_ldc C (t9 hw) at_212 (pc' := 214) rfl ?_
  refine r_iand C at_214 (pc' := 215) rfl (z := sm) hsm ?_
  refine r_istore C at_215 (pc' := 217) rfl (ls' := #[.val (.int x1), .val (.int sel), .val (.int dd), .val (.ref ed), .val (.int nr), .val (.int sm)]) rfl ?_
  refine r_iload_n C at_217 (pc' := 218) rfl rfl ?_
  refine r_callS (y := (⟨"com/example/trim_hedge/trimhedge/xml/XmlChars", "isNameStartChar", "(I)Z"⟩ : MethodName)) (as := [(.int x1)]) (st := []) C (t10 hw) (t11 hw) (t12 hw) (t13 hw) (by decide) pd1 rfl rfl at_218 (pc' := 221) rfl rfl (W := 0) (Nat.le_of_eq rfl) (rm1 l Z a0 hw x1 h31 n0) (by decide) (by decide) (by decide) (by decide) ?_
  rintro _ _ ⟨rfl, rfl⟩
  show Run _ _ _ _ _ _ _ _ _ _ _ _ _ _ _ h31 1 30 221 #[.val (.int x1), .val (.int sel), .val (.int dd), .val (.ref ed), .val (.int nr), .val (.int sm)] [(.int (if own_ns x1.toInt then 1 else 0))]
  refine r_iload_n C at_221 (pc' := 222) rfl rfl ?_
  refine r_callS (y := (⟨"com/example/trim_hedge/trimhedge/xml/XmlCharsIsNameStartCharPinLaw", "ref", "(I)Z"⟩ : MethodName)) (as := [(.int x1)]) (st := [(.int (if own_ns x1.toInt then 1 else 0))]) C (t17 hw) (t18 hw) (t19 hw) (t20 hw) (by decide) pd1 rfl rfl at_222 (pc' := 225) rfl rfl (W := 1) (Nat.le_of_eq rfl) (rm2 l Z a0 hw x1 h31 n0) (by decide) (by decide) (by decide) (by decide) ?_
  rintro _ _ ⟨rfl, rfl⟩
  show Run _ _ _ _ _ _ _ _ _ _ _ _ _ _ _ h31 1 30 225 #[.val (.int x1), .val (.int sel), .val (.int dd), .val (.ref ed), .val (.int nr), .val (.int sm)] [(.int (if own_ns x1.toInt then 1 else 0)), (.int (if own_ns x1.toInt then 1 else 0))]
  refine r_icmpne C at_225 (pcT := 258) (pcF := 228) (by decide) rfl ?_ ?_
  · intro c225
    exact absurd rfl c225
  intro c225
  refine r_iload C at_228 (pc' := 230) rfl rfl ?_
  refine r_callS (y := (⟨"com/example/trim_hedge/trimhedge/xml/XmlChars", "isNameStartChar", "(I)Z"⟩ : MethodName)) (as := [(.int sm)]) (st := []) C (t10 hw) (t11 hw) (t12 hw) (t13 hw) (by decide) pd1 rfl rfl at_230 (pc' := 233) rfl rfl (W := 0) (Nat.le_of_eq rfl) (rm1 l Z a0 hw sm h31 n0) (by decide) (by decide) (by decide) (by decide) ?_
  rintro _ _ ⟨rfl, rfl⟩
  show Run _ _ _ _ _ _ _ _ _ _ _ _ _ _ _ h31 1 30 233 #[.val (.int x1), .val (.int sel), .val (.int dd), .val (.ref ed), .val (.int nr), .val (.int sm)] [(.int (if own_ns sm.toInt then 1 else 0))]
  refine r_iload C at_233 (pc' := 235) rfl rfl ?_
  refine r_callS (y := (⟨"com/example/trim_hedge/trimhedge/xml/XmlCharsIsNameStartCharPinLaw", "ref", "(I)Z"⟩ : MethodName)) (as := [(.int sm)]) (st := [(.int (if own_ns sm.toInt then 1 else 0))]) C (t17 hw) (t18 hw) (t19 hw) (t20 hw) (by decide) pd1 rfl rfl at_235 (pc' := 238) rfl rfl (W := 1) (Nat.le_of_eq rfl) (rm2 l Z a0 hw sm h31 n0) (by decide) (by decide) (by decide) (by decide) ?_
  rintro _ _ ⟨rfl, rfl⟩
  show Run _ _ _ _ _ _ _ _ _ _ _ _ _ _ _ h31 1 30 238 #[.val (.int x1), .val (.int sel), .val (.int dd), .val (.ref ed), .val (.int nr), .val (.int sm)] [(.int (if own_ns sm.toInt then 1 else 0)), (.int (if own_ns sm.toInt then 1 else 0))]
  refine r_icmpne C at_238 (pcT := 258) (pcF := 241) (by decide) rfl ?_ ?_
  · intro c238
    exact absurd rfl c238
  intro c238
  refine r_iload C at_241 (pc' := 243) rfl rfl ?_
  refine r_callS (y := (⟨"com/example/trim_hedge/trimhedge/xml/XmlChars", "isNameStartChar", "(I)Z"⟩ : MethodName)) (as := [(.int nr)]) (st := []) C (t10 hw) (t11 hw) (t12 hw) (t13 hw) (by decide) pd1 rfl rfl at_243 (pc' := 246) rfl rfl (W := 0) (Nat.le_of_eq rfl) (rm1 l Z a0 hw nr h31 n0) (by decide) (by decide) (by decide) (by decide) ?_
  rintro _ _ ⟨rfl, rfl⟩
  show Run _ _ _ _ _ _ _ _ _ _ _ _ _ _ _ h31 1 30 246 #[.val (.int x1), .val (.int sel), .val (.int dd), .val (.ref ed), .val (.int nr), .val (.int sm)] [(.int (if own_ns nr.toInt then 1 else 0))]
  refine r_iload C at_246 (pc' := 248) rfl rfl ?_
  refine r_callS (y := (⟨"com/example/trim_hedge/trimhedge/xml/XmlCharsIsNameStartCharPinLaw", "ref", "(I)Z"⟩ : MethodName)) (as := [(.int nr)]) (st := [(.int (if own_ns nr.toInt then 1 else 0))]) C (t17 hw) (t18 hw) (t19 hw) (t20 hw) (by decide) pd1 rfl rfl at_248 (pc' := 251) rfl rfl (W := 1) (Nat.le_of_eq rfl) (rm2 l Z a0 hw nr h31 n0) (by decide) (by decide) (by decide) (by decide) ?_
  rintro _ _ ⟨rfl, rfl⟩
  show Run _ _ _ _ _ _ _ _ _ _ _ _ _ _ _ h31 1 30 251 #[.val (.int x1), .val (.int sel), .val (.int dd), .val (.ref ed), .val (.int nr), .val (.int sm)] [(.int (if own_ns nr.toInt then 1 else 0)), (.int (if own_ns nr.toInt then 1 else 0))]
  refine r_icmpne C at_251 (pcT := 258) (pcF := 254) (by decide) rfl ?_ ?_
  · intro c251
    exact absurd rfl c251
  intro c251
  refine r_iconst C at_254 (pc' := 255) rfl (z := (1 : Int32)) rfl ?_
  refine r_goto C at_255 (pc' := 259) (by decide) ?_
  exact r_ireturnN (t := .boolean) (by simp) C at_259 rfl (by decide) (by decide)
set_option maxRecDepth 65536 in
set_option maxHeartbeats 40000000 in
theorem comes_1 {Post : Tables → Env → Array Value → State → Outcome → State → Prop} (hpost : ∀ tb e args s v u, (limb_1_1.after args s (.returned v) u = true ∧ limb_1_2.after args s (.returned v) u = true ∧ True) → FrameEnd s (.returned v) u (Jvm.fieldLocs frame_1_writes args s ++ Jvm.arrayLocs frame_1_arrays args s ++ Jvm.staticLocs frame_1_statics s) 16 128 → Post tb e args s (.returned v) u) :
    ArmFor flags0 classFile x code maxLocals ret World_1 tables_1 room_1 Calls_1 rest_1 Pre_1 Post := by
  intro l hfl _ _ p e ha hc hk s m args below hf hA hF happ hP
  obtain ⟨hcalls, hrest, hpre⟩ := hP
  obtain ⟨-, -, -, hnamed, -, -, -, hat⟩ := (Spec.applies_iff hf).mp happ
  obtain ⟨hg, hn⟩ := and_e (Cond.before_iff.mp (show (Jvm.Cond.and given_1 narrow_1).before args s = true from hpre))
  obtain ⟨g0, k0⟩ := and_e hg
  obtain ⟨w0, w1, w2, rfl⟩ : ∃ w0 w1 w2 : Value, args = #[w0, w1, w2] := by
    have hs : args.size = 3 := by simpa [Cond.value, given_1] using g0
    obtain ⟨L⟩ := args
    match L, hs with
    | [w0, w1, w2], _ => exact ⟨w0, w1, w2, rfl⟩
  have hw := fun d (hd : d ∈ tables_1) => atoms_spec (ws := Jvm.Cond.code x code maxLocals ret :: tables_1) hat d (List.mem_cons_of_mem _ hd)
  obtain ⟨j0, k1⟩ := and_e k0
  obtain ⟨i0, e0⟩ := is_v j0
  obtain rfl : w0 = (.int i0) := Option.some.inj e0
  obtain ⟨j1, k2⟩ := and_e k1
  obtain ⟨i1, e1⟩ := is_v j1
  obtain rfl : w1 = (.int i1) := Option.some.inj e1
  have j2 := k2
  obtain ⟨i2, e2⟩ := is_v j2
  obtain rfl : w2 = (.int i2) := Option.some.inj e2
  obtain ⟨n, o, h1, h2, h3, _, L, rfl, ⟨rfl, N⟩, hq⟩ := rm0 l s _ hw i0 i1 i2 s.heap s.heap.size (Nat.le_refl _) tables_1 p e ha hc hk s m _ below hf ((Spec.applies_iff_loose hf).mp happ).1 ⟨rfl, State.Warmed39.refl s, rfl⟩ trivial
  refine ⟨n, _, h1, h2, h3, hpost _ _ _ _ _ _ ⟨Cond.after_iff.mpr rfl, Cond.after_iff.mpr (eq_i res_at (Term.int_eval (1)) rfl), trivial⟩ ⟨hq.1, hq.2.1, (hq.2.2.sift fun y hy => Or.inr (N y hy)).mono (by decide) (by decide)⟩⟩
theorem main_1_1 : Claimed_1_1 := comes_1 fun _ _ _ _ _ _ h hF => ⟨h.1, hF⟩
theorem main_1_2 : Claimed_1_2 := comes_1 fun _ _ _ _ _ _ h hF => ⟨h.2.1, hF⟩
end Jvm.Pilot.@@N@@
namespace Jvm.Pilot.@@N@@
open Jvm Jvm.ClassFile Sem Op Lib Jvm.Free Jvm.Stand Jvm.Pilot.@@N@@.Jvm.D
/-! MADE BY PROGRAM (witnessworld.py) out of the Statement's table words and the real class files: 9 classes; the members and pool entries that the words name. The judged class is class 1, her method 3. -/
namespace start1
open Jvm.ClassFile
def u (s : String) : CpInfo := .utf8 (stringToUtf16 s)
/-- a pool by its gaps: so many unusable entries, then the entry; so many at the end -/
def gap : Nat → List CpInfo → List CpInfo
  | 0, r => r
  | n + 1, r => .unusable :: gap n r
def poolList (es : List (Nat × CpInfo)) (last : Nat) : List CpInfo := es.foldr (fun e r => gap e.1 (e.2 :: r)) (gap last [])
def pool (es : List (Nat × CpInfo)) (last : Nat) : Array CpInfo := ⟨poolList es last⟩
def fileOf (pool : Array CpInfo) (this : Nat) (attrs : Array Attribute := #[]) (ms : Array MethodInfo := #[]) (fl : Nat := 33) (sup : Nat := 0) (ifs : Array Nat := #[]) (fds : Array FieldInfo := #[]) : ClassFile where
  minorVersion := 0
  majorVersion := 65
  constantPool := pool
  accessFlags := fl
  thisClass := this
  superClass := sup
  interfaces := ifs
  fields := fds
  methods := ms
  attributes := attrs
def plain (name : String) (sup : Option ClassId) : Class where
  name := name
  kind := .ordinary
  loader := none
  accessFlags := 33
  super := sup
  interfaces := #[]
  cf := none
  fields := #[]
  methods := #[]
  instanceTypes := #[]
  staticTypes := #[]
  resolved := #[]
  callSites := []
  init := .initialized
  statics := none
  mirror := none

def pool0 : Array CpInfo := pool [(5, u "<init>"), (0, u "()V"), (1, .class_ 10), (1, u "java/lang/Object")] 113

def k0m0 : Method := { name := "<init>", desc := "()V", sig := { parameters := [], returnType := none }, accessFlags := 1, code := none }
/-- java/lang/Object -/
def k0 : Class := { plain "java/lang/Object" none with
  accessFlags := 33
  interfaces := #[]
  cf := some (fileOf pool0 8 #[] #[{ accessFlags := 1, nameIndex := 5, descriptorIndex := 6, attributes := #[] }] 33 0 #[] #[])
  fields := #[]
  methods := #[k0m0]
  instanceTypes := #[]
  staticTypes := #[]
  resolved := Array.replicate 124 none
  statics := none }

def pool1 : Array CpInfo := pool [(2, .class_ 4), (1, u "java/lang/Object"), (0, u "<init>"), (0, u "()V"), (0, .integer 983039), (0, .methodref 9 10), (0, .class_ 11), (0, .nameAndType 12 13), (0, u "com/example/trim_hedge/trimhedge/xml/XmlCharsIsNameStartCharPinLaw"), (0, u "inside"), (0, u "(III)Z"), (0, .integer 55296), (0, .integer 63743), (0, .integer 64976), (0, .integer 65007), (0, .integer 65534), (0, .integer 65535), (0, .integer 55295), (0, .integer 63744), (0, .integer 64975), (0, .integer 65008), (0, .integer 65533), (0, .integer 65536), (0, .integer 2147483647), (0, .integer 2097151), (0, .methodref 29 30), (0, .class_ 31), (0, .nameAndType 32 33), (0, u "com/example/trim_hedge/trimhedge/xml/XmlChars"), (0, u "isNameStartChar"), (0, u "(I)Z"), (0, .methodref 9 35), (0, .nameAndType 36 33), (0, u "ref"), (3, u "law")] 4

def k1m0 : Method := { name := "<init>", desc := "()V", sig := { parameters := [], returnType := none }, accessFlags := 1, code := none }
def k1c1 : Code := { maxStack := 2, maxLocals := 3, code := method_2_code, exceptionTable := #[], attributes := #[] }
def k1m1 : Method := { name := "inside", desc := "(III)Z", sig := { parameters := [.int, .int, .int], returnType := some .boolean }, accessFlags := 10, code := some k1c1 }
def k1c2 : Code := { maxStack := 3, maxLocals := 1, code := method_3_code, exceptionTable := #[], attributes := #[] }
def k1m2 : Method := { name := "ref", desc := "(I)Z", sig := { parameters := [.int], returnType := some .boolean }, accessFlags := 10, code := some k1c2 }
def k1c3 : Code := { maxStack := 4, maxLocals := 6, code := code, exceptionTable := #[], attributes := #[] }
def k1m3 : Method := { name := "law", desc := "(III)Z", sig := { parameters := [.int, .int, .int], returnType := some .boolean }, accessFlags := 9, code := some k1c3 }
/-- com/example/trim_hedge/trimhedge/xml/XmlCharsIsNameStartCharPinLaw -/
def k1 : Class := { plain "com/example/trim_hedge/trimhedge/xml/XmlCharsIsNameStartCharPinLaw" (some 0) with
  accessFlags := 49
  interfaces := #[]
  cf := some (fileOf pool1 9 #[] #[{ accessFlags := 1, nameIndex := 5, descriptorIndex := 6, attributes := #[] }, { accessFlags := 10, nameIndex := 12, descriptorIndex := 13, attributes := #[] }, { accessFlags := 10, nameIndex := 36, descriptorIndex := 33, attributes := #[] }, { accessFlags := 9, nameIndex := 40, descriptorIndex := 13, attributes := #[] }] 49 2 #[] #[])
  fields := #[]
  methods := #[k1m0, k1m1, k1m2, k1m3]
  instanceTypes := #[]
  staticTypes := #[]
  resolved := Array.replicate 45 none
  statics := none }

def pool2 : Array CpInfo := pool [(2, .class_ 4), (1, u "java/lang/Object"), (0, u "<init>"), (0, u "()V"), (1, .class_ 10), (1, u "com/example/trim_hedge/trimhedge/xml/XmlChars"), (1, u "(I)Z"), (37, u "isNameStartChar"), (31, .integer 55295), (1, .integer 65533), (0, .integer 65536), (5, .integer 63744), (0, .integer 64975), (0, .integer 65008), (0, .integer 983039)] 17

def k2m0 : Method := { name := "<init>", desc := "()V", sig := { parameters := [], returnType := none }, accessFlags := 2, code := none }
def k2c1 : Code := { maxStack := 2, maxLocals := 1, code := prog_155_method_21_code, exceptionTable := #[], attributes := #[] }
def k2m1 : Method := { name := "isNameStartChar", desc := "(I)Z", sig := { parameters := [.int], returnType := some .boolean }, accessFlags := 9, code := some k2c1 }
/-- com/example/trim_hedge/trimhedge/xml/XmlChars -/
def k2 : Class := { plain "com/example/trim_hedge/trimhedge/xml/XmlChars" (some 0) with
  accessFlags := 49
  interfaces := #[]
  cf := some (fileOf pool2 8 #[] #[{ accessFlags := 2, nameIndex := 5, descriptorIndex := 6, attributes := #[] }, { accessFlags := 9, nameIndex := 50, descriptorIndex := 12, attributes := #[] }] 49 2 #[] #[])
  fields := #[]
  methods := #[k2m0, k2m1]
  instanceTypes := #[]
  staticTypes := #[]
  resolved := Array.replicate 112 none
  statics := none }

def pool3 : Array CpInfo := pool [(1, u "java/lang/Cloneable"), (0, .class_ 1), (0, u "java/lang/Object"), (0, .class_ 3)] 3

/-- java/lang/Cloneable -/
def k3 : Class := { plain "java/lang/Cloneable" (some 0) with
  accessFlags := 1537
  interfaces := #[]
  cf := some (fileOf pool3 2 #[] #[] 1537 4 #[] #[])
  fields := #[]
  methods := #[]
  instanceTypes := #[]
  staticTypes := #[]
  resolved := Array.replicate 8 none
  statics := none }

def pool4 : Array CpInfo := pool [(1, u "java/io/Serializable"), (0, .class_ 1), (0, u "java/lang/Object"), (0, .class_ 3)] 3

/-- java/io/Serializable -/
def k4 : Class := { plain "java/io/Serializable" (some 0) with
  accessFlags := 1537
  interfaces := #[]
  cf := some (fileOf pool4 2 #[] #[] 1537 4 #[] #[])
  fields := #[]
  methods := #[]
  instanceTypes := #[]
  staticTypes := #[]
  resolved := Array.replicate 8 none
  statics := none }

/-- the primitive byte -/
def k5 : Class := { plain "byte" none with kind := .primitive 'B', accessFlags := 0x411 }
/-- [B -/
def k6 : Class := { plain "[B" (some 0) with kind := .array 5 .byte, interfaces := #[3, 4], accessFlags := 1041 }

/-- the primitive int -/
def k7 : Class := { plain "int" none with kind := .primitive 'I', accessFlags := 0x411 }
/-- [I -/
def k8 : Class := { plain "[I" (some 0) with kind := .array 7 .int, interfaces := #[3, 4], accessFlags := 1041 }

def heap : Heap := #[]
def classes : Array Class := #[k0, k1, k2, k3, k4, k5, k6, k7, k8]
def interned : List (Array UInt16 × Addr) := []
def slotsUsed : Nat := 0
def theMethod : MethodId := ⟨1, 3⟩
def args0 : Array Value := #[.int 5, .int 3, .int 1]
def aboutOver (below : List Frame) : State where
  vm := { classes := classes, interned := interned.toArray }
  heap := heap
  slotsUsed := slotsUsed
  threads := #[{ frames := .invoking theMethod args0 :: below }]
def below0 : List Frame := [.native { method := ⟨0, 0⟩, args := #[] }]
def about1 : State := aboutOver below0
def p0 : Program := .bare "" "" ""
def e0 : Env := launch0.env 0 0 0
theorem w_frames : about1.frames = Frame.invoking theMethod args0 :: below0 := rfl
set_option maxRecDepth 65536 in
theorem w_args : argsFit about1.vm theMethod args0 = true := by decide +kernel
set_option maxRecDepth 65536 in
theorem w_heap : heapFits about1 = true := by decide +kernel
set_option maxRecDepth 65536 in
theorem w_runnable : about1.curStatus? = some .runnable := by decide +kernel
set_option maxRecDepth 65536 in
theorem w_alone : about1.alone = true := by decide +kernel
set_option maxRecDepth 65536 in
theorem w_named : about1.methodNamed? x = some theMethod := by decide +kernel
set_option maxRecDepth 65536 in
theorem w_hears : about1.hears theMethod below0 = true := by decide +kernel
set_option maxRecDepth 65536 in
theorem w_ripe : about1.ripe theMethod args0 below0 = true := by decide +kernel
theorem w_running : about1.status = .running := rfl
set_option maxRecDepth 65536 in
theorem w_room : about1.hasRoom e0.platform room_1 = true :=
  launch0.hasRoom_least _ room_1 (by decide +kernel) (by decide +kernel) (by decide +kernel) (by decide +kernel) (by decide +kernel) (by decide +kernel)
theorem allAtoms_all (ts : List Jvm.Cond) (a : Array Jvm.Value) (st : Jvm.State) : (allAtoms ts).before a st = ts.all (fun c => c.before a st) := by
  induction ts with
  | nil => rfl
  | cons c t ih =>
    show (Jvm.Cond.and c (allAtoms t)).before a st = _
    rw [Jvm.Cond.before_and, ih, List.all_cons]
def words1 : List Jvm.Cond := Jvm.Cond.code x code maxLocals ret :: tables_1
/-- a 'code' word, met by the world's own term for the bytes: nothing is compared byte by byte -/
theorem code_word {y : MethodName} {bytes : ByteArray} {mx : Nat} {rt : Option FieldType} {a : Array Value} {s : State} {m : MethodId} {meth : Method} {c : Code} (h1 : s.methodNamed? y = some m) (h2 : s.vm.method? m = some meth) (h3 : meth.code = some c) (h4 : c.code = bytes)
    (h5 : (c.maxLocals == mx && c.exceptionTable.isEmpty && decide (c.maxStack ≤ mostOperands) && decide (meth.sig.returnType = rt) && !meth.locks && decide (parseMethodDescriptor y.desc = some meth.sig)) = true) : (Jvm.Cond.code y bytes mx rt).before a s = true := by
  simp only [Bool.and_eq_true, beq_iff_eq, Bool.not_eq_true', decide_eq_true_eq] at h5
  obtain ⟨⟨⟨⟨⟨g1, g2⟩, g3⟩, g4⟩, g5⟩, g6⟩ := h5
  simp [Cond.before, Cond.holds, Cond.value, h1, h2, h3, h4, g1, g2, g3, g4, g5, g6]
def isCode : Jvm.Cond → Bool
  | .code _ _ _ _ => true
  | _ => false
theorem all_split {L : List Jvm.Cond} {P : Jvm.Cond → Bool} (h1 : L.all (fun c => isCode c || P c) = true) (h2 : ∀ c ∈ L.filter isCode, P c = true) : L.all P = true := by
  refine List.all_eq_true.mpr fun c hc => ?_
  have h := List.all_eq_true.mp h1 c hc
  rcases Bool.eq_false_or_eq_true (isCode c) with hi | hi
  · exact h2 c (List.mem_filter.mpr ⟨hc, hi⟩)
  · simpa [hi] using h
set_option maxRecDepth 65536 in
theorem w_c0 : (Jvm.Cond.code x code maxLocals ret).before args0 about1 = true := code_word (m := ⟨1, 3⟩) (meth := k1m3) (c := k1c3) (by decide +kernel) rfl rfl rfl (by decide +kernel)
set_option maxRecDepth 65536 in
theorem w_c1 : (Jvm.Cond.code ({ cls := "com/example/trim_hedge/trimhedge/xml/XmlChars", name := "isNameStartChar", desc := "(I)Z" } : Jvm.MethodName) prog_155_method_21_code (1 : Nat) (Option.some Jvm.ClassFile.FieldType.boolean)).before args0 about1 = true := code_word (m := ⟨2, 1⟩) (meth := k2m1) (c := k2c1) (by decide +kernel) rfl rfl rfl (by decide +kernel)
set_option maxRecDepth 65536 in
theorem w_c2 : (Jvm.Cond.code ({ cls := "com/example/trim_hedge/trimhedge/xml/XmlCharsIsNameStartCharPinLaw", name := "ref", desc := "(I)Z" } : Jvm.MethodName) method_3_code (1 : Nat) (Option.some Jvm.ClassFile.FieldType.boolean)).before args0 about1 = true := code_word (m := ⟨1, 2⟩) (meth := k1m2) (c := k1c2) (by decide +kernel) rfl rfl rfl (by decide +kernel)
set_option maxRecDepth 65536 in
theorem w_c3 : (Jvm.Cond.code ({ cls := "com/example/trim_hedge/trimhedge/xml/XmlCharsIsNameStartCharPinLaw", name := "inside", desc := "(III)Z" } : Jvm.MethodName) method_2_code (3 : Nat) (Option.some Jvm.ClassFile.FieldType.boolean)).before args0 about1 = true := code_word (m := ⟨1, 1⟩) (meth := k1m1) (c := k1c1) (by decide +kernel) rfl rfl rfl (by decide +kernel)
def codes1 : List Jvm.Cond := [Jvm.Cond.code x code maxLocals ret, Jvm.Cond.code ({ cls := "com/example/trim_hedge/trimhedge/xml/XmlChars", name := "isNameStartChar", desc := "(I)Z" } : Jvm.MethodName) prog_155_method_21_code (1 : Nat) (Option.some Jvm.ClassFile.FieldType.boolean), Jvm.Cond.code ({ cls := "com/example/trim_hedge/trimhedge/xml/XmlCharsIsNameStartCharPinLaw", name := "ref", desc := "(I)Z" } : Jvm.MethodName) method_3_code (1 : Nat) (Option.some Jvm.ClassFile.FieldType.boolean), Jvm.Cond.code ({ cls := "com/example/trim_hedge/trimhedge/xml/XmlCharsIsNameStartCharPinLaw", name := "inside", desc := "(III)Z" } : Jvm.MethodName) method_2_code (3 : Nat) (Option.some Jvm.ClassFile.FieldType.boolean)]
set_option maxRecDepth 65536 in
theorem codes_eq : words1.filter isCode = codes1 := rfl
theorem w_codes : ∀ c ∈ words1.filter isCode, c.before args0 about1 = true := by
  rw [codes_eq]
  intro c hc
  simp only [codes1, List.mem_cons, List.not_mem_nil, or_false] at hc
  rcases hc with rfl | rfl | rfl | rfl
  · exact w_c0
  · exact w_c1
  · exact w_c2
  · exact w_c3
set_option maxRecDepth 65536 in
theorem w_t1 : (words1.take 24).all (fun c => isCode c || c.before args0 about1) = true := by decide +kernel
set_option maxRecDepth 65536 in
theorem w_t2 : (words1.drop 24).all (fun c => isCode c || c.before args0 about1) = true := by decide +kernel
theorem w_tables : (allAtoms (Jvm.Cond.code x code maxLocals ret :: tables_1)).before args0 about1 = true := by
  rw [allAtoms_all]
  show words1.all (fun c => c.before args0 about1) = true
  refine all_split ?_ w_codes
  rw [← List.take_append_drop 24 words1, List.all_append, w_t1, w_t2]
  rfl
set_option maxRecDepth 65536 in
theorem w_case : (Jvm.Cond.and given_1 narrow_1).before args0 about1 = true := by decide +kernel
theorem w_applies : (headSpec (Jvm.Cond.code x code maxLocals ret :: tables_1) room_1).applies x e0.platform about1 = true :=
  (Spec.applies_iff w_frames).mpr ⟨w_running, w_runnable, w_alone, w_named, w_hears, w_ripe, w_room, w_tables⟩
theorem atStart : AtStart classFile x code maxLocals ret World_1 tables_1 room_1 Calls_1 rest_1 Pre_1 launch0 p0 e0 about1 theMethod args0 below0 :=
  ⟨lists_1, trivial, launch0.admits_env _ _ _, launch0.least_env, fairChoices_fair.cas, fairChoices_fair.clock, w_frames, w_args, w_heap, w_applies, trivial, trivial, w_case⟩
end start1
theorem witness_1 : WitnessClaimed_1 := ⟨start1.p0, start1.e0, start1.about1, start1.theMethod, start1.args0, start1.below0, start1.atStart⟩
end Jvm.Pilot.@@N@@
