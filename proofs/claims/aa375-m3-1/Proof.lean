import JvmDerived
import JvmDerived.Pilot.@@N@@Statement
import JvmDerived.Pilot.@@N@@Code
set_option linter.unusedVariables false
set_option linter.unusedSimpArgs false
namespace Jvm.Pilot.@@N@@
open Jvm Jvm.ClassFile Sem Op Lib Jvm.Free Jvm.Stand Jvm.LawKit Jvm.RoadKit Bundle Jvm.Pilot.@@N@@.Jvm.D
section OwnKit
variable {p : Program} {l : Launch} {e : Env} {R : Room} {s : State} {m : MethodId} {args : Array Value} {below : List Frame} {meth : Method} {c : Code} {T T' : State} {locs : List Loc} {cells slots : Nat} {P : Outcome → State → Prop} {Q : Option Value → Heap → List Loc → Prop} {cC cS : Nat} {bytes : ByteArray} {ls : Array Slot} {st : List Value} {pc pc' : Nat} {g g' : JFrame} {Z : State} {a0 : Array Value} {h h' : Heap}
/-- from this state and frame the method comes to its end, returns, and Q holds of what it leaves -/
def own_Got (p : Program) (e : Env) (below : List Frame) (P : Outcome → State → Prop) (T : State) (g : JFrame) : Prop :=
  ∃ s₂ o, Steps p.tables e below (T.setTop g) s₂ ∧ s₂.status = .running ∧ Ended s₂ below o ∧ P o s₂
/-- what a contract says of the end -/
def own_End (s : State) (Q : Option Value → Heap → List Loc → Prop) (cC cS : Nat) (o : Outcome) (U : State) : Prop := ∃ v L, o = .returned v ∧ Q v U.heap L ∧ FrameEnd s o U L cC cS
theorem own_go (k : ∀ t, Steps p.tables e below (T'.setTop g') t → Steps p.tables e below (T.setTop g) t) (h : own_Got p e below P T' g') : own_Got p e below P T g := by
  obtain ⟨s2, o, h1, h2⟩ := h; exact ⟨s2, o, k _ h1, h2⟩
theorem own_tr (k : Steps p.tables e below (T.setTop g) (T'.setTop g')) (h : own_Got p e below P T' g') : own_Got p e below P T g := own_go (fun _ q => k.trans q) h
theorem own_cast (q : g = g') (h : own_Got p e below P T g') : own_Got p e below P T g := q ▸ h
theorem own_retV (X : Stand p l e R s m args below meth c T locs cells slots) (hx : p.tables.exec = Jvm.exec) (hby : c.code = bytes) (hlk : meth.locks = false) (hret : meth.sig.returnType = none) (hd : decode bytes pc = .ok (.return_, 1)) (hc : cells ≤ cC) (hs : slots ≤ cS)
    (hq : Q none T.heap locs) : own_Got p e below (own_End s Q cC cS) T (mkF m pc ls []) := by
  obtain ⟨fs, hr, hrun, hended, hW, hsame⟩ := X.leave (v := none) (fun _ => rfl) hlk
  exact ⟨_, _, X.returnOut hx hret (hb hby hd) hr, hrun, hended, _, _, rfl, hq, ⟨_, rfl⟩, hW, hsame.mono hc hs⟩
theorem own_retI (X : Stand p l e R s m args below meth c T locs cells slots) (hx : p.tables.exec = Jvm.exec) (hby : c.code = bytes) (hlk : meth.locks = false) (hret : meth.sig.returnType = some .int) (hd : decode bytes pc = .ok (.ireturn, 1)) (hc : cells ≤ cC) (hs : slots ≤ cS) {z : Int32}
    (hq : Q (some (.int z)) T.heap locs) : own_Got p e below (own_End s Q cC cS) T (mkF m pc ls (.int z :: st)) := by
  obtain ⟨fs, hr, hrun, hended, hW, hsame⟩ := X.leave (v := some (.int z)) (fun h => by rw [hret] at h; cases h) hlk
  exact ⟨_, _, retOut X hx hret rfl (Or.inl ⟨rfl, Or.inl rfl, _, rfl⟩) (hb hby hd) hr, hrun, hended, _, _, rfl, hq, ⟨_, rfl⟩, hW, hsame.mono hc hs⟩
theorem own_retN (X : Stand p l e R s m args below meth c T locs cells slots) (hx : p.tables.exec = Jvm.exec) (hby : c.code = bytes) (hlk : meth.locks = false) {t : FieldType} (hret : meth.sig.returnType = some t) (ht : t = .boolean ∨ t = .byte ∨ t = .char ∨ t = .short) (hd : decode bytes pc = .ok (.ireturn, 1)) (hc : cells ≤ cC) (hs : slots ≤ cS) {z : Int32}
    (hq : Q (some (.int (nar t z))) T.heap locs) : own_Got p e below (own_End s Q cC cS) T (mkF m pc ls (.int z :: st)) := by
  obtain ⟨fs, hr, hrun, hended, hW, hsame⟩ := X.leave (v := some (.int (nar t z))) (fun h => by rw [hret] at h; cases h) hlk
  exact ⟨_, _, retN X hx hret ht (hb hby hd) hr, hrun, hended, _, _, rfl, hq, ⟨_, rfl⟩, hW, hsame.mono hc hs⟩
theorem own_retR (X : Stand p l e R s m args below meth c T locs cells slots) (hx : p.tables.exec = Jvm.exec) (hby : c.code = bytes) (hlk : meth.locks = false) {t : FieldType} (hret : meth.sig.returnType = some t) (ht : t.isReference = true) (hd : decode bytes pc = .ok (.areturn, 1)) (hc : cells ≤ cC) (hs : slots ≤ cS) {w : Value} (hw : w.isRef = true)
    (hq : Q (some w) T.heap locs) : own_Got p e below (own_End s Q cC cS) T (mkF m pc ls (w :: st)) := by
  obtain ⟨fs, hr, hrun, hended, hW, hsame⟩ := X.leave (v := some w) (fun h => by rw [hret] at h; cases h) hlk
  have hn : narrow t w = w := by rcases ref_cases hw with rfl | ⟨a, rfl⟩ <;> cases t <;> first | rfl | (cases ht)
  exact ⟨_, _, retOut X hx hret hn (Or.inr (Or.inr (Or.inr (Or.inr ⟨rfl, ht, hw⟩)))) (hb hby hd) hr, hrun, hended, _, _, rfl, hq, ⟨_, rfl⟩, hW, hsame.mono hc hs⟩
theorem g_iloadN (X : Stand p l e R s m args below meth c T locs cells slots) (hx : p.tables.exec = Jvm.exec) (hby : c.code = bytes) {k : Fin 4} {v : Int32} (hd : decode bytes pc = .ok (.iload_n k, 1)) (hl : ls[k.val]? = some (.val (.int v))) (hp : pc + 1 = pc')
    (k : own_Got p e below P T (mkF m pc' ls (.int v :: st))) : own_Got p e below P T (mkF m pc ls (st)) := by
  subst hp; exact own_go (fun _ q => XS.iloadN X.here hx rfl (hb hby hd) hl q) k
theorem g_iload (X : Stand p l e R s m args below meth c T locs cells slots) (hx : p.tables.exec = Jvm.exec) (hby : c.code = bytes) {k : Nat} {v : Int32} (hd : decode bytes pc = .ok (.iload k, 2)) (hl : ls[k]? = some (.val (.int v))) (hp : pc + 2 = pc')
    (k : own_Got p e below P T (mkF m pc' ls (.int v :: st))) : own_Got p e below P T (mkF m pc ls (st)) := by
  subst hp; exact own_go (fun _ q => XS.iload X.here hx rfl (hb hby hd) hl q) k
theorem g_aloadN (X : Stand p l e R s m args below meth c T locs cells slots) (hx : p.tables.exec = Jvm.exec) (hby : c.code = bytes) {k : Fin 4} {v : Value} (hd : decode bytes pc = .ok (.aload_n k, 1)) (hl : ls[k.val]? = some (.val v)) (hv : v.isRef = true) (hp : pc + 1 = pc')
    (k : own_Got p e below P T (mkF m pc' ls (v :: st))) : own_Got p e below P T (mkF m pc ls (st)) := by
  subst hp; exact own_go (fun _ q => XS.aloadN X.here hx rfl (hb hby hd) hl hv q) k
theorem g_aload (X : Stand p l e R s m args below meth c T locs cells slots) (hx : p.tables.exec = Jvm.exec) (hby : c.code = bytes) {k : Nat} {v : Value} (hd : decode bytes pc = .ok (.aload k, 2)) (hl : ls[k]? = some (.val v)) (hv : v.isRef = true) (hp : pc + 2 = pc')
    (k : own_Got p e below P T (mkF m pc' ls (v :: st))) : own_Got p e below P T (mkF m pc ls (st)) := by
  subst hp; exact own_go (fun _ q => XS.aload X.here hx rfl (hb hby hd) hl hv q) k
theorem g_istoreN (X : Stand p l e R s m args below meth c T locs cells slots) (hx : p.tables.exec = Jvm.exec) (hby : c.code = bytes) {k : Fin 4} {x : Int32} (ls' : Array Slot) (hd : decode bytes pc = .ok (.istore_n k, 1)) (hl : storeLocals ls k.val (.int x) = some ls') (hp : pc + 1 = pc')
    (k : own_Got p e below P T (mkF m pc' ls' (st))) : own_Got p e below P T (mkF m pc ls (.int x :: st)) := by
  subst hp; exact own_go (fun _ q => XS.istoreN X.here hx rfl (hb hby hd) rfl hl q) k
theorem g_istore (X : Stand p l e R s m args below meth c T locs cells slots) (hx : p.tables.exec = Jvm.exec) (hby : c.code = bytes) {k : Nat} {x : Int32} (ls' : Array Slot) (hd : decode bytes pc = .ok (.istore k, 2)) (hl : storeLocals ls k (.int x) = some ls') (hp : pc + 2 = pc')
    (k : own_Got p e below P T (mkF m pc' ls' (st))) : own_Got p e below P T (mkF m pc ls (.int x :: st)) := by
  subst hp; exact own_go (fun _ q => XS.istore X.here hx rfl (hb hby hd) rfl hl q) k
theorem g_astoreN (X : Stand p l e R s m args below meth c T locs cells slots) (hx : p.tables.exec = Jvm.exec) (hby : c.code = bytes) {k : Fin 4} {x : Value} (ls' : Array Slot) (hd : decode bytes pc = .ok (.astore_n k, 1)) (hv : x.isRef = true) (hl : storeLocals ls k.val x = some ls') (hp : pc + 1 = pc')
    (k : own_Got p e below P T (mkF m pc' ls' (st))) : own_Got p e below P T (mkF m pc ls (x :: st)) := by
  subst hp; exact own_go (fun _ q => XS.astoreN X.here hx rfl (hb hby hd) rfl hv hl q) k
theorem g_astore (X : Stand p l e R s m args below meth c T locs cells slots) (hx : p.tables.exec = Jvm.exec) (hby : c.code = bytes) {k : Nat} {x : Value} (ls' : Array Slot) (hd : decode bytes pc = .ok (.astore k, 2)) (hv : x.isRef = true) (hl : storeLocals ls k x = some ls') (hp : pc + 2 = pc')
    (k : own_Got p e below P T (mkF m pc' ls' (st))) : own_Got p e below P T (mkF m pc ls (x :: st)) := by
  subst hp; exact own_go (fun _ q => XS.astore X.here hx rfl (hb hby hd) rfl hv hl q) k
theorem g_iconst (X : Stand p l e R s m args below meth c T locs cells slots) (hx : p.tables.exec = Jvm.exec) (hby : c.code = bytes) {i : Int} (z : Int32) (hd : decode bytes pc = .ok (.iconst i, 1)) (hz : Int32.ofInt i = z) (hp : pc + 1 = pc')
    (k : own_Got p e below P T (mkF m pc' ls (.int z :: st))) : own_Got p e below P T (mkF m pc ls (st)) := by
  subst hp; subst hz; exact own_go (fun _ q => XS.iconst X.here hx rfl (hb hby hd) q) k
theorem g_bipush (X : Stand p l e R s m args below meth c T locs cells slots) (hx : p.tables.exec = Jvm.exec) (hby : c.code = bytes) {i : Int} (z : Int32) (hd : decode bytes pc = .ok (.bipush i, 2)) (hz : (Int8.ofInt i).toInt32 = z) (hp : pc + 2 = pc')
    (k : own_Got p e below P T (mkF m pc' ls (.int z :: st))) : own_Got p e below P T (mkF m pc ls (st)) := by
  subst hp; subst hz; exact own_go (fun _ q => XS.bipush X.here hx rfl (hb hby hd) q) k
theorem g_sipush (X : Stand p l e R s m args below meth c T locs cells slots) (hx : p.tables.exec = Jvm.exec) (hby : c.code = bytes) {i : Int} (z : Int32) (hd : decode bytes pc = .ok (.sipush i, 3)) (hz : (Int16.ofInt i).toInt32 = z) (hp : pc + 3 = pc')
    (k : own_Got p e below P T (mkF m pc' ls (.int z :: st))) : own_Got p e below P T (mkF m pc ls (st)) := by
  subst hp; subst hz; exact own_go (fun _ q => XS.sipush X.here hx rfl (hb hby hd) q) k
theorem g_anull (X : Stand p l e R s m args below meth c T locs cells slots) (hx : p.tables.exec = Jvm.exec) (hby : c.code = bytes)  (hd : decode bytes pc = .ok (.aconst_null, 1))  (hp : pc + 1 = pc')
    (k : own_Got p e below P T (mkF m pc' ls (.null :: st))) : own_Got p e below P T (mkF m pc ls (st)) := by
  subst hp; exact own_go (fun _ q => XS.aconstNull X.here hx rfl (hb hby hd) q) k
theorem g_iadd (X : Stand p l e R s m args below meth c T locs cells slots) (hx : p.tables.exec = Jvm.exec) (hby : c.code = bytes) {x y : Int32} (hd : decode bytes pc = .ok (.iadd, 1))  (hp : pc + 1 = pc')
    (k : own_Got p e below P T (mkF m pc' ls (.int (x + y) :: st))) : own_Got p e below P T (mkF m pc ls (.int y :: .int x :: st)) := by
  subst hp; exact own_go (fun _ q => XS.iadd X.here hx rfl (hb hby hd) rfl q) k
theorem g_isub (X : Stand p l e R s m args below meth c T locs cells slots) (hx : p.tables.exec = Jvm.exec) (hby : c.code = bytes) {x y : Int32} (hd : decode bytes pc = .ok (.isub, 1))  (hp : pc + 1 = pc')
    (k : own_Got p e below P T (mkF m pc' ls (.int (x - y) :: st))) : own_Got p e below P T (mkF m pc ls (.int y :: .int x :: st)) := by
  subst hp; exact own_go (fun _ q => XS.isub X.here hx rfl (hb hby hd) rfl q) k
theorem g_iand (X : Stand p l e R s m args below meth c T locs cells slots) (hx : p.tables.exec = Jvm.exec) (hby : c.code = bytes) {x y : Int32} (hd : decode bytes pc = .ok (.iand, 1))  (hp : pc + 1 = pc')
    (k : own_Got p e below P T (mkF m pc' ls (.int (x &&& y) :: st))) : own_Got p e below P T (mkF m pc ls (.int y :: .int x :: st)) := by
  subst hp; exact own_go (fun _ q => XS.iand X.here hx rfl (hb hby hd) rfl q) k
theorem g_ior (X : Stand p l e R s m args below meth c T locs cells slots) (hx : p.tables.exec = Jvm.exec) (hby : c.code = bytes) {x y : Int32} (hd : decode bytes pc = .ok (.ior, 1))  (hp : pc + 1 = pc')
    (k : own_Got p e below P T (mkF m pc' ls (.int (x ||| y) :: st))) : own_Got p e below P T (mkF m pc ls (.int y :: .int x :: st)) := by
  subst hp; exact own_go (fun _ q => XS.ior X.here hx rfl (hb hby hd) rfl q) k
theorem g_imul (X : Stand p l e R s m args below meth c T locs cells slots) (hx : p.tables.exec = Jvm.exec) (hby : c.code = bytes) {x y : Int32} (hd : decode bytes pc = .ok (.imul, 1))  (hp : pc + 1 = pc')
    (k : own_Got p e below P T (mkF m pc' ls (.int (x * y) :: st))) : own_Got p e below P T (mkF m pc ls (.int y :: .int x :: st)) := by
  subst hp; exact own_go (fun _ q => XS.imul X.here hx rfl (hb hby hd) rfl q) k
theorem g_irem (X : Stand p l e R s m args below meth c T locs cells slots) (hx : p.tables.exec = Jvm.exec) (hby : c.code = bytes) {x y : Int32} (hd : decode bytes pc = .ok (.irem, 1)) (hy : y ≠ 0) (hp : pc + 1 = pc')
    (k : own_Got p e below P T (mkF m pc' ls (.int (x % y) :: st))) : own_Got p e below P T (mkF m pc ls (.int y :: .int x :: st)) := by
  subst hp; exact own_go (fun _ q => iremM X hx rfl (hb hby hd) rfl hy q) k
theorem g_ishl (X : Stand p l e R s m args below meth c T locs cells slots) (hx : p.tables.exec = Jvm.exec) (hby : c.code = bytes) {x y : Int32} (hd : decode bytes pc = .ok (.ishl, 1))  (hp : pc + 1 = pc')
    (k : own_Got p e below P T (mkF m pc' ls (.int (x <<< (y &&& 31)) :: st))) : own_Got p e below P T (mkF m pc ls (.int y :: .int x :: st)) := by
  subst hp; exact own_go (fun _ q => XS.ishl X.here hx rfl (hb hby hd) rfl q) k
theorem g_ishr (X : Stand p l e R s m args below meth c T locs cells slots) (hx : p.tables.exec = Jvm.exec) (hby : c.code = bytes) {x y : Int32} (hd : decode bytes pc = .ok (.ishr, 1))  (hp : pc + 1 = pc')
    (k : own_Got p e below P T (mkF m pc' ls (.int (x >>> (y &&& 31)) :: st))) : own_Got p e below P T (mkF m pc ls (.int y :: .int x :: st)) := by
  subst hp; exact own_go (fun _ q => XS.ishr X.here hx rfl (hb hby hd) rfl q) k
theorem g_iushr (X : Stand p l e R s m args below meth c T locs cells slots) (hx : p.tables.exec = Jvm.exec) (hby : c.code = bytes) {x y : Int32} (hd : decode bytes pc = .ok (.iushr, 1))  (hp : pc + 1 = pc')
    (k : own_Got p e below P T (mkF m pc' ls (.int ((x.toUInt32 >>> (y &&& 31).toUInt32).toInt32) :: st))) : own_Got p e below P T (mkF m pc ls (.int y :: .int x :: st)) := by
  subst hp; exact own_go (fun _ q => XS.iushr X.here hx rfl (hb hby hd) rfl q) k
theorem g_i2b (X : Stand p l e R s m args below meth c T locs cells slots) (hx : p.tables.exec = Jvm.exec) (hby : c.code = bytes) {x : Int32} (hd : decode bytes pc = .ok (.i2b, 1))  (hp : pc + 1 = pc')
    (k : own_Got p e below P T (mkF m pc' ls (.int x.toInt8.toInt32 :: st))) : own_Got p e below P T (mkF m pc ls (.int x :: st)) := by
  subst hp; exact own_go (fun _ q => XS.i2b X.here hx rfl (hb hby hd) rfl q) k
theorem g_i2c (X : Stand p l e R s m args below meth c T locs cells slots) (hx : p.tables.exec = Jvm.exec) (hby : c.code = bytes) {x : Int32} (hd : decode bytes pc = .ok (.i2c, 1))  (hp : pc + 1 = pc')
    (k : own_Got p e below P T (mkF m pc' ls (.int x.toUInt32.toUInt16.toUInt32.toInt32 :: st))) : own_Got p e below P T (mkF m pc ls (.int x :: st)) := by
  subst hp; exact own_go (fun _ q => XS.i2c X.here hx rfl (hb hby hd) rfl q) k
theorem g_iinc (X : Stand p l e R s m args below meth c T locs cells slots) (hx : p.tables.exec = Jvm.exec) (hby : c.code = bytes) {k : Nat} {cst : Int} {x : Int32} (ls' : Array Slot) (hd : decode bytes pc = .ok (.iinc k cst, 3)) (hl : ls[k]? = some (.val (.int x))) (hl' : storeLocals ls k (.int (x + Int32.ofInt cst)) = some ls') (hp : pc + 3 = pc')
    (k : own_Got p e below P T (mkF m pc' ls' (st))) : own_Got p e below P T (mkF m pc ls (st)) := by
  subst hp; exact own_go (fun _ q => XS.iinc X.here hx rfl (hb hby hd) hl hl' q) k
theorem g_dup (X : Stand p l e R s m args below meth c T locs cells slots) (hx : p.tables.exec = Jvm.exec) (hby : c.code = bytes) {x : Value} (hd : decode bytes pc = .ok (.dup, 1)) (hc : x.category = 1) (hp : pc + 1 = pc')
    (k : own_Got p e below P T (mkF m pc' ls (x :: x :: st))) : own_Got p e below P T (mkF m pc ls (x :: st)) := by
  subst hp; exact own_go (fun _ q => XS.dup X.here hx rfl (hb hby hd) rfl hc q) k
theorem g_pop (X : Stand p l e R s m args below meth c T locs cells slots) (hx : p.tables.exec = Jvm.exec) (hby : c.code = bytes) {x : Value} (hd : decode bytes pc = .ok (.pop, 1)) (hc : x.category = 1) (hp : pc + 1 = pc')
    (k : own_Got p e below P T (mkF m pc' ls (st))) : own_Got p e below P T (mkF m pc ls (x :: st)) := by
  subst hp; exact own_go (fun _ q => XS.pop X.here hx rfl (hb hby hd) rfl hc q) k
theorem g_goto (X : Stand p l e R s m args below meth c T locs cells slots) (hx : p.tables.exec = Jvm.exec) (hby : c.code = bytes) {o : Int} (hd : decode bytes pc = .ok (.goto o, 3))  (ho : 0 ≤ (pc : Int) + o) (hp : ((pc : Int) + o).toNat = pc')
    (k : own_Got p e below P T (mkF m pc' ls (st))) : own_Got p e below P T (mkF m pc ls (st)) := by
  exact own_go (fun _ q => XS.goto X.here hx rfl rfl (hb hby hd) ho hp q) k
theorem g_ifT (X : Stand p l e R s m args below meth c T locs cells slots) (hx : p.tables.exec = Jvm.exec) (hby : c.code = bytes) {cd : ClassFile.Cond} {x : Int32} {o : Int} (hd : decode bytes pc = .ok (.ifCond cd o, 3)) (hc : ifCond.holds cd x = true) (ho : 0 ≤ (pc : Int) + o) (hp : ((pc : Int) + o).toNat = pc')
    (k : own_Got p e below P T (mkF m pc' ls (st))) : own_Got p e below P T (mkF m pc ls (.int x :: st)) := by
  exact own_go (fun _ q => XS.ifYes X.here hx rfl rfl (hb hby hd) rfl hc ho hp q) k
theorem g_icT (X : Stand p l e R s m args below meth c T locs cells slots) (hx : p.tables.exec = Jvm.exec) (hby : c.code = bytes) {cd : ClassFile.Cond} {x y : Int32} {o : Int} (hd : decode bytes pc = .ok (.if_icmp cd o, 3)) (hc : if_icmp.holds cd x y = true) (ho : 0 ≤ (pc : Int) + o) (hp : ((pc : Int) + o).toNat = pc')
    (k : own_Got p e below P T (mkF m pc' ls (st))) : own_Got p e below P T (mkF m pc ls (.int y :: .int x :: st)) := by
  exact own_go (fun _ q => XS.icmpYes X.here hx rfl rfl (hb hby hd) rfl hc ho hp q) k
theorem g_ifF (X : Stand p l e R s m args below meth c T locs cells slots) (hx : p.tables.exec = Jvm.exec) (hby : c.code = bytes) {cd : ClassFile.Cond} {o : Int} {x : Int32} (hd : decode bytes pc = .ok (.ifCond cd o, 3)) (hc : ifCond.holds cd x = false) (hp : pc + 3 = pc')
    (k : own_Got p e below P T (mkF m pc' ls (st))) : own_Got p e below P T (mkF m pc ls (.int x :: st)) := by
  subst hp; exact own_go (fun _ q => XS.ifNo X.here hx rfl (hb hby hd) rfl hc q) k
theorem g_icF (X : Stand p l e R s m args below meth c T locs cells slots) (hx : p.tables.exec = Jvm.exec) (hby : c.code = bytes) {cd : ClassFile.Cond} {o : Int} {x y : Int32} (hd : decode bytes pc = .ok (.if_icmp cd o, 3)) (hc : if_icmp.holds cd x y = false) (hp : pc + 3 = pc')
    (k : own_Got p e below P T (mkF m pc' ls (st))) : own_Got p e below P T (mkF m pc ls (.int y :: .int x :: st)) := by
  subst hp; exact own_go (fun _ q => XS.icmpNo X.here hx rfl (hb hby hd) rfl hc q) k
theorem g_ldcI (X : Stand p l e R s m args below meth c T locs cells slots) (hx : p.tables.exec = Jvm.exec) (hby : c.code = bytes) (hZ : Z.Warmed39 s.vm) {own : String} {index : Nat} {v : Int32} (hown : s.vm.findClass own = some m.cls) (w : (Cond.constant own index v).before a0 Z = true) (hd : decode bytes pc = .ok (.ldc index, 2)) (hp : pc + 2 = pc')
    (k : own_Got p e below P T (mkF m pc' ls (.int v :: st))) : own_Got p e below P T (mkF m pc ls st) := by
  subst hp; exact own_go (X.ldcInt hx hown (mvT hZ w) rfl (hb hby hd)) k
theorem g_alen (X : Stand p l e R s m args below meth c T locs cells slots) (hx : p.tables.exec = Jvm.exec) (hby : c.code = bytes) (hZ : Z.Warmed39 s.vm) (eT : T.heap = h) {a : Addr} {kk : ClassId} {ty : FieldType} {n : Int32} {vs : List Value} {d : Value} (F : Arv Z h a kk ty n vs d) (hd : decode bytes pc = .ok (.arraylength, 1)) (hp : pc + 1 = pc')
    (k : own_Got p e below P T (mkF m pc' ls (.int n :: st))) : own_Got p e below P T (mkF m pc ls (.ref a :: st)) := by
  subst hp
  obtain ⟨cl, Ar, -, S, N, -, -⟩ := F
  refine own_go (fun t q => X.arraylength hx (by rw [eT]; exact Ar.1) (State.isArrayOf_alike hZ.alike Ar.2.1) (g := mkF m pc ls (.ref a :: st)) rfl rfl (hb hby hd) t q) ?_
  rw [len_of S N]; exact k
theorem g_iaload (X : Stand p l e R s m args below meth c T locs cells slots) (hx : p.tables.exec = Jvm.exec) (hby : c.code = bytes) (hZ : Z.Warmed39 s.vm) (eT : T.heap = h) {a : Addr} {kk : ClassId} {n : Int32} {vs : List Value} {d v : Value} {j : Int32} (F : Arv Z h a kk .int n vs d) (hj : ¬ j < 0 ∧ j < n) (hv : vs.getD j.toNatClampNeg d = v) (hd : decode bytes pc = .ok (.iaload, 1)) (hp : pc + 1 = pc')
    (k : own_Got p e below P T (mkF m pc' ls (v :: st))) : own_Got p e below P T (mkF m pc ls (.int j :: .ref a :: st)) := by
  subst hp
  obtain ⟨cl, Ar, -, S, N, H, -⟩ := F
  exact own_go (fun t q => X.iaload hx (by rw [eT]; exact Ar.1) (State.isArrayOf_alike hZ.alike Ar.2.1) Ar.2.2 (inb_of S hj) (H.at (inb_of S hj) hv) (g := mkF m pc ls (.int j :: .ref a :: st)) rfl rfl (hb hby hd) t q) k
theorem g_caload (X : Stand p l e R s m args below meth c T locs cells slots) (hx : p.tables.exec = Jvm.exec) (hby : c.code = bytes) (hZ : Z.Warmed39 s.vm) (eT : T.heap = h) {a : Addr} {kk : ClassId} {n : Int32} {vs : List Value} {d v : Value} {j : Int32} (F : Arv Z h a kk .char n vs d) (hj : ¬ j < 0 ∧ j < n) (hv : vs.getD j.toNatClampNeg d = v) (hd : decode bytes pc = .ok (.caload, 1)) (hp : pc + 1 = pc')
    (k : own_Got p e below P T (mkF m pc' ls (v :: st))) : own_Got p e below P T (mkF m pc ls (.int j :: .ref a :: st)) := by
  subst hp
  obtain ⟨cl, Ar, -, S, N, H, -⟩ := F
  exact own_go (fun t q => X.caload hx (by rw [eT]; exact Ar.1) (State.isArrayOf_alike hZ.alike Ar.2.1) Ar.2.2 (inb_of S hj) (H.at (inb_of S hj) hv) (g := mkF m pc ls (.int j :: .ref a :: st)) rfl rfl (hb hby hd) t q) k
theorem g_baload (X : Stand p l e R s m args below meth c T locs cells slots) (hx : p.tables.exec = Jvm.exec) (hby : c.code = bytes) (hZ : Z.Warmed39 s.vm) (eT : T.heap = h) {a : Addr} {kk : ClassId} {n : Int32} {vs : List Value} {d v : Value} {j : Int32} (F : Arv Z h a kk .byte n vs d) (hj : ¬ j < 0 ∧ j < n) (hv : vs.getD j.toNatClampNeg d = v) (hd : decode bytes pc = .ok (.baload, 1)) (hp : pc + 1 = pc')
    (k : own_Got p e below P T (mkF m pc' ls (v :: st))) : own_Got p e below P T (mkF m pc ls (.int j :: .ref a :: st)) := by
  subst hp
  obtain ⟨cl, Ar, -, S, N, H, -⟩ := F
  exact own_go (fun t q => X.baloadBytes hx (by rw [eT]; exact Ar.1) (State.isArrayOf_alike hZ.alike Ar.2.1) Ar.2.2 (inb_of S hj) (H.at (inb_of S hj) hv) (g := mkF m pc ls (.int j :: .ref a :: st)) rfl rfl (hb hby hd) t q) k
theorem a_iastore (X : Stand p l e R s m args below meth c T locs cells slots) (hx : p.tables.exec = Jvm.exec) (hby : c.code = bytes) (hZ : Z.Warmed39 s.vm) (eT : T.heap = h) {a : Addr} {kk : ClassId} {n : Int32} {vs : List Value} {d : Value} {j : Int32} (x : Int32) (i : Nat) (F : Arv Z h a kk .int n vs d) (hj : ¬ j < 0 ∧ j < n) (hi : j.toNatClampNeg = i) (hl : i < vs.length) (hd : decode bytes pc = .ok (.iastore, 1)) :
    ∃ T' h', Stand p l e R s m args below meth c T' (locs ++ [⟨a, j.toNatClampNeg⟩]) cells slots ∧ T'.heap = h' ∧ Wr h h' a j.toNatClampNeg (.int x) ∧ Arv Z h' a kk .int n (vs.set i (.int x)) d ∧ ∀ t, Steps p.tables e below (T'.setTop (mkF m (pc + 1) ls st)) t → Steps p.tables e below (T.setTop (mkF m pc ls (.int x :: .int j :: .ref a :: st))) t := by
  obtain ⟨cl, Ar, q1, S, N, H, Gf⟩ := F
  obtain ⟨T', h', X', e', W, k⟩ := stI X hx hZ eT Ar (j := j) (inb_of S hj) (g := mkF m pc ls (.int x :: .int j :: .ref a :: st)) rfl rfl (hb hby hd)
  exact ⟨T', h', X', e', W, Arv.set Ar q1 S N H Gf (rfl) W i hi hl, k⟩
theorem a_castore (X : Stand p l e R s m args below meth c T locs cells slots) (hx : p.tables.exec = Jvm.exec) (hby : c.code = bytes) (hZ : Z.Warmed39 s.vm) (eT : T.heap = h) {a : Addr} {kk : ClassId} {n : Int32} {vs : List Value} {d : Value} {j : Int32} (x : Int32) (i : Nat) (F : Arv Z h a kk .char n vs d) (hj : ¬ j < 0 ∧ j < n) (hi : j.toNatClampNeg = i) (hl : i < vs.length) (hd : decode bytes pc = .ok (.castore, 1)) :
    ∃ T' h', Stand p l e R s m args below meth c T' (locs ++ [⟨a, j.toNatClampNeg⟩]) cells slots ∧ T'.heap = h' ∧ Wr h h' a j.toNatClampNeg (.int (nar .char x)) ∧ Arv Z h' a kk .char n (vs.set i (.int (nar .char x))) d ∧ ∀ t, Steps p.tables e below (T'.setTop (mkF m (pc + 1) ls st)) t → Steps p.tables e below (T.setTop (mkF m pc ls (.int x :: .int j :: .ref a :: st))) t := by
  obtain ⟨cl, Ar, q1, S, N, H, Gf⟩ := F
  obtain ⟨T', h', X', e', W, k⟩ := stC X hx hZ eT Ar (j := j) (inb_of S hj) (g := mkF m pc ls (.int x :: .int j :: .ref a :: st)) rfl rfl (hb hby hd)
  exact ⟨T', h', X', e', W, Arv.set Ar q1 S N H Gf (fits_nar_char _) W i hi hl, k⟩
theorem a_bastore (X : Stand p l e R s m args below meth c T locs cells slots) (hx : p.tables.exec = Jvm.exec) (hby : c.code = bytes) (hZ : Z.Warmed39 s.vm) (eT : T.heap = h) {a : Addr} {kk : ClassId} {n : Int32} {vs : List Value} {d : Value} {j : Int32} (x : Int32) (i : Nat) (F : Arv Z h a kk .byte n vs d) (hj : ¬ j < 0 ∧ j < n) (hi : j.toNatClampNeg = i) (hl : i < vs.length) (hd : decode bytes pc = .ok (.bastore, 1)) :
    ∃ T' h', Stand p l e R s m args below meth c T' (locs ++ [⟨a, j.toNatClampNeg⟩]) cells slots ∧ T'.heap = h' ∧ Wr h h' a j.toNatClampNeg (.int (nar .byte x)) ∧ Arv Z h' a kk .byte n (vs.set i (.int (nar .byte x))) d ∧ ∀ t, Steps p.tables e below (T'.setTop (mkF m (pc + 1) ls st)) t → Steps p.tables e below (T.setTop (mkF m pc ls (.int x :: .int j :: .ref a :: st))) t := by
  obtain ⟨cl, Ar, q1, S, N, H, Gf⟩ := F
  obtain ⟨T', h', X', e', W, k⟩ := stB X hx hZ eT Ar (j := j) (inb_of S hj) (g := mkF m pc ls (.int x :: .int j :: .ref a :: st)) rfl rfl (hb hby hd)
  exact ⟨T', h', X', e', W, Arv.set Ar q1 S N H Gf (fits_nar_byte _) W i hi hl, k⟩
theorem own_stakeep {C n d : String} {v : Value} {K : String} {a : Addr} (F : Sta Z h C n d v) (k : Keep h h' [a]) (E : Exa Z h a K) : Sta Z h' C n d v := by
  obtain ⟨cf, i, kk, f, st, cell, h1, h2, h3, h4, h5, h6, h7⟩ := F
  refine ⟨cf, i, kk, f, st, cell, h1, h2, h3, h4, k.2.1 _ _ h5 (fun q => ?_), h6, h7⟩
  obtain ⟨c2, k2, g1, -, -, g4, -⟩ := E
  cases List.mem_singleton.mp q
  cases h5.symm.trans g1
  rw [g4] at h6; cases h6
theorem own_stakeep0 {C n d : String} {v : Value} (F : Sta Z h C n d v) (k : Keep h h' []) : Sta Z h' C n d v := by
  obtain ⟨cf, i, kk, f, st, cell, h1, h2, h3, h4, h5, h6, h7⟩ := F
  exact ⟨cf, i, kk, f, st, cell, h1, h2, h3, h4, k.2.1 _ _ h5 nin0, h6, h7⟩
theorem own_eqI {t : Term} {first : State} {o : Option Outcome} {idx : List Nat} {z : Int32} (hq : (Cond.eq t (.int z)).value args first o s idx = some true) : t.eval args first o idx s = some (.int z) := by
  obtain ⟨x, y, hx, hy, kk, -⟩ := cmp_v (Or.inl hq)
  have hy' : y = .int z := Option.some.inj (hy.symm.trans rfl)
  subst hy'
  cases x with
  | int x => simp only [Cond.value, hx, hy] at hq; simp at hq; rw [hx, hq]
  | _ => simp [Kin, Value.isRef] at kk
theorem own_nb (x : Int32) : nar .byte (x.toInt8.toInt32) = x.toInt8.toInt32 := by
  show (x.toInt8.toInt32).toInt8.toInt32 = x.toInt8.toInt32
  simp
theorem own_nc (x : Int32) : nar .char (x.toUInt32.toUInt16.toUInt32.toInt32) = x.toUInt32.toUInt16.toUInt32.toInt32 := by
  show (x.toUInt32.toUInt16.toUInt32.toInt32).toUInt32.toUInt16.toUInt32.toInt32 = _
  have q : ∀ u : UInt16, u.toUInt32.toInt32.toUInt32.toUInt16 = u := fun u => by simp
  rw [q]
end OwnKit
theorem own_M {d : Cond} (i : Nat) (h : tables_1[i]? = some d) : d ∈ tables_1 := List.mem_of_getElem? h
abbrev mN0 : MethodName := (⟨"com/example/lexsign/lexsign/json/JsonString", "<init>", "(Ljava/lang/String;II)V"⟩ : MethodName)
abbrev mN1 : MethodName := (⟨"com/example/lexsign/lexsign/json/JsonString", "hashCode", "()I"⟩ : MethodName)
abbrev mN2 : MethodName := (⟨"com/example/lexsign/lexsign/json/TextSpan", "<init>", "(Ljava/lang/String;II)V"⟩ : MethodName)
abbrev mN3 : MethodName := (⟨"com/example/lexsign/lexsign/json/TextSpan", "hashCode", "()I"⟩ : MethodName)
abbrev mN4 : MethodName := (⟨"com/example/lexsign/lexsign/json/TextSpanHashCodePinLaw", "term", "([C[IIII)I"⟩ : MethodName)
abbrev mN5 : MethodName := (⟨"java/lang/String", "<init>", "([C)V"⟩ : MethodName)
abbrev mN6 : MethodName := (⟨"java/lang/String", "<init>", "([CIILjava/lang/Void;)V"⟩ : MethodName)
abbrev mN7 : MethodName := (⟨"java/lang/String", "charAt", "(I)C"⟩ : MethodName)
abbrev mN8 : MethodName := (⟨"java/lang/String", "checkIndex", "(II)V"⟩ : MethodName)
abbrev mN9 : MethodName := (⟨"java/lang/String", "coder", "()B"⟩ : MethodName)
abbrev mN10 : MethodName := (⟨"java/lang/String", "isLatin1", "()Z"⟩ : MethodName)
abbrev mN11 : MethodName := (⟨"java/lang/String", "length", "()I"⟩ : MethodName)
abbrev mN12 : MethodName := (⟨"java/lang/StringLatin1", "charAt", "([BI)C"⟩ : MethodName)
abbrev mN13 : MethodName := (⟨"java/lang/StringUTF16", "charAt", "([BI)C"⟩ : MethodName)
abbrev mN14 : MethodName := (⟨"java/lang/StringUTF16", "checkIndex", "(I[B)V"⟩ : MethodName)
abbrev mN15 : MethodName := (⟨"java/lang/StringUTF16", "coderFromArrayLen", "([BI)B"⟩ : MethodName)
abbrev mN16 : MethodName := (⟨"java/lang/StringUTF16", "compress", "([CII)[B"⟩ : MethodName)
abbrev mN17 : MethodName := (⟨"java/lang/StringUTF16", "compress", "([CI[BII)I"⟩ : MethodName)
abbrev mN18 : MethodName := (⟨"java/lang/StringUTF16", "getChar", "([BI)C"⟩ : MethodName)
abbrev mN19 : MethodName := (⟨"java/lang/StringUTF16", "length", "([B)I"⟩ : MethodName)
abbrev mN20 : MethodName := (⟨"java/lang/StringUTF16", "newBytesFor", "(I)[B"⟩ : MethodName)
abbrev mN21 : MethodName := (⟨"java/lang/StringUTF16", "newBytesLength", "(I)I"⟩ : MethodName)
abbrev mN22 : MethodName := (⟨"java/lang/StringUTF16", "putChar", "([BII)V"⟩ : MethodName)
abbrev mN23 : MethodName := (⟨"java/lang/StringUTF16", "toBytes", "([CII)[B"⟩ : MethodName)
abbrev mN24 : MethodName := (⟨"java/util/Objects", "checkFromToIndex", "(III)I"⟩ : MethodName)
abbrev mN25 : MethodName := (⟨"jdk/internal/util/Preconditions", "checkFromToIndex", "(IIILjava/util/function/BiFunction;)I"⟩ : MethodName)
abbrev mN26 : MethodName := (⟨"jdk/internal/util/Preconditions", "checkIndex", "(IILjava/util/function/BiFunction;)I"⟩ : MethodName)
section OwnSuper
section
variable {Q : Unit → Pre} {E : CtlPost} {e : Env} {d : Bool} {acts : List Action} {s : State} {f : JFrame}
/-- invokespecial of a method that the named class itself declares, the named class being the superclass: whatever kind of entry names it -/
theorem own_spReady {index ci a nt : Nat} {r0 : MethodId} {ck nk : Class} {cf : ClassFile} {r : Method} {args rest : List Value} {cell : Cell} {kcell : Class}
    (hs : s.topJava?.isSome) (hr : s.vm.methodReady f.method.cls index r0) (hrm : s.vm.method? r0 = some r) (hck : s.vm.classes[f.method.cls]? = some ck) (hcf : ck.cf = some cf)
    (hc : cf.constantPool[index]? = some (.methodref ci nt) ∨ cf.constantPool[index]? = some (.interfaceMethodref ci nt)) (hnamed : s.vm.classReady f.method.cls ci r0.cls) (hnk : s.vm.classes[r0.cls]? = some nk)
    (hstatic : r.isStatic = false) (hsup : ck.super.getD r0.cls = r0.cls) (hfound : lookupSpecial s.vm r0.cls r.name r.desc = .method r0) (hi : ck.isInterface = false) (habs : r.isAbstract = false)
    (hlen : args.length = r.sig.parameters.length) (hstack : f.stack = args.reverse ++ .ref a :: rest) (hcell : s.heap[a]? = some cell) (hobj : ∀ c, cell.vm ≠ .statics c) (hkcell : s.vm.classes[cell.cls]? = some kcell) :
    wp (invokespecial.sem index) Q E e d acts (s.setTop f) ↔ E (.invoke r0 (.ref a :: args).toArray) acts (s.setTop { f with stack := rest }) := by
  have hm := State.method?_setTop f hs
  rcases hc with hc | hc
  · exact invokespecial.wp_ready (named := r0.cls) hs hr hrm hck hcf hc hnamed hnk (by simp) hstatic (by rw [hsup, ite_self]; exact hfound) rfl (Or.inr (Or.inl hi)) hrm hnk habs hlen hstack hcell hobj hkcell
  · simp [invokespecial.sem, W.resolveMethodAt_ready hm hr, W.resolveClassAt_ready hm hnamed, Jvm.refClassAt, Jvm.constantAt, Jvm.popArgs, hm, hs, hrm, hck, hcf, hc, hnk, hstatic, hsup, hfound, hi, habs, hcell, hobj, hkcell, ← hlen, popN_top hs hstack]
end
variable {p : Program} {l : Launch} {e : Env} {R : Room} {s : State} {m : MethodId} {args : Array Value} {below : List Frame} {meth : Method} {c : Code} {T : State} {locs : List Loc} {cells slots : Nat} {Z : State} {a0 : Array Value} {h : Heap}
/-- super.y(..) where the superclass itself declares y: no word on whether the pool's entry is an interface's -/
theorem own_superBack (X : Stand p l e R s m args below meth c T locs cells slots) (hx : p.tables.exec = Jvm.exec) (hZ : Z.Warmed39 s.vm) {own K : String} {index : Nat} {y : MethodName} (hown : s.vm.findClass own = some m.cls) (w1 : (Cond.methodLink own index y).before a0 Z = true)
    (w3 : (Cond.instanceMethod y).before a0 Z = true) (w4 : (Cond.superclass own y.cls).before a0 Z = true) (hn : y.name ≠ "<init>") (hnot : y.cls ≠ "java/lang/invoke/MethodHandle" ∧ y.cls ≠ "java/lang/invoke/VarHandle") {W : Nat} {Pre : Pt → Array Value → Prop} {Post : Pt → Array Value → Option Value → Pt → Prop} (hK : Back l R p e below s args y 3 W Pre Post)
    (eT : T.heap = h) {a : Addr} (F : Ins Z h a K true) {g : JFrame} (hg : g.method = m) (hsize : g.locals.size = c.maxLocals) {bytes : ByteArray} {maxL : Nat} {ret : Option FieldType} (wc : (Cond.code y bytes maxL ret).before a0 Z = true) {argsL rest : List Value}
    (hlen : ∀ sig, parseMethodDescriptor y.desc = some sig → argsL.length = sig.parameters.length) (hstack : g.stack = argsL.reverse ++ .ref a :: rest) (hW : 2 * g.monitorRoom + (rest.map fun v => v.category).sum ≤ W)
    (hdg : decode c.code g.pc = .ok (.invokespecial index, 3)) (hpre : ∀ vm₁, s.WarmedH vm₁ → Pre ⟨T.setVm vm₁, locs, cells, slots⟩ (.ref a :: argsL).toArray) :
    ∃ (v : Option Value) (vm₁ : Vm) (B : Pt), s.WarmedH vm₁ ∧ Stand p l e R s m args below meth c B.U B.locs B.cells B.slots ∧ Post ⟨T.setVm vm₁, locs, cells, slots⟩ (.ref a :: argsL).toArray v B ∧
      Steps p.tables e below (T.setTop g) (B.U.setTop { g with pc := g.pc + 3, stack := v.toList ++ rest }) := by
  have hpl : e.platform.magicAccessors = ({} : Platform).magicAccessors := by rw [X.admits.platform]
  obtain ⟨mk, methM, hnamed, hmethM, hstM, habM⟩ := Cond.instanceMethod_spec (mv (args := args) hZ w3)
  obtain ⟨m2, cM, q1, -, -, -, -, -, -, hsig⟩ := Cond.code_spec hnamed (mv (args := args) hZ wc)
  cases hmethM.symm.trans q1
  have hcn := findClass_of_methodNamed hnamed
  obtain ⟨cn, dk, kp, hcn', hdk, hkp, hsuper, -, -, hnid⟩ := Cond.superclass_spec hown (mv (args := args) hZ w4)
  cases hcn'.symm.trans hcn
  obtain ⟨hnameM, hdescM⟩ := name_of_methodNamed hnamed hmethM
  obtain ⟨kO, hkO, hnameO⟩ := className_of_methodNamed hnamed
  obtain ⟨cell, cT, h1, h2, h3⟩ := F
  simp only [Bool.and_eq_true, Bool.not_eq_true'] at h3
  obtain ⟨k, hk⟩ := Vm.classAt_of_assignable h3.2 (Vm.classAt_of_findClass h2)
  obtain ⟨k', hk', -⟩ := hZ.alike.2.2 _ _ hk
  obtain ⟨ci, hl, hright⟩ := Cond.methodLink_spec hown hnamed (mv (args := args) hZ w1) e.platform hpl
  have hE : s.MethodEntry e T.vm m.cls index mk ci := State.methodEntry X.warmed hl hright fun k hk => by
    cases hkO.symm.trans hk
    rw [hnameO]; exact hnot
  obtain ⟨dk', cf, nt, _, _, via, _, _, hd', hcf, hcp, -⟩ := hl.here
  cases hdk.symm.trans hd'
  have hcp' : cf.constantPool[index]? = some (.methodref ci nt) ∨ cf.constantPool[index]? = some (.interfaceMethodref ci nt) := by
    cases via
    · exact Or.inl (by simpa using hcp)
    · exact Or.inr (by simpa using hcp)
  have hwarm := hE.warmed
  have hreadyM := hE.ready
  have hreadyC := hE.classReady
  subst hg
  generalize hvm₂ : T.vm.called g.method.cls ci index mk = vm₂ at hwarm hreadyM hreadyC
  obtain ⟨dk₂, hdk₂, hed₂⟩ := hwarm.alike.2.2 _ _ hdk
  obtain ⟨kO₂, hkO₂, heO₂⟩ := hwarm.alike.2.2 _ _ hkO
  obtain ⟨kc₂, hkc₂, hec₂⟩ := hwarm.alike.2.2 _ _ hk'
  have hm₂ : vm₂.method? mk = some methM := by rw [hwarm.alike.method?]; exact hmethM
  have hfound : lookupSpecial vm₂ mk.cls methM.name methM.desc = .method mk := by
    rw [hwarm.alike.lookupSpecial, hdescM, hnameM]; exact lookupSpecial_of_named hnamed hmethM hstM
  have X₁ := X.noted hwarm
  have hstep₁ : ∀ target, Steps p.tables e below (doInvoke e ((T.setVm vm₂).setTop { g with stack := rest }) [] mk (.ref a :: argsL).toArray).1 target → Steps p.tables e below (T.setTop g) target := fun target hrest => by
    jvm_step X.here [hx, hdg, invokespecial.wp_cold (e := e) (s := T) (s₀ := s) (f := g) (meth := methM) X.here.top hE hdk hcf hcp' hmethM, hvm₂,
      own_spReady (e := e) (s := T.setVm vm₂) (index := index) (ci := ci) (nt := nt) (a := a) (r0 := mk) (ck := dk₂) (nk := kO₂) (cf := cf) (r := methM) (args := argsL) (rest := rest) (cell := cell) (kcell := kc₂) (f := g)
        X₁.here.top hreadyM hm₂ hdk₂ (by rw [hed₂]; exact hcf) hcp' hreadyC hkO₂ hstM (by rw [hed₂]; show dk.super.getD mk.cls = _; rw [hsuper]; rfl) hfound (by rw [hed₂]; exact hnid) habM (hlen _ hsig) hstack (by show T.heap[a]? = _; rw [eT]; exact h1) (fun q e => by rw [e] at h3; cases h3.1) hkc₂]
    intro acts1
    rw [doInvoke_state]
    exact hrest
  obtain ⟨v, B, X', hpost, hsteps⟩ := hK g.method meth c ⟨T.setVm vm₂, locs, cells, slots⟩ { g with stack := rest } (.invokespecial index) mk (.ref a :: argsL).toArray X₁ rfl hsize hdg hW (X₁.named hnamed) (hpre vm₂ X₁.warmed)
  exact ⟨v, vm₂, B, X₁.warmed, X', hpost, hstep₁ _ hsteps⟩
end OwnSuper

def own_chr (c : Int32) : Prop := ∃ u : UInt16, c = u.toUInt32.toInt32
theorem own_ncc (u : UInt16) : nar .char u.toUInt32.toInt32 = u.toUInt32.toInt32 := by
  show (u.toUInt32.toInt32).toUInt32.toUInt16.toUInt32.toInt32 = _
  have q : ∀ u : UInt16, u.toUInt32.toInt32.toUInt32.toUInt16 = u := fun u => by simp
  rw [q]
theorem own_b255 (x : Int32) : x.toInt8.toInt32 &&& 255 = x &&& 255 := by
  apply Int32.toBitVec_inj.mp
  simp only [Int32.toBitVec_and, Int8.toBitVec_toInt32, Int32.toBitVec_toInt8]
  apply BitVec.eq_of_getLsbD_eq
  intro i hi
  have e : (255 : Int32).toBitVec = BitVec.ofNat 32 (2 ^ 8 - 1) := by decide
  rw [e]
  simp only [BitVec.getLsbD_and, BitVec.getLsbD_ofNat, Nat.testBit_two_pow_sub_one, BitVec.getLsbD_signExtend, BitVec.getLsbD_setWidth]
  by_cases h : i < 8 <;> simp [h, hi]
theorem own_m255 : ∀ (j : Fin 32), (255#32)[j.val] = decide (j.val < 8) := by decide +kernel
theorem own_g16 (u : UInt16) : ((((u.toUInt32.toInt32 >>> ((0 : Int32) &&& 31)).toInt8.toInt32 &&& (255 : Int32)) <<< ((0 : Int32) &&& 31)) ||| (((u.toUInt32.toInt32 >>> ((8 : Int32) &&& 31)).toInt8.toInt32 &&& (255 : Int32)) <<< ((8 : Int32) &&& 31))) = u.toUInt32.toInt32 := by
  rw [own_b255, own_b255]
  apply Int32.toBitVec_inj.mp
  apply BitVec.eq_of_getLsbD_eq
  intro i hi
  have e : (255 : Int32).toBitVec = BitVec.ofNat 32 (2 ^ 8 - 1) := by decide
  have e0 : ((0 : Int32) &&& 31) = 0 := by decide
  have e8 : ((8 : Int32) &&& 31) = 8 := by decide
  have s0 : BitVec.smod (0 : Int32).toBitVec 32 = BitVec.ofNat 32 0 := by decide
  have s8 : BitVec.smod (8 : Int32).toBitVec 32 = BitVec.ofNat 32 8 := by decide
  rw [e0, e8]
  simp only [Int32.toBitVec_or, Int32.toBitVec_shiftLeft, Int32.toBitVec_shiftRight, Int32.toBitVec_and, e, s0, s8]
  simp [BitVec.getLsbD_or, BitVec.getLsbD_shiftLeft, BitVec.getLsbD_and, BitVec.getLsbD_sshiftRight, BitVec.getLsbD_setWidth, BitVec.getLsbD_ofNat, Nat.testBit_two_pow_sub_one, hi]
  have m : ∀ (j : Nat) (hj : j < 32), (255#32)[j] = decide (j < 8) := fun j hj => own_m255 ⟨j, hj⟩
  rw [m i hi, m (i - 8) (by omega)]
  have q : ∀ j, 16 ≤ j → u.toBitVec.getLsbD j = false := fun j hj => BitVec.getLsbD_of_ge _ _ hj
  by_cases h : i < 8
  · simp [h]
  · by_cases h2 : i < 16
    · have e1 : 8 + (i - 8) = i := by omega
      have e2 : i - 8 < 8 := by omega
      simp [h, e2, BitVec.getElem_sshiftRight, e1, hi]
    · have e2 : ¬ i - 8 < 8 := by omega
      simp [h, e2, q i (by omega)]
/-- Latin1: the byte, masked, is the char -/
theorem own_l1 (c : Int32) (h : own_chr c) (h5 : ¬ ((255 : Int32) < c)) : (c.toInt8.toInt32 &&& (255 : Int32)) = c := by
  obtain ⟨u, rfl⟩ := h
  rw [own_b255]
  apply Int32.toBitVec_inj.mp
  have h8 : u.toNat < 256 := by
    rw [Int32.lt_iff_toInt_lt] at h5
    have e : (255 : Int32).toInt = 255 := by decide
    have e2 : (u.toUInt32.toInt32).toInt = u.toNat := by
      have := u.toNat_lt
      show (u.toUInt32.toInt32.toBitVec).toInt = _
      rw [BitVec.toInt_eq_toNat_of_lt] <;> simp <;> omega
    omega
  apply BitVec.eq_of_getLsbD_eq
  intro i hi
  have m : (255#32)[i] = decide (i < 8) := own_m255 ⟨i, hi⟩
  simp [hi, m]
  intro hu
  by_cases h : i < 8
  · exact h
  · exfalso
    have : u.toBitVec.getLsbD i = false := by
      show u.toNat.testBit i = false
      exact Nat.testBit_lt_two_pow (Nat.lt_of_lt_of_le h8 (Nat.pow_le_pow_right (n := 2) (by decide) (by omega : 8 ≤ i)))
    rw [this] at hu; cases hu
theorem own_gch (c : Int32) (h : own_chr c) : nar .char (((((c >>> ((0 : Int32) &&& 31)).toInt8.toInt32 &&& (255 : Int32)) <<< ((0 : Int32) &&& 31)) ||| (((c >>> ((8 : Int32) &&& 31)).toInt8.toInt32 &&& (255 : Int32)) <<< ((8 : Int32) &&& 31))).toUInt32.toUInt16.toUInt32.toInt32) = c := by
  obtain ⟨u, rfl⟩ := h
  rw [own_g16]
  show nar .char (nar .char u.toUInt32.toInt32) = _
  rw [own_ncc, own_ncc]
theorem own_cch (c : Int32) (h : own_chr c) : nar .char c = c := by obtain ⟨u, rfl⟩ := h; exact own_ncc u
theorem own_slc (c : Int32) (h : own_chr c) (h5 : ¬ ((255 : Int32) < c)) : nar .char ((c.toInt8.toInt32 &&& (255 : Int32)).toUInt32.toUInt16.toUInt32.toInt32) = c := by
  rw [own_l1 c h h5]
  show nar .char (nar .char c) = _
  rw [own_cch c h, own_cch c h]
theorem own_getD (L : List Int32) (n : Nat) : (L.map Value.int).getD n (.int (0 : Int32)) = .int (L.getD n 0) := by
  induction L generalizing n with
  | nil => rfl
  | cons a t ih => cases n with
    | zero => rfl
    | succ n => exact ih n
def own_cn (n : Int32) (vs : List Value) (c0 c1 c2 c3 c4 : Int32) : Prop := (n = 5 ∧ vs = [(.int (c0.toInt8.toInt32)), (.int (c1.toInt8.toInt32)), (.int (c2.toInt8.toInt32)), (.int (c3.toInt8.toInt32)), (.int (c4.toInt8.toInt32))] ∧ ¬ ((255 : Int32) < c0) ∧ ¬ ((255 : Int32) < c1) ∧ ¬ ((255 : Int32) < c2) ∧ ¬ ((255 : Int32) < c3) ∧ ¬ ((255 : Int32) < c4)) ∨ (n = 10 ∧ vs = [(.int ((c0 >>> ((0 : Int32) &&& 31)).toInt8.toInt32)), (.int ((c0 >>> ((8 : Int32) &&& 31)).toInt8.toInt32)), (.int ((c1 >>> ((0 : Int32) &&& 31)).toInt8.toInt32)), (.int ((c1 >>> ((8 : Int32) &&& 31)).toInt8.toInt32)), (.int ((c2 >>> ((0 : Int32) &&& 31)).toInt8.toInt32)), (.int ((c2 >>> ((8 : Int32) &&& 31)).toInt8.toInt32)), (.int ((c3 >>> ((0 : Int32) &&& 31)).toInt8.toInt32)), (.int ((c3 >>> ((8 : Int32) &&& 31)).toInt8.toInt32)), (.int ((c4 >>> ((0 : Int32) &&& 31)).toInt8.toInt32)), (.int ((c4 >>> ((8 : Int32) &&& 31)).toInt8.toInt32))])
def own_ch (cd n : Int32) (vs : List Value) (c0 c1 c2 c3 c4 : Int32) : Prop := (cd = 0 ∧ n = 5 ∧ vs = [(.int (c0.toInt8.toInt32)), (.int (c1.toInt8.toInt32)), (.int (c2.toInt8.toInt32)), (.int (c3.toInt8.toInt32)), (.int (c4.toInt8.toInt32))] ∧ ¬ ((255 : Int32) < c0) ∧ ¬ ((255 : Int32) < c1) ∧ ¬ ((255 : Int32) < c2) ∧ ¬ ((255 : Int32) < c3) ∧ ¬ ((255 : Int32) < c4)) ∨ (cd = 1 ∧ n = 10 ∧ vs = [(.int ((c0 >>> ((0 : Int32) &&& 31)).toInt8.toInt32)), (.int ((c0 >>> ((8 : Int32) &&& 31)).toInt8.toInt32)), (.int ((c1 >>> ((0 : Int32) &&& 31)).toInt8.toInt32)), (.int ((c1 >>> ((8 : Int32) &&& 31)).toInt8.toInt32)), (.int ((c2 >>> ((0 : Int32) &&& 31)).toInt8.toInt32)), (.int ((c2 >>> ((8 : Int32) &&& 31)).toInt8.toInt32)), (.int ((c3 >>> ((0 : Int32) &&& 31)).toInt8.toInt32)), (.int ((c3 >>> ((8 : Int32) &&& 31)).toInt8.toInt32)), (.int ((c4 >>> ((0 : Int32) &&& 31)).toInt8.toInt32)), (.int ((c4 >>> ((8 : Int32) &&& 31)).toInt8.toInt32))])
def own_pw (j : Int32) : Int32 := ([1, 31, 961, 29791, 923521] : List Int32).getD j.toNatClampNeg 0
theorem own_epw (j : Int32) : ([(.int (1 : Int32)), (.int (31 : Int32)), (.int (961 : Int32)), (.int (29791 : Int32)), (.int (923521 : Int32))] : List Value).getD (j).toNatClampNeg (.int (0 : Int32)) = .int (own_pw j) := own_getD [1, 31, 961, 29791, 923521] _
def own_se (s e : Int32) : Prop := 0 ≤ s.toInt ∧ s.toInt ≤ e.toInt ∧ e.toInt ≤ 5
theorem own_ofNat (c : Int32) (h : 0 ≤ c.toInt) : c = Int32.ofNat c.toInt.toNat := by
  have hl := Int32.toInt_lt c
  apply Int32.toInt_inj.mp
  rw [Int32.toInt_ofNat_of_lt (by omega)]
  omega
theorem own_se0 {s e : Int32} (h : own_se s e) : ¬ (s < (0 : Int32)) := by
  rw [Int32.lt_iff_toInt_lt, (by decide : (0 : Int32).toInt = 0)]; have := h.1; omega
theorem own_se1 {s e : Int32} (h : own_se s e) : ¬ (e < s) := by
  rw [Int32.lt_iff_toInt_lt]; have := h.2.1; omega
theorem own_se2 {s e : Int32} (h : own_se s e) : ¬ ((5 : Int32) < e) := by
  rw [Int32.lt_iff_toInt_lt, (by decide : (5 : Int32).toInt = 5)]; have := h.2.2; omega
theorem own_in6 {s : Int32} (h0 : 0 ≤ s.toInt) (h5 : s.toInt ≤ 5) : s = 0 ∨ s = 1 ∨ s = 2 ∨ s = 3 ∨ s = 4 ∨ s = 5 := by
  have h3 : s.toInt = 0 ∨ s.toInt = 1 ∨ s.toInt = 2 ∨ s.toInt = 3 ∨ s.toInt = 4 ∨ s.toInt = 5 := by omega
  simp only [← Int32.toInt_inj]
  exact h3
theorem own_inS {s e : Int32} (h : own_se s e) : s = 0 ∨ s = 1 ∨ s = 2 ∨ s = 3 ∨ s = 4 ∨ s = 5 := own_in6 h.1 (by have := h.2.1; have := h.2.2; omega)
theorem own_inE {s e : Int32} (h : own_se s e) : e = 0 ∨ e = 1 ∨ e = 2 ∨ e = 3 ∨ e = 4 ∨ e = 5 := own_in6 (by have := h.1; have := h.2.1; omega) h.2.2
theorem own_no6 {s : Int32} (h : s = 0 ∨ s = 1 ∨ s = 2 ∨ s = 3 ∨ s = 4 ∨ s = 5) (h0 : ¬ (s = 0)) (h1 : ¬ (s = 1)) (h2 : ¬ (s = 2)) (h3 : ¬ (s = 3)) (h4 : ¬ (s = 4)) (h5 : ¬ (s = 5)) : False := by
  rcases h with h | h | h | h | h | h <;> contradiction
theorem own_tl {s e i : Int32} (h : own_se s e) (hi : 0 ≤ i.toInt) (hl : i < e) : ¬ ((e - 1 - i) < (0 : Int32)) ∧ (e - 1 - i) < (5 : Int32) := by
  have h5 := h.2.2
  rw [Int32.lt_iff_toInt_lt] at hl
  have q := (by decide +kernel : ∀ k : Fin 6, ∀ j : Fin 6, (Int32.ofNat j.val < Int32.ofNat k.val) → ¬ ((Int32.ofNat k.val - 1 - Int32.ofNat j.val) < (0 : Int32)) ∧ (Int32.ofNat k.val - 1 - Int32.ofNat j.val) < (5 : Int32)) ⟨e.toInt.toNat, by omega⟩ ⟨i.toInt.toNat, by omega⟩
  rw [← own_ofNat e (by omega), ← own_ofNat i hi] at q
  exact q (Int32.lt_iff_toInt_lt.mpr hl)
theorem own_7 (x : Int32) : 0 ≤ (x &&& (7 : Int32)).toInt ∧ (x &&& (7 : Int32)).toInt ≤ 7 := c_and x 7 (by decide)
theorem own_SE (a b : Int32) (ha : 0 ≤ a.toInt ∧ a.toInt ≤ 7) (hb : 0 ≤ b.toInt ∧ b.toInt ≤ 7) : ((6 : Int32) - a % (6 : Int32)) ≠ 0 ∧ own_se (a % (6 : Int32)) (a % (6 : Int32) + b % ((6 : Int32) - a % (6 : Int32))) := by
  have q := (by decide +kernel : ∀ k : Fin 8, ∀ j : Fin 8, ((6 : Int32) - (Int32.ofNat k.val) % (6 : Int32)) ≠ 0 ∧ (0 ≤ ((Int32.ofNat k.val) % (6 : Int32)).toInt ∧ ((Int32.ofNat k.val) % (6 : Int32)).toInt ≤ ((Int32.ofNat k.val) % (6 : Int32) + (Int32.ofNat j.val) % ((6 : Int32) - (Int32.ofNat k.val) % (6 : Int32))).toInt ∧ ((Int32.ofNat k.val) % (6 : Int32) + (Int32.ofNat j.val) % ((6 : Int32) - (Int32.ofNat k.val) % (6 : Int32))).toInt ≤ 5)) ⟨a.toInt.toNat, by omega⟩ ⟨b.toInt.toNat, by omega⟩
  rw [← own_ofNat a ha.1, ← own_ofNat b hb.1] at q
  exact q

theorem d_isl0_0 : decode jdk_42_method_154_code 0 = .ok (.getstatic 38, 3) := by decide +kernel
theorem d_isl0_3 : decode jdk_42_method_154_code 3 = .ok (.ifCond .eq 14, 3) := by decide +kernel
theorem d_isl0_6 : decode jdk_42_method_154_code 6 = .ok (.aload_n 0, 1) := by decide +kernel
theorem d_isl0_7 : decode jdk_42_method_154_code 7 = .ok (.getfield 15, 3) := by decide +kernel
theorem d_isl0_10 : decode jdk_42_method_154_code 10 = .ok (.ifCond .ne 7, 3) := by decide +kernel
theorem d_isl0_13 : decode jdk_42_method_154_code 13 = .ok (.iconst 1, 1) := by decide +kernel
theorem d_isl0_14 : decode jdk_42_method_154_code 14 = .ok (.goto 4, 3) := by decide +kernel
theorem d_isl0_18 : decode jdk_42_method_154_code 18 = .ok (.ireturn, 1) := by decide +kernel
theorem pn0 : plainName "java/lang/String" = true := by first | (simp [plainName, overriddenIn]; done) | decide +kernel
theorem ef_isl0 (m : MethodId) (a0 : Addr) : entryFrame m #[(.ref a0)] 1 = mkF m 0 #[.val (.ref a0)] [] := by first | (simp [entryFrame, mkF, argsToLocals, Value.category]; done) | rfl
def Q_isl0 (Z : State) (a0 : Addr) (g1 : Int32) (h0 : Heap) (n0 : Nat) (v : Option Value) (h : Heap) (L : List Loc) : Prop := v = some (.int (1 : Int32)) ∧ Fr n0 L ∧ h = h0
set_option maxRecDepth 65536 in
set_option maxHeartbeats 40000000 in
theorem rm_isl0 (l : Launch) (Z : State) (aT : Array Value) (hw : ∀ d ∈ tables_1, d.before aT Z = true) (ws : List Jvm.Cond) (a0 : Addr) (g1 : Int32) (h0 : Heap) (n0 : Nat) (Z0 : n0 ≤ h0.size) (hp0 : Sta Z h0 "java/lang/String" "COMPACT_STRINGS" "Z" (.int g1)) (hp1 : Fld Z h0 a0 "java/lang/String" "coder" "B" (.int (0 : Int32))) (hg1 : ¬ (g1 = (0 : Int32))) :
    MetFree l mN10 (head1 (Jvm.Cond.code mN10 jdk_42_method_154_code 1 (some .boolean) :: ws) ({ frames := 0, cells := 0, slots := 0, locals := 0 } : Room)) (fun a U => a = #[(.ref a0)] ∧ Z.Warmed39 U.vm ∧ U.heap = h0) (fun _ _ _ _ _ => True) (fun _ U o U' => ∃ v L, o = .returned v ∧ Q_isl0 Z a0 g1 h0 n0 v U'.heap L ∧ FrameEnd U o U' L ({ frames := 0, cells := 0, slots := 0, locals := 0 } : Room).cells ({ frames := 0, cells := 0, slots := 0, locals := 0 } : Room).slots) := by
  refine MetFree.of_bodySF (plainFor_of_name pn0) hisR ?_
  intro p e s m args below meth c s₁ Bd hml0 hP hK
  obtain ⟨rfl, hZ, hh⟩ := hP
  have hx := Bd.exec
  have hby := Bd.bytes
  have hml : c.maxLocals = 1 := hml0
  have hown : s.vm.findClass "java/lang/String" = some m.cls := findClass_of_methodNamed Bd.named
  have hnm := (name_of_methodNamed Bd.named Bd.method).1
  have hlk := Bd.notSynchronized
  have hrt := Bd.returns
  have X0 : Stand p l e ({ frames := 0, cells := 0, slots := 0, locals := 0 } : Room) s m #[(.ref a0)] below meth c s₁ [] 0 0 := Stand.of_body Bd
  have e0 : s₁.heap = h0 := by rw [← hh, Bd.state]; rfl
  have N0 := Fr.nil n0
  refine own_cast (P := own_End s (Q_isl0 Z a0 g1 h0 n0) ({ frames := 0, cells := 0, slots := 0, locals := 0 } : Room).cells ({ frames := 0, cells := 0, slots := 0, locals := 0 } : Room).slots) (ef_isl0 m a0) ?_
  obtain ⟨T1, X1, e1, st1⟩ := getS2 X0 hx hZ hown (host := "") (Or.inl (hw _ (own_M 14 rfl))) Via.refl e0 hp0 (g := (mkF m 0 #[.val (.ref a0)] [])) rfl (hb hby d_isl0_0)
  refine own_go st1 ?_
  show own_Got p e below _ T1 (mkF m 3 #[.val (.ref a0)] [(.int g1)])
  refine g_ifF X1 hx hby d_isl0_3 ((if0 _ _).trans (feq hg1).1) (rfl : 3 + 3 = 6) ?_
  refine g_aloadN X1 hx hby d_isl0_6 rfl rfl (rfl : 6 + 1 = 7) ?_
  obtain ⟨T2, X2, e2, st2⟩ := getF X1 hx hZ hown (host := "") (Or.inl (hw _ (own_M 26 rfl))) Via.refl e1 hp1 (g := (mkF m 7 #[.val (.ref a0)] [(.ref a0)])) rfl rfl (hb hby d_isl0_7)
  refine own_go st2 ?_
  show own_Got p e below _ T2 (mkF m 10 #[.val (.ref a0)] [(.int (0 : Int32))])
  refine g_ifF X2 hx hby d_isl0_10 ((if0 _ _).trans (teq (by decide : (0 : Int32) = (0 : Int32))).2) (rfl : 10 + 3 = 13) ?_
  refine g_iconst X2 hx hby (1 : Int32) d_isl0_13 (by decide) (rfl : 13 + 1 = 14) ?_
  refine g_goto X2 hx hby d_isl0_14 (by decide) (pc' := 18) (by decide) ?_
  refine own_retN X2 hx hby hlk (t := .boolean) hrt (by simp) d_isl0_18 (by decide) (by decide) ?_
  show Q_isl0 Z a0 g1 h0 n0 _ T2.heap _
  exact ⟨rfl, N0, e2⟩
theorem d_isl1_0 : decode jdk_42_method_154_code 0 = .ok (.getstatic 38, 3) := by decide +kernel
theorem d_isl1_3 : decode jdk_42_method_154_code 3 = .ok (.ifCond .eq 14, 3) := by decide +kernel
theorem d_isl1_6 : decode jdk_42_method_154_code 6 = .ok (.aload_n 0, 1) := by decide +kernel
theorem d_isl1_7 : decode jdk_42_method_154_code 7 = .ok (.getfield 15, 3) := by decide +kernel
theorem d_isl1_10 : decode jdk_42_method_154_code 10 = .ok (.ifCond .ne 7, 3) := by decide +kernel
theorem d_isl1_17 : decode jdk_42_method_154_code 17 = .ok (.iconst 0, 1) := by decide +kernel
theorem d_isl1_18 : decode jdk_42_method_154_code 18 = .ok (.ireturn, 1) := by decide +kernel
theorem ef_isl1 (m : MethodId) (a0 : Addr) : entryFrame m #[(.ref a0)] 1 = mkF m 0 #[.val (.ref a0)] [] := by first | (simp [entryFrame, mkF, argsToLocals, Value.category]; done) | rfl
def Q_isl1 (Z : State) (a0 : Addr) (g1 : Int32) (h0 : Heap) (n0 : Nat) (v : Option Value) (h : Heap) (L : List Loc) : Prop := v = some (.int (0 : Int32)) ∧ Fr n0 L ∧ h = h0
set_option maxRecDepth 65536 in
set_option maxHeartbeats 40000000 in
theorem rm_isl1 (l : Launch) (Z : State) (aT : Array Value) (hw : ∀ d ∈ tables_1, d.before aT Z = true) (ws : List Jvm.Cond) (a0 : Addr) (g1 : Int32) (h0 : Heap) (n0 : Nat) (Z0 : n0 ≤ h0.size) (hp0 : Sta Z h0 "java/lang/String" "COMPACT_STRINGS" "Z" (.int g1)) (hp1 : Fld Z h0 a0 "java/lang/String" "coder" "B" (.int (1 : Int32))) (hg1 : ¬ (g1 = (0 : Int32))) :
    MetFree l mN10 (head1 (Jvm.Cond.code mN10 jdk_42_method_154_code 1 (some .boolean) :: ws) ({ frames := 0, cells := 0, slots := 0, locals := 0 } : Room)) (fun a U => a = #[(.ref a0)] ∧ Z.Warmed39 U.vm ∧ U.heap = h0) (fun _ _ _ _ _ => True) (fun _ U o U' => ∃ v L, o = .returned v ∧ Q_isl1 Z a0 g1 h0 n0 v U'.heap L ∧ FrameEnd U o U' L ({ frames := 0, cells := 0, slots := 0, locals := 0 } : Room).cells ({ frames := 0, cells := 0, slots := 0, locals := 0 } : Room).slots) := by
  refine MetFree.of_bodySF (plainFor_of_name pn0) hisR ?_
  intro p e s m args below meth c s₁ Bd hml0 hP hK
  obtain ⟨rfl, hZ, hh⟩ := hP
  have hx := Bd.exec
  have hby := Bd.bytes
  have hml : c.maxLocals = 1 := hml0
  have hown : s.vm.findClass "java/lang/String" = some m.cls := findClass_of_methodNamed Bd.named
  have hnm := (name_of_methodNamed Bd.named Bd.method).1
  have hlk := Bd.notSynchronized
  have hrt := Bd.returns
  have X0 : Stand p l e ({ frames := 0, cells := 0, slots := 0, locals := 0 } : Room) s m #[(.ref a0)] below meth c s₁ [] 0 0 := Stand.of_body Bd
  have e0 : s₁.heap = h0 := by rw [← hh, Bd.state]; rfl
  have N0 := Fr.nil n0
  refine own_cast (P := own_End s (Q_isl1 Z a0 g1 h0 n0) ({ frames := 0, cells := 0, slots := 0, locals := 0 } : Room).cells ({ frames := 0, cells := 0, slots := 0, locals := 0 } : Room).slots) (ef_isl1 m a0) ?_
  obtain ⟨T3, X3, e3, st3⟩ := getS2 X0 hx hZ hown (host := "") (Or.inl (hw _ (own_M 14 rfl))) Via.refl e0 hp0 (g := (mkF m 0 #[.val (.ref a0)] [])) rfl (hb hby d_isl1_0)
  refine own_go st3 ?_
  show own_Got p e below _ T3 (mkF m 3 #[.val (.ref a0)] [(.int g1)])
  refine g_ifF X3 hx hby d_isl1_3 ((if0 _ _).trans (feq hg1).1) (rfl : 3 + 3 = 6) ?_
  refine g_aloadN X3 hx hby d_isl1_6 rfl rfl (rfl : 6 + 1 = 7) ?_
  obtain ⟨T4, X4, e4, st4⟩ := getF X3 hx hZ hown (host := "") (Or.inl (hw _ (own_M 26 rfl))) Via.refl e3 hp1 (g := (mkF m 7 #[.val (.ref a0)] [(.ref a0)])) rfl rfl (hb hby d_isl1_7)
  refine own_go st4 ?_
  show own_Got p e below _ T4 (mkF m 10 #[.val (.ref a0)] [(.int (1 : Int32))])
  refine g_ifT X4 hx hby d_isl1_10 ((if0 _ _).trans (feq (by decide : ¬ ((1 : Int32) = (0 : Int32)))).2) (by decide) (pc' := 17) (by decide) ?_
  refine g_iconst X4 hx hby (0 : Int32) d_isl1_17 (by decide) (rfl : 17 + 1 = 18) ?_
  refine own_retN X4 hx hby hlk (t := .boolean) hrt (by simp) d_isl1_18 (by decide) (by decide) ?_
  show Q_isl1 Z a0 g1 h0 n0 _ T4.heap _
  exact ⟨rfl, N0, e4⟩
theorem d_cdr0_0 : decode jdk_42_method_152_code 0 = .ok (.getstatic 38, 3) := by decide +kernel
theorem d_cdr0_3 : decode jdk_42_method_152_code 3 = .ok (.ifCond .eq 10, 3) := by decide +kernel
theorem d_cdr0_6 : decode jdk_42_method_152_code 6 = .ok (.aload_n 0, 1) := by decide +kernel
theorem d_cdr0_7 : decode jdk_42_method_152_code 7 = .ok (.getfield 15, 3) := by decide +kernel
theorem d_cdr0_10 : decode jdk_42_method_152_code 10 = .ok (.goto 4, 3) := by decide +kernel
theorem d_cdr0_14 : decode jdk_42_method_152_code 14 = .ok (.ireturn, 1) := by decide +kernel
theorem ef_cdr0 (m : MethodId) (a0 : Addr) : entryFrame m #[(.ref a0)] 1 = mkF m 0 #[.val (.ref a0)] [] := by first | (simp [entryFrame, mkF, argsToLocals, Value.category]; done) | rfl
def Q_cdr0 (Z : State) (a0 : Addr) (g1 : Int32) (h0 : Heap) (n0 : Nat) (v : Option Value) (h : Heap) (L : List Loc) : Prop := v = some (.int (0 : Int32)) ∧ Fr n0 L ∧ h = h0
set_option maxRecDepth 65536 in
set_option maxHeartbeats 40000000 in
theorem rm_cdr0 (l : Launch) (Z : State) (aT : Array Value) (hw : ∀ d ∈ tables_1, d.before aT Z = true) (ws : List Jvm.Cond) (a0 : Addr) (g1 : Int32) (h0 : Heap) (n0 : Nat) (Z0 : n0 ≤ h0.size) (hp0 : Sta Z h0 "java/lang/String" "COMPACT_STRINGS" "Z" (.int g1)) (hp1 : Fld Z h0 a0 "java/lang/String" "coder" "B" (.int (0 : Int32))) (hg1 : ¬ (g1 = (0 : Int32))) :
    MetFree l mN9 (head1 (Jvm.Cond.code mN9 jdk_42_method_152_code 1 (some .byte) :: ws) ({ frames := 0, cells := 0, slots := 0, locals := 0 } : Room)) (fun a U => a = #[(.ref a0)] ∧ Z.Warmed39 U.vm ∧ U.heap = h0) (fun _ _ _ _ _ => True) (fun _ U o U' => ∃ v L, o = .returned v ∧ Q_cdr0 Z a0 g1 h0 n0 v U'.heap L ∧ FrameEnd U o U' L ({ frames := 0, cells := 0, slots := 0, locals := 0 } : Room).cells ({ frames := 0, cells := 0, slots := 0, locals := 0 } : Room).slots) := by
  refine MetFree.of_bodySF (plainFor_of_name pn0) hisR ?_
  intro p e s m args below meth c s₁ Bd hml0 hP hK
  obtain ⟨rfl, hZ, hh⟩ := hP
  have hx := Bd.exec
  have hby := Bd.bytes
  have hml : c.maxLocals = 1 := hml0
  have hown : s.vm.findClass "java/lang/String" = some m.cls := findClass_of_methodNamed Bd.named
  have hnm := (name_of_methodNamed Bd.named Bd.method).1
  have hlk := Bd.notSynchronized
  have hrt := Bd.returns
  have X0 : Stand p l e ({ frames := 0, cells := 0, slots := 0, locals := 0 } : Room) s m #[(.ref a0)] below meth c s₁ [] 0 0 := Stand.of_body Bd
  have e0 : s₁.heap = h0 := by rw [← hh, Bd.state]; rfl
  have N0 := Fr.nil n0
  refine own_cast (P := own_End s (Q_cdr0 Z a0 g1 h0 n0) ({ frames := 0, cells := 0, slots := 0, locals := 0 } : Room).cells ({ frames := 0, cells := 0, slots := 0, locals := 0 } : Room).slots) (ef_cdr0 m a0) ?_
  obtain ⟨T5, X5, e5, st5⟩ := getS2 X0 hx hZ hown (host := "") (Or.inl (hw _ (own_M 14 rfl))) Via.refl e0 hp0 (g := (mkF m 0 #[.val (.ref a0)] [])) rfl (hb hby d_cdr0_0)
  refine own_go st5 ?_
  show own_Got p e below _ T5 (mkF m 3 #[.val (.ref a0)] [(.int g1)])
  refine g_ifF X5 hx hby d_cdr0_3 ((if0 _ _).trans (feq hg1).1) (rfl : 3 + 3 = 6) ?_
  refine g_aloadN X5 hx hby d_cdr0_6 rfl rfl (rfl : 6 + 1 = 7) ?_
  obtain ⟨T6, X6, e6, st6⟩ := getF X5 hx hZ hown (host := "") (Or.inl (hw _ (own_M 26 rfl))) Via.refl e5 hp1 (g := (mkF m 7 #[.val (.ref a0)] [(.ref a0)])) rfl rfl (hb hby d_cdr0_7)
  refine own_go st6 ?_
  show own_Got p e below _ T6 (mkF m 10 #[.val (.ref a0)] [(.int (0 : Int32))])
  refine g_goto X6 hx hby d_cdr0_10 (by decide) (pc' := 14) (by decide) ?_
  refine own_retN X6 hx hby hlk (t := .byte) hrt (by simp) d_cdr0_14 (by decide) (by decide) ?_
  show Q_cdr0 Z a0 g1 h0 n0 _ T6.heap _
  exact ⟨rfl, N0, e6⟩
theorem d_cdr1_0 : decode jdk_42_method_152_code 0 = .ok (.getstatic 38, 3) := by decide +kernel
theorem d_cdr1_3 : decode jdk_42_method_152_code 3 = .ok (.ifCond .eq 10, 3) := by decide +kernel
theorem d_cdr1_6 : decode jdk_42_method_152_code 6 = .ok (.aload_n 0, 1) := by decide +kernel
theorem d_cdr1_7 : decode jdk_42_method_152_code 7 = .ok (.getfield 15, 3) := by decide +kernel
theorem d_cdr1_10 : decode jdk_42_method_152_code 10 = .ok (.goto 4, 3) := by decide +kernel
theorem d_cdr1_14 : decode jdk_42_method_152_code 14 = .ok (.ireturn, 1) := by decide +kernel
theorem ef_cdr1 (m : MethodId) (a0 : Addr) : entryFrame m #[(.ref a0)] 1 = mkF m 0 #[.val (.ref a0)] [] := by first | (simp [entryFrame, mkF, argsToLocals, Value.category]; done) | rfl
def Q_cdr1 (Z : State) (a0 : Addr) (g1 : Int32) (h0 : Heap) (n0 : Nat) (v : Option Value) (h : Heap) (L : List Loc) : Prop := v = some (.int (1 : Int32)) ∧ Fr n0 L ∧ h = h0
set_option maxRecDepth 65536 in
set_option maxHeartbeats 40000000 in
theorem rm_cdr1 (l : Launch) (Z : State) (aT : Array Value) (hw : ∀ d ∈ tables_1, d.before aT Z = true) (ws : List Jvm.Cond) (a0 : Addr) (g1 : Int32) (h0 : Heap) (n0 : Nat) (Z0 : n0 ≤ h0.size) (hp0 : Sta Z h0 "java/lang/String" "COMPACT_STRINGS" "Z" (.int g1)) (hp1 : Fld Z h0 a0 "java/lang/String" "coder" "B" (.int (1 : Int32))) (hg1 : ¬ (g1 = (0 : Int32))) :
    MetFree l mN9 (head1 (Jvm.Cond.code mN9 jdk_42_method_152_code 1 (some .byte) :: ws) ({ frames := 0, cells := 0, slots := 0, locals := 0 } : Room)) (fun a U => a = #[(.ref a0)] ∧ Z.Warmed39 U.vm ∧ U.heap = h0) (fun _ _ _ _ _ => True) (fun _ U o U' => ∃ v L, o = .returned v ∧ Q_cdr1 Z a0 g1 h0 n0 v U'.heap L ∧ FrameEnd U o U' L ({ frames := 0, cells := 0, slots := 0, locals := 0 } : Room).cells ({ frames := 0, cells := 0, slots := 0, locals := 0 } : Room).slots) := by
  refine MetFree.of_bodySF (plainFor_of_name pn0) hisR ?_
  intro p e s m args below meth c s₁ Bd hml0 hP hK
  obtain ⟨rfl, hZ, hh⟩ := hP
  have hx := Bd.exec
  have hby := Bd.bytes
  have hml : c.maxLocals = 1 := hml0
  have hown : s.vm.findClass "java/lang/String" = some m.cls := findClass_of_methodNamed Bd.named
  have hnm := (name_of_methodNamed Bd.named Bd.method).1
  have hlk := Bd.notSynchronized
  have hrt := Bd.returns
  have X0 : Stand p l e ({ frames := 0, cells := 0, slots := 0, locals := 0 } : Room) s m #[(.ref a0)] below meth c s₁ [] 0 0 := Stand.of_body Bd
  have e0 : s₁.heap = h0 := by rw [← hh, Bd.state]; rfl
  have N0 := Fr.nil n0
  refine own_cast (P := own_End s (Q_cdr1 Z a0 g1 h0 n0) ({ frames := 0, cells := 0, slots := 0, locals := 0 } : Room).cells ({ frames := 0, cells := 0, slots := 0, locals := 0 } : Room).slots) (ef_cdr1 m a0) ?_
  obtain ⟨T7, X7, e7, st7⟩ := getS2 X0 hx hZ hown (host := "") (Or.inl (hw _ (own_M 14 rfl))) Via.refl e0 hp0 (g := (mkF m 0 #[.val (.ref a0)] [])) rfl (hb hby d_cdr1_0)
  refine own_go st7 ?_
  show own_Got p e below _ T7 (mkF m 3 #[.val (.ref a0)] [(.int g1)])
  refine g_ifF X7 hx hby d_cdr1_3 ((if0 _ _).trans (feq hg1).1) (rfl : 3 + 3 = 6) ?_
  refine g_aloadN X7 hx hby d_cdr1_6 rfl rfl (rfl : 6 + 1 = 7) ?_
  obtain ⟨T8, X8, e8, st8⟩ := getF X7 hx hZ hown (host := "") (Or.inl (hw _ (own_M 26 rfl))) Via.refl e7 hp1 (g := (mkF m 7 #[.val (.ref a0)] [(.ref a0)])) rfl rfl (hb hby d_cdr1_7)
  refine own_go st8 ?_
  show own_Got p e below _ T8 (mkF m 10 #[.val (.ref a0)] [(.int (1 : Int32))])
  refine g_goto X8 hx hby d_cdr1_10 (by decide) (pc' := 14) (by decide) ?_
  refine own_retN X8 hx hby hlk (t := .byte) hrt (by simp) d_cdr1_14 (by decide) (by decide) ?_
  show Q_cdr1 Z a0 g1 h0 n0 _ T8.heap _
  exact ⟨rfl, N0, e8⟩
theorem d_pck_0 : decode jdk_41_method_11_code 0 = .ok (.iload_n 0, 1) := by decide +kernel
theorem d_pck_1 : decode jdk_41_method_11_code 1 = .ok (.ifCond .lt 8, 3) := by decide +kernel
theorem d_pck_4 : decode jdk_41_method_11_code 4 = .ok (.iload_n 0, 1) := by decide +kernel
theorem d_pck_5 : decode jdk_41_method_11_code 5 = .ok (.iload_n 1, 1) := by decide +kernel
theorem d_pck_6 : decode jdk_41_method_11_code 6 = .ok (.if_icmp .lt 10, 3) := by decide +kernel
theorem d_pck_16 : decode jdk_41_method_11_code 16 = .ok (.iload_n 0, 1) := by decide +kernel
theorem d_pck_17 : decode jdk_41_method_11_code 17 = .ok (.ireturn, 1) := by decide +kernel
theorem pn1 : plainName "jdk/internal/util/Preconditions" = true := by first | (simp [plainName, overriddenIn]; done) | decide +kernel
theorem ef_pck (m : MethodId) (i : Int32) (n : Int32) (w1 : Value) (qw1 : w1.isRef = true) : entryFrame m #[(.int i), (.int n), w1] 3 = mkF m 0 #[.val (.int i), .val (.int n), .val w1] [] := by
  rcases ref_cases qw1 with h | ⟨_, h⟩ <;> subst h
  all_goals rfl
def Q_pck (Z : State) (i : Int32) (n : Int32) (w1 : Value) (h0 : Heap) (n0 : Nat) (v : Option Value) (h : Heap) (L : List Loc) : Prop := v = some (.int i) ∧ Fr n0 L ∧ h = h0
set_option maxRecDepth 65536 in
set_option maxHeartbeats 40000000 in
theorem rm_pck (l : Launch) (Z : State) (aT : Array Value) (hw : ∀ d ∈ tables_1, d.before aT Z = true) (ws : List Jvm.Cond) (i : Int32) (n : Int32) (w1 : Value) (h0 : Heap) (n0 : Nat) (Z0 : n0 ≤ h0.size) (hi0 : ¬ (i < (0 : Int32))) (hi1 : i < n) (hw1 : w1.isRef = true) :
    MetFree l mN26 (head1 (Jvm.Cond.code mN26 jdk_41_method_11_code 3 (some .int) :: ws) ({ frames := 0, cells := 0, slots := 0, locals := 0 } : Room)) (fun a U => a = #[(.int i), (.int n), w1] ∧ Z.Warmed39 U.vm ∧ U.heap = h0) (fun _ _ _ _ _ => True) (fun _ U o U' => ∃ v L, o = .returned v ∧ Q_pck Z i n w1 h0 n0 v U'.heap L ∧ FrameEnd U o U' L ({ frames := 0, cells := 0, slots := 0, locals := 0 } : Room).cells ({ frames := 0, cells := 0, slots := 0, locals := 0 } : Room).slots) := by
  refine MetFree.of_bodySF (plainFor_of_name pn1) hisR ?_
  intro p e s m args below meth c s₁ Bd hml0 hP hK
  obtain ⟨rfl, hZ, hh⟩ := hP
  have hx := Bd.exec
  have hby := Bd.bytes
  have hml : c.maxLocals = 3 := hml0
  have hown : s.vm.findClass "jdk/internal/util/Preconditions" = some m.cls := findClass_of_methodNamed Bd.named
  have hnm := (name_of_methodNamed Bd.named Bd.method).1
  have hlk := Bd.notSynchronized
  have hrt := Bd.returns
  have X0 : Stand p l e ({ frames := 0, cells := 0, slots := 0, locals := 0 } : Room) s m #[(.int i), (.int n), w1] below meth c s₁ [] 0 0 := Stand.of_body Bd
  have e0 : s₁.heap = h0 := by rw [← hh, Bd.state]; rfl
  have N0 := Fr.nil n0
  refine own_cast (P := own_End s (Q_pck Z i n w1 h0 n0) ({ frames := 0, cells := 0, slots := 0, locals := 0 } : Room).cells ({ frames := 0, cells := 0, slots := 0, locals := 0 } : Room).slots) (ef_pck m i n w1 hw1) ?_
  refine g_iloadN X0 hx hby d_pck_0 rfl (rfl : 0 + 1 = 1) ?_
  refine g_ifF X0 hx hby d_pck_1 ((if0 _ _).trans (flt hi0).1) (rfl : 1 + 3 = 4) ?_
  refine g_iloadN X0 hx hby d_pck_4 rfl (rfl : 4 + 1 = 5) ?_
  refine g_iloadN X0 hx hby d_pck_5 rfl (rfl : 5 + 1 = 6) ?_
  refine g_icT X0 hx hby d_pck_6 (tlt hi1).1 (by decide) (pc' := 16) (by decide) ?_
  refine g_iloadN X0 hx hby d_pck_16 rfl (rfl : 16 + 1 = 17) ?_
  refine own_retI X0 hx hby hlk hrt d_pck_17 (by decide) (by decide) ?_
  show Q_pck Z i n w1 h0 n0 _ s₁.heap _
  exact ⟨rfl, N0, e0⟩
theorem d_sck_0 : decode jdk_42_method_155_code 0 = .ok (.iload_n 0, 1) := by decide +kernel
theorem d_sck_1 : decode jdk_42_method_155_code 1 = .ok (.iload_n 1, 1) := by decide +kernel
theorem d_sck_2 : decode jdk_42_method_155_code 2 = .ok (.getstatic 1053, 3) := by decide +kernel
theorem d_sck_5 : decode jdk_42_method_155_code 5 = .ok (.invokestatic 1059, 3) := by decide +kernel
theorem d_sck_8 : decode jdk_42_method_155_code 8 = .ok (.pop, 1) := by decide +kernel
theorem d_sck_9 : decode jdk_42_method_155_code 9 = .ok (.return_, 1) := by decide +kernel
theorem pd0 : parseMethodDescriptor "(IILjava/util/function/BiFunction;)I" = some ⟨[.int, .int, (.object "java/util/function/BiFunction")], some .int⟩ := by decide +kernel
theorem ef_sck (m : MethodId) (i : Int32) (n : Int32) : entryFrame m #[(.int i), (.int n)] 2 = mkF m 0 #[.val (.int i), .val (.int n)] [] := by first | (simp [entryFrame, mkF, argsToLocals, Value.category]; done) | rfl
def Q_sck (Z : State) (i : Int32) (n : Int32) (w1 : Value) (h0 : Heap) (n0 : Nat) (v : Option Value) (h : Heap) (L : List Loc) : Prop := v = none ∧ Fr n0 L ∧ h = h0
set_option maxRecDepth 65536 in
set_option maxHeartbeats 40000000 in
theorem rm_sck (l : Launch) (Z : State) (aT : Array Value) (hw : ∀ d ∈ tables_1, d.before aT Z = true) (ws : List Jvm.Cond) (i : Int32) (n : Int32) (w1 : Value) (h0 : Heap) (n0 : Nat) (Z0 : n0 ≤ h0.size) (hp0 : Sta Z h0 "jdk/internal/util/Preconditions" "SIOOBE_FORMATTER" "Ljava/util/function/BiFunction;" w1) (hi0 : ¬ (i < (0 : Int32))) (hi1 : i < n) (hw1 : w1.isRef = true) :
    MetFree l mN8 (head1 (Jvm.Cond.code mN8 jdk_42_method_155_code 2 none :: ws) ({ frames := 1, cells := 0, slots := 0, locals := 14 } : Room)) (fun a U => a = #[(.int i), (.int n)] ∧ Z.Warmed39 U.vm ∧ U.heap = h0) (fun _ _ _ _ _ => True) (fun _ U o U' => ∃ v L, o = .returned v ∧ Q_sck Z i n w1 h0 n0 v U'.heap L ∧ FrameEnd U o U' L ({ frames := 1, cells := 0, slots := 0, locals := 14 } : Room).cells ({ frames := 1, cells := 0, slots := 0, locals := 14 } : Room).slots) := by
  refine MetFree.of_bodySF (plainFor_of_name pn0) hisR ?_
  intro p e s m args below meth c s₁ Bd hml0 hP hK
  obtain ⟨rfl, hZ, hh⟩ := hP
  have hx := Bd.exec
  have hby := Bd.bytes
  have hml : c.maxLocals = 2 := hml0
  have hown : s.vm.findClass "java/lang/String" = some m.cls := findClass_of_methodNamed Bd.named
  have hnm := (name_of_methodNamed Bd.named Bd.method).1
  have hlk := Bd.notSynchronized
  have hrt := Bd.returns
  have X0 : Stand p l e ({ frames := 1, cells := 0, slots := 0, locals := 14 } : Room) s m #[(.int i), (.int n)] below meth c s₁ [] 0 0 := Stand.of_body Bd
  have e0 : s₁.heap = h0 := by rw [← hh, Bd.state]; rfl
  have N0 := Fr.nil n0
  refine own_cast (P := own_End s (Q_sck Z i n w1 h0 n0) ({ frames := 1, cells := 0, slots := 0, locals := 14 } : Room).cells ({ frames := 1, cells := 0, slots := 0, locals := 14 } : Room).slots) (ef_sck m i n) ?_
  refine g_iloadN X0 hx hby d_sck_0 rfl (rfl : 0 + 1 = 1) ?_
  refine g_iloadN X0 hx hby d_sck_1 rfl (rfl : 1 + 1 = 2) ?_
  obtain ⟨T9, X9, e9, st9⟩ := getS2 X0 hx hZ hown (host := "") (Or.inl (hw _ (own_M 99 rfl))) Via.refl e0 hp0 (g := (mkF m 2 #[.val (.int i), .val (.int n)] [(.int n), (.int i)])) rfl (hb hby d_sck_2)
  refine own_go st9 ?_
  show own_Got p e below _ T9 (mkF m 5 #[.val (.int i), .val (.int n)] [w1, (.int n), (.int i)])
  obtain ⟨_, _, ⟨T10, L10, k10, n10⟩, -, X10, ⟨Lc10, hQ10, l10, y10, z10⟩, st10⟩ := Jvm.LawKit.callS X9 hx (y := mN26) hown (mvT hZ (hw _ (own_M 100 rfl))) (mvT hZ (hw _ (own_M 101 rfl))) (mvT hZ (hw _ (own_M 58 rfl))) (mvT hZ (hw _ (own_M 102 rfl))) (by decide) (backOf (W := 0) (rm_pck l Z aT hw [] i n w1 h0 n0 Z0 hi0 hi1 hw1) hZ (hw _ (own_M 102 rfl)) (hw _ (own_M 58 rfl)) (by decide) (by decide)) (g := (mkF m 5 #[.val (.int i), .val (.int n)] [w1, (.int n), (.int i)])) rfl (by rw [hml]; rfl) (argsL := [(.int i), (.int n), w1]) (rest := []) (lenOf pd0 rfl) rfl (by show 2 * 0 + _ ≤ _; exact Nat.le_of_eq rfl) (hb hby d_sck_5) (fun _ _ => ⟨rfl, e9, (by decide : 0 + 0 ≤ _), (by decide : 0 + 0 ≤ _)⟩)
  dsimp only [Pt.U, Pt.locs, Pt.cells, Pt.slots] at X10 l10 y10 z10 st10 hQ10
  subst l10 y10 z10
  obtain ⟨rfl, N10q, eq10⟩ := hQ10
  have N10 := Fr.app N0 N10q
  refine own_go st10 ?_
  show own_Got p e below _ T10 (mkF m 8 #[.val (.int i), .val (.int n)] [(.int i)])
  refine g_pop X10 hx hby d_sck_8 rfl (rfl : 8 + 1 = 9) ?_
  refine own_retV X10 hx hby hlk hrt d_sck_9 (by decide) (by decide) ?_
  show Q_sck Z i n w1 h0 n0 _ T10.heap _
  exact ⟨rfl, N10, eq10⟩
theorem d_ul_0 : decode jdk_52_method_6_code 0 = .ok (.aload_n 0, 1) := by decide +kernel
theorem d_ul_1 : decode jdk_52_method_6_code 1 = .ok (.arraylength, 1) := by decide +kernel
theorem d_ul_2 : decode jdk_52_method_6_code 2 = .ok (.iconst 1, 1) := by decide +kernel
theorem d_ul_3 : decode jdk_52_method_6_code 3 = .ok (.ishr, 1) := by decide +kernel
theorem d_ul_4 : decode jdk_52_method_6_code 4 = .ok (.ireturn, 1) := by decide +kernel
theorem pn2 : plainName "java/lang/StringUTF16" = true := by first | (simp [plainName, overriddenIn]; done) | decide +kernel
theorem ef_ul (m : MethodId) (a0 : Addr) : entryFrame m #[(.ref a0)] 1 = mkF m 0 #[.val (.ref a0)] [] := by first | (simp [entryFrame, mkF, argsToLocals, Value.category]; done) | rfl
def Q_ul (Z : State) (a0 : Addr) (kb : ClassId) (vs : List Value) (h0 : Heap) (n0 : Nat) (v : Option Value) (h : Heap) (L : List Loc) : Prop := v = some (.int (5 : Int32)) ∧ Fr n0 L ∧ h = h0
set_option maxRecDepth 65536 in
set_option maxHeartbeats 40000000 in
theorem rm_ul (l : Launch) (Z : State) (aT : Array Value) (hw : ∀ d ∈ tables_1, d.before aT Z = true) (ws : List Jvm.Cond) (a0 : Addr) (kb : ClassId) (vs : List Value) (h0 : Heap) (n0 : Nat) (Z0 : n0 ≤ h0.size) (hp0 : Arv Z h0 a0 kb .byte (10 : Int32) vs (.int (0 : Int32))) :
    MetFree l mN19 (head1 (Jvm.Cond.code mN19 jdk_52_method_6_code 1 (some .int) :: ws) ({ frames := 0, cells := 0, slots := 0, locals := 0 } : Room)) (fun a U => a = #[(.ref a0)] ∧ Z.Warmed39 U.vm ∧ U.heap = h0) (fun _ _ _ _ _ => True) (fun _ U o U' => ∃ v L, o = .returned v ∧ Q_ul Z a0 kb vs h0 n0 v U'.heap L ∧ FrameEnd U o U' L ({ frames := 0, cells := 0, slots := 0, locals := 0 } : Room).cells ({ frames := 0, cells := 0, slots := 0, locals := 0 } : Room).slots) := by
  refine MetFree.of_bodySF (plainFor_of_name pn2) hisR ?_
  intro p e s m args below meth c s₁ Bd hml0 hP hK
  obtain ⟨rfl, hZ, hh⟩ := hP
  have hx := Bd.exec
  have hby := Bd.bytes
  have hml : c.maxLocals = 1 := hml0
  have hown : s.vm.findClass "java/lang/StringUTF16" = some m.cls := findClass_of_methodNamed Bd.named
  have hnm := (name_of_methodNamed Bd.named Bd.method).1
  have hlk := Bd.notSynchronized
  have hrt := Bd.returns
  have X0 : Stand p l e ({ frames := 0, cells := 0, slots := 0, locals := 0 } : Room) s m #[(.ref a0)] below meth c s₁ [] 0 0 := Stand.of_body Bd
  have e0 : s₁.heap = h0 := by rw [← hh, Bd.state]; rfl
  have N0 := Fr.nil n0
  refine own_cast (P := own_End s (Q_ul Z a0 kb vs h0 n0) ({ frames := 0, cells := 0, slots := 0, locals := 0 } : Room).cells ({ frames := 0, cells := 0, slots := 0, locals := 0 } : Room).slots) (ef_ul m a0) ?_
  refine g_aloadN X0 hx hby d_ul_0 rfl rfl (rfl : 0 + 1 = 1) ?_
  refine g_alen X0 hx hby hZ e0 hp0 d_ul_1 (rfl : 1 + 1 = 2) ?_
  refine g_iconst X0 hx hby (1 : Int32) d_ul_2 (by decide) (rfl : 2 + 1 = 3) ?_
  refine g_ishr X0 hx hby d_ul_3 (rfl : 3 + 1 = 4) ?_
  rw [(by decide : ((10 : Int32) >>> ((1 : Int32) &&& 31)) = (5 : Int32))]
  refine own_retI X0 hx hby hlk hrt d_ul_4 (by decide) (by decide) ?_
  show Q_ul Z a0 kb vs h0 n0 _ s₁.heap _
  exact ⟨rfl, N0, e0⟩
theorem d_uck_0 : decode jdk_52_method_91_code 0 = .ok (.iload_n 0, 1) := by decide +kernel
theorem d_uck_1 : decode jdk_52_method_91_code 1 = .ok (.aload_n 1, 1) := by decide +kernel
theorem d_uck_2 : decode jdk_52_method_91_code 2 = .ok (.invokestatic 48, 3) := by decide +kernel
theorem d_uck_5 : decode jdk_52_method_91_code 5 = .ok (.invokestatic 414, 3) := by decide +kernel
theorem d_uck_8 : decode jdk_52_method_91_code 8 = .ok (.return_, 1) := by decide +kernel
theorem pd1 : parseMethodDescriptor "([B)I" = some ⟨[(.array .byte)], some .int⟩ := by decide +kernel
theorem pd2 : parseMethodDescriptor "(II)V" = some ⟨[.int, .int], none⟩ := by decide +kernel
theorem ef_uck (m : MethodId) (i : Int32) (a0 : Addr) : entryFrame m #[(.int i), (.ref a0)] 2 = mkF m 0 #[.val (.int i), .val (.ref a0)] [] := by first | (simp [entryFrame, mkF, argsToLocals, Value.category]; done) | rfl
def Q_uck (Z : State) (i : Int32) (a0 : Addr) (kb : ClassId) (vs : List Value) (w1 : Value) (h0 : Heap) (n0 : Nat) (v : Option Value) (h : Heap) (L : List Loc) : Prop := v = none ∧ Fr n0 L ∧ h = h0
set_option maxRecDepth 65536 in
set_option maxHeartbeats 40000000 in
theorem rm_uck (l : Launch) (Z : State) (aT : Array Value) (hw : ∀ d ∈ tables_1, d.before aT Z = true) (ws : List Jvm.Cond) (i : Int32) (a0 : Addr) (kb : ClassId) (vs : List Value) (w1 : Value) (h0 : Heap) (n0 : Nat) (Z0 : n0 ≤ h0.size) (hp0 : Arv Z h0 a0 kb .byte (10 : Int32) vs (.int (0 : Int32))) (hp1 : Sta Z h0 "jdk/internal/util/Preconditions" "SIOOBE_FORMATTER" "Ljava/util/function/BiFunction;" w1) (hi0 : ¬ (i < (0 : Int32))) (hi1 : i < (5 : Int32)) (hw1 : w1.isRef = true) :
    MetFree l mN14 (head1 (Jvm.Cond.code mN14 jdk_52_method_91_code 2 none :: ws) ({ frames := 2, cells := 0, slots := 0, locals := 27 } : Room)) (fun a U => a = #[(.int i), (.ref a0)] ∧ Z.Warmed39 U.vm ∧ U.heap = h0) (fun _ _ _ _ _ => True) (fun _ U o U' => ∃ v L, o = .returned v ∧ Q_uck Z i a0 kb vs w1 h0 n0 v U'.heap L ∧ FrameEnd U o U' L ({ frames := 2, cells := 0, slots := 0, locals := 27 } : Room).cells ({ frames := 2, cells := 0, slots := 0, locals := 27 } : Room).slots) := by
  refine MetFree.of_bodySF (plainFor_of_name pn2) hisR ?_
  intro p e s m args below meth c s₁ Bd hml0 hP hK
  obtain ⟨rfl, hZ, hh⟩ := hP
  have hx := Bd.exec
  have hby := Bd.bytes
  have hml : c.maxLocals = 2 := hml0
  have hown : s.vm.findClass "java/lang/StringUTF16" = some m.cls := findClass_of_methodNamed Bd.named
  have hnm := (name_of_methodNamed Bd.named Bd.method).1
  have hlk := Bd.notSynchronized
  have hrt := Bd.returns
  have X0 : Stand p l e ({ frames := 2, cells := 0, slots := 0, locals := 27 } : Room) s m #[(.int i), (.ref a0)] below meth c s₁ [] 0 0 := Stand.of_body Bd
  have e0 : s₁.heap = h0 := by rw [← hh, Bd.state]; rfl
  have N0 := Fr.nil n0
  refine own_cast (P := own_End s (Q_uck Z i a0 kb vs w1 h0 n0) ({ frames := 2, cells := 0, slots := 0, locals := 27 } : Room).cells ({ frames := 2, cells := 0, slots := 0, locals := 27 } : Room).slots) (ef_uck m i a0) ?_
  refine g_iloadN X0 hx hby d_uck_0 rfl (rfl : 0 + 1 = 1) ?_
  refine g_aloadN X0 hx hby d_uck_1 rfl rfl (rfl : 1 + 1 = 2) ?_
  obtain ⟨_, _, ⟨T11, L11, k11, n11⟩, -, X11, ⟨Lc11, hQ11, l11, y11, z11⟩, st11⟩ := Jvm.LawKit.callS X0 hx (y := mN19) hown (mvT hZ (hw _ (own_M 128 rfl))) (mvT hZ (hw _ (own_M 129 rfl))) (mvT hZ (hw _ (own_M 17 rfl))) (mvT hZ (hw _ (own_M 130 rfl))) (by decide) (backOf (W := 1) (rm_ul l Z aT hw [] a0 kb vs h0 n0 Z0 hp0) hZ (hw _ (own_M 130 rfl)) (hw _ (own_M 17 rfl)) (by decide) (by decide)) (g := (mkF m 2 #[.val (.int i), .val (.ref a0)] [(.ref a0), (.int i)])) rfl (by rw [hml]; rfl) (argsL := [(.ref a0)]) (rest := [(.int i)]) (lenOf pd1 rfl) rfl (by show 2 * 0 + _ ≤ _; exact Nat.le_of_eq rfl) (hb hby d_uck_2) (fun _ _ => ⟨rfl, e0, (by decide : 0 + 0 ≤ _), (by decide : 0 + 0 ≤ _)⟩)
  dsimp only [Pt.U, Pt.locs, Pt.cells, Pt.slots] at X11 l11 y11 z11 st11 hQ11
  subst l11 y11 z11
  obtain ⟨rfl, N11q, eq11⟩ := hQ11
  have N11 := Fr.app N0 N11q
  refine own_go st11 ?_
  show own_Got p e below _ T11 (mkF m 5 #[.val (.int i), .val (.ref a0)] [(.int (5 : Int32)), (.int i)])
  obtain ⟨_, _, ⟨T12, L12, k12, n12⟩, -, X12, ⟨Lc12, hQ12, l12, y12, z12⟩, st12⟩ := Jvm.LawKit.callS X11 hx (y := mN8) hown (mvT hZ (hw _ (own_M 131 rfl))) (mvT hZ (hw _ (own_M 97 rfl))) (mvT hZ (hw _ (own_M 3 rfl))) (mvT hZ (hw _ (own_M 98 rfl))) (by decide) (backOf (W := 0) (rm_sck l Z aT hw [] i (5 : Int32) w1 h0 n0 Z0 hp1 hi0 hi1 hw1) hZ (hw _ (own_M 98 rfl)) (hw _ (own_M 3 rfl)) (by decide) (by decide)) (g := (mkF m 5 #[.val (.int i), .val (.ref a0)] [(.int (5 : Int32)), (.int i)])) rfl (by rw [hml]; rfl) (argsL := [(.int i), (.int (5 : Int32))]) (rest := []) (lenOf pd2 rfl) rfl (by show 2 * 0 + _ ≤ _; exact Nat.le_of_eq rfl) (hb hby d_uck_5) (fun _ _ => ⟨rfl, eq11, (by decide : 0 + 0 ≤ _), (by decide : 0 + 0 ≤ _)⟩)
  dsimp only [Pt.U, Pt.locs, Pt.cells, Pt.slots] at X12 l12 y12 z12 st12 hQ12
  subst l12 y12 z12
  obtain ⟨rfl, N12q, eq12⟩ := hQ12
  have N12 := Fr.app N11 N12q
  refine own_go st12 ?_
  show own_Got p e below _ T12 (mkF m 8 #[.val (.int i), .val (.ref a0)] [])
  refine own_retV X12 hx hby hlk hrt d_uck_8 (by decide) (by decide) ?_
  show Q_uck Z i a0 kb vs w1 h0 n0 _ T12.heap _
  exact ⟨rfl, N12, eq12⟩
theorem d_gch0_0 : decode jdk_52_method_5_code 0 = .ok (.getstatic 44, 3) := by decide +kernel
theorem d_gch0_3 : decode jdk_52_method_5_code 3 = .ok (.ifCond .ne 25, 3) := by decide +kernel
theorem d_gch0_28 : decode jdk_52_method_5_code 28 = .ok (.iload_n 1, 1) := by decide +kernel
theorem d_gch0_29 : decode jdk_52_method_5_code 29 = .ok (.iconst 1, 1) := by decide +kernel
theorem d_gch0_30 : decode jdk_52_method_5_code 30 = .ok (.ishl, 1) := by decide +kernel
theorem d_gch0_31 : decode jdk_52_method_5_code 31 = .ok (.istore_n 1, 1) := by decide +kernel
theorem d_gch0_32 : decode jdk_52_method_5_code 32 = .ok (.aload_n 0, 1) := by decide +kernel
theorem d_gch0_33 : decode jdk_52_method_5_code 33 = .ok (.iload_n 1, 1) := by decide +kernel
theorem d_gch0_34 : decode jdk_52_method_5_code 34 = .ok (.iinc 1 1, 3) := by decide +kernel
theorem d_gch0_37 : decode jdk_52_method_5_code 37 = .ok (.baload, 1) := by decide +kernel
theorem d_gch0_38 : decode jdk_52_method_5_code 38 = .ok (.sipush 255, 3) := by decide +kernel
theorem d_gch0_41 : decode jdk_52_method_5_code 41 = .ok (.iand, 1) := by decide +kernel
theorem d_gch0_42 : decode jdk_52_method_5_code 42 = .ok (.getstatic 59, 3) := by decide +kernel
theorem d_gch0_45 : decode jdk_52_method_5_code 45 = .ok (.ishl, 1) := by decide +kernel
theorem d_gch0_46 : decode jdk_52_method_5_code 46 = .ok (.aload_n 0, 1) := by decide +kernel
theorem d_gch0_47 : decode jdk_52_method_5_code 47 = .ok (.iload_n 1, 1) := by decide +kernel
theorem d_gch0_48 : decode jdk_52_method_5_code 48 = .ok (.baload, 1) := by decide +kernel
theorem d_gch0_49 : decode jdk_52_method_5_code 49 = .ok (.sipush 255, 3) := by decide +kernel
theorem d_gch0_52 : decode jdk_52_method_5_code 52 = .ok (.iand, 1) := by decide +kernel
theorem d_gch0_53 : decode jdk_52_method_5_code 53 = .ok (.getstatic 63, 3) := by decide +kernel
theorem d_gch0_56 : decode jdk_52_method_5_code 56 = .ok (.ishl, 1) := by decide +kernel
theorem d_gch0_57 : decode jdk_52_method_5_code 57 = .ok (.ior, 1) := by decide +kernel
theorem d_gch0_58 : decode jdk_52_method_5_code 58 = .ok (.i2c, 1) := by decide +kernel
theorem d_gch0_59 : decode jdk_52_method_5_code 59 = .ok (.ireturn, 1) := by decide +kernel
theorem ef_gch0 (m : MethodId) (a0 : Addr) : entryFrame m #[(.ref a0), (.int (0 : Int32))] 2 = mkF m 0 #[.val (.ref a0), .val (.int (0 : Int32))] [] := by first | (simp [entryFrame, mkF, argsToLocals, Value.category]; done) | rfl
def Q_gch0 (Z : State) (a0 : Addr) (kb : ClassId) (c0 : Int32) (c1 : Int32) (c2 : Int32) (c3 : Int32) (c4 : Int32) (h0 : Heap) (n0 : Nat) (v : Option Value) (h : Heap) (L : List Loc) : Prop := v = some (.int c0) ∧ Fr n0 L ∧ h = h0
set_option maxRecDepth 65536 in
set_option maxHeartbeats 40000000 in
theorem rm_gch0 (l : Launch) (Z : State) (aT : Array Value) (hw : ∀ d ∈ tables_1, d.before aT Z = true) (ws : List Jvm.Cond) (a0 : Addr) (kb : ClassId) (c0 : Int32) (c1 : Int32) (c2 : Int32) (c3 : Int32) (c4 : Int32) (h0 : Heap) (n0 : Nat) (Z0 : n0 ≤ h0.size) (hp0 : Arv Z h0 a0 kb .byte (10 : Int32) [(.int ((c0 >>> ((0 : Int32) &&& 31)).toInt8.toInt32)), (.int ((c0 >>> ((8 : Int32) &&& 31)).toInt8.toInt32)), (.int ((c1 >>> ((0 : Int32) &&& 31)).toInt8.toInt32)), (.int ((c1 >>> ((8 : Int32) &&& 31)).toInt8.toInt32)), (.int ((c2 >>> ((0 : Int32) &&& 31)).toInt8.toInt32)), (.int ((c2 >>> ((8 : Int32) &&& 31)).toInt8.toInt32)), (.int ((c3 >>> ((0 : Int32) &&& 31)).toInt8.toInt32)), (.int ((c3 >>> ((8 : Int32) &&& 31)).toInt8.toInt32)), (.int ((c4 >>> ((0 : Int32) &&& 31)).toInt8.toInt32)), (.int ((c4 >>> ((8 : Int32) &&& 31)).toInt8.toInt32))] (.int (0 : Int32))) (hp1 : Sta Z h0 "java/lang/StringUTF16" "$assertionsDisabled" "Z" (.int (1 : Int32))) (hp2 : Sta Z h0 "java/lang/StringUTF16" "HI_BYTE_SHIFT" "I" (.int (0 : Int32))) (hp3 : Sta Z h0 "java/lang/StringUTF16" "LO_BYTE_SHIFT" "I" (.int (8 : Int32))) (hr0 : own_chr c0) :
    MetFree l mN18 (head1 (Jvm.Cond.code mN18 jdk_52_method_5_code 2 (some .char) :: ws) ({ frames := 0, cells := 0, slots := 0, locals := 0 } : Room)) (fun a U => a = #[(.ref a0), (.int (0 : Int32))] ∧ Z.Warmed39 U.vm ∧ U.heap = h0) (fun _ _ _ _ _ => True) (fun _ U o U' => ∃ v L, o = .returned v ∧ Q_gch0 Z a0 kb c0 c1 c2 c3 c4 h0 n0 v U'.heap L ∧ FrameEnd U o U' L ({ frames := 0, cells := 0, slots := 0, locals := 0 } : Room).cells ({ frames := 0, cells := 0, slots := 0, locals := 0 } : Room).slots) := by
  refine MetFree.of_bodySF (plainFor_of_name pn2) hisR ?_
  intro p e s m args below meth c s₁ Bd hml0 hP hK
  obtain ⟨rfl, hZ, hh⟩ := hP
  have hx := Bd.exec
  have hby := Bd.bytes
  have hml : c.maxLocals = 2 := hml0
  have hown : s.vm.findClass "java/lang/StringUTF16" = some m.cls := findClass_of_methodNamed Bd.named
  have hnm := (name_of_methodNamed Bd.named Bd.method).1
  have hlk := Bd.notSynchronized
  have hrt := Bd.returns
  have X0 : Stand p l e ({ frames := 0, cells := 0, slots := 0, locals := 0 } : Room) s m #[(.ref a0), (.int (0 : Int32))] below meth c s₁ [] 0 0 := Stand.of_body Bd
  have e0 : s₁.heap = h0 := by rw [← hh, Bd.state]; rfl
  have N0 := Fr.nil n0
  refine own_cast (P := own_End s (Q_gch0 Z a0 kb c0 c1 c2 c3 c4 h0 n0) ({ frames := 0, cells := 0, slots := 0, locals := 0 } : Room).cells ({ frames := 0, cells := 0, slots := 0, locals := 0 } : Room).slots) (ef_gch0 m a0) ?_
  obtain ⟨T13, X13, e13, st13⟩ := getS2 X0 hx hZ hown (host := "") (Or.inl (hw _ (own_M 116 rfl))) Via.refl e0 hp1 (g := (mkF m 0 #[.val (.ref a0), .val (.int (0 : Int32))] [])) rfl (hb hby d_gch0_0)
  refine own_go st13 ?_
  show own_Got p e below _ T13 (mkF m 3 #[.val (.ref a0), .val (.int (0 : Int32))] [(.int (1 : Int32))])
  refine g_ifT X13 hx hby d_gch0_3 ((if0 _ _).trans (feq (by decide : ¬ ((1 : Int32) = (0 : Int32)))).2) (by decide) (pc' := 28) (by decide) ?_
  refine g_iloadN X13 hx hby d_gch0_28 rfl (rfl : 28 + 1 = 29) ?_
  refine g_iconst X13 hx hby (1 : Int32) d_gch0_29 (by decide) (rfl : 29 + 1 = 30) ?_
  refine g_ishl X13 hx hby d_gch0_30 (rfl : 30 + 1 = 31) ?_
  rw [(by decide : ((0 : Int32) <<< ((1 : Int32) &&& 31)) = (0 : Int32))]
  refine g_istoreN X13 hx hby #[.val (.ref a0), .val (.int (0 : Int32))] d_gch0_31 rfl (rfl : 31 + 1 = 32) ?_
  refine g_aloadN X13 hx hby d_gch0_32 rfl rfl (rfl : 32 + 1 = 33) ?_
  refine g_iloadN X13 hx hby d_gch0_33 rfl (rfl : 33 + 1 = 34) ?_
  refine g_iinc X13 hx hby #[.val (.ref a0), .val (.int ((0 : Int32) + (1 : Int32)))] d_gch0_34 rfl rfl (rfl : 34 + 3 = 37) ?_
  rw [(by decide : ((0 : Int32) + (1 : Int32)) = (1 : Int32))]
  refine g_baload X13 hx hby hZ e13 (v := (.int ((c0 >>> ((0 : Int32) &&& 31)).toInt8.toInt32))) hp0 ⟨by decide, by decide⟩ rfl d_gch0_37 (rfl : 37 + 1 = 38) ?_
  refine g_sipush X13 hx hby (255 : Int32) d_gch0_38 (by decide) (rfl : 38 + 3 = 41) ?_
  refine g_iand X13 hx hby d_gch0_41 (rfl : 41 + 1 = 42) ?_
  obtain ⟨T14, X14, e14, st14⟩ := getS2 X13 hx hZ hown (host := "") (Or.inl (hw _ (own_M 117 rfl))) Via.refl e13 hp2 (g := (mkF m 42 #[.val (.ref a0), .val (.int (1 : Int32))] [(.int (((c0 >>> ((0 : Int32) &&& 31)).toInt8.toInt32) &&& (255 : Int32)))])) rfl (hb hby d_gch0_42)
  refine own_go st14 ?_
  show own_Got p e below _ T14 (mkF m 45 #[.val (.ref a0), .val (.int (1 : Int32))] [(.int (0 : Int32)), (.int (((c0 >>> ((0 : Int32) &&& 31)).toInt8.toInt32) &&& (255 : Int32)))])
  refine g_ishl X14 hx hby d_gch0_45 (rfl : 45 + 1 = 46) ?_
  refine g_aloadN X14 hx hby d_gch0_46 rfl rfl (rfl : 46 + 1 = 47) ?_
  refine g_iloadN X14 hx hby d_gch0_47 rfl (rfl : 47 + 1 = 48) ?_
  refine g_baload X14 hx hby hZ e14 (v := (.int ((c0 >>> ((8 : Int32) &&& 31)).toInt8.toInt32))) hp0 ⟨by decide, by decide⟩ rfl d_gch0_48 (rfl : 48 + 1 = 49) ?_
  refine g_sipush X14 hx hby (255 : Int32) d_gch0_49 (by decide) (rfl : 49 + 3 = 52) ?_
  refine g_iand X14 hx hby d_gch0_52 (rfl : 52 + 1 = 53) ?_
  obtain ⟨T15, X15, e15, st15⟩ := getS2 X14 hx hZ hown (host := "") (Or.inl (hw _ (own_M 118 rfl))) Via.refl e14 hp3 (g := (mkF m 53 #[.val (.ref a0), .val (.int (1 : Int32))] [(.int (((c0 >>> ((8 : Int32) &&& 31)).toInt8.toInt32) &&& (255 : Int32))), (.int ((((c0 >>> ((0 : Int32) &&& 31)).toInt8.toInt32) &&& (255 : Int32)) <<< ((0 : Int32) &&& 31)))])) rfl (hb hby d_gch0_53)
  refine own_go st15 ?_
  show own_Got p e below _ T15 (mkF m 56 #[.val (.ref a0), .val (.int (1 : Int32))] [(.int (8 : Int32)), (.int (((c0 >>> ((8 : Int32) &&& 31)).toInt8.toInt32) &&& (255 : Int32))), (.int ((((c0 >>> ((0 : Int32) &&& 31)).toInt8.toInt32) &&& (255 : Int32)) <<< ((0 : Int32) &&& 31)))])
  refine g_ishl X15 hx hby d_gch0_56 (rfl : 56 + 1 = 57) ?_
  refine g_ior X15 hx hby d_gch0_57 (rfl : 57 + 1 = 58) ?_
  refine g_i2c X15 hx hby d_gch0_58 (rfl : 58 + 1 = 59) ?_
  refine own_retN X15 hx hby hlk (t := .char) hrt (by simp) d_gch0_59 (by decide) (by decide) ?_
  show Q_gch0 Z a0 kb c0 c1 c2 c3 c4 h0 n0 _ T15.heap _
  exact ⟨(congrArg (fun z => some (Value.int z)) (own_gch c0 hr0)), N0, e15⟩
theorem d_uca0_0 : decode jdk_52_method_83_code 0 = .ok (.iload_n 1, 1) := by decide +kernel
theorem d_uca0_1 : decode jdk_52_method_83_code 1 = .ok (.aload_n 0, 1) := by decide +kernel
theorem d_uca0_2 : decode jdk_52_method_83_code 2 = .ok (.invokestatic 67, 3) := by decide +kernel
theorem d_uca0_5 : decode jdk_52_method_83_code 5 = .ok (.aload_n 0, 1) := by decide +kernel
theorem d_uca0_6 : decode jdk_52_method_83_code 6 = .ok (.iload_n 1, 1) := by decide +kernel
theorem d_uca0_7 : decode jdk_52_method_83_code 7 = .ok (.invokestatic 71, 3) := by decide +kernel
theorem d_uca0_10 : decode jdk_52_method_83_code 10 = .ok (.ireturn, 1) := by decide +kernel
theorem pd3 : parseMethodDescriptor "(I[B)V" = some ⟨[.int, (.array .byte)], none⟩ := by decide +kernel
theorem pd4 : parseMethodDescriptor "([BI)C" = some ⟨[(.array .byte), .int], some .char⟩ := by decide +kernel
theorem ef_uca0 (m : MethodId) (a0 : Addr) : entryFrame m #[(.ref a0), (.int (0 : Int32))] 2 = mkF m 0 #[.val (.ref a0), .val (.int (0 : Int32))] [] := by first | (simp [entryFrame, mkF, argsToLocals, Value.category]; done) | rfl
def Q_uca0 (Z : State) (a0 : Addr) (kb : ClassId) (w1 : Value) (c0 : Int32) (c1 : Int32) (c2 : Int32) (c3 : Int32) (c4 : Int32) (h0 : Heap) (n0 : Nat) (v : Option Value) (h : Heap) (L : List Loc) : Prop := v = some (.int c0) ∧ Fr n0 L ∧ h = h0
set_option maxRecDepth 65536 in
set_option maxHeartbeats 40000000 in
theorem rm_uca0 (l : Launch) (Z : State) (aT : Array Value) (hw : ∀ d ∈ tables_1, d.before aT Z = true) (ws : List Jvm.Cond) (a0 : Addr) (kb : ClassId) (w1 : Value) (c0 : Int32) (c1 : Int32) (c2 : Int32) (c3 : Int32) (c4 : Int32) (h0 : Heap) (n0 : Nat) (Z0 : n0 ≤ h0.size) (hp0 : Arv Z h0 a0 kb .byte (10 : Int32) [(.int ((c0 >>> ((0 : Int32) &&& 31)).toInt8.toInt32)), (.int ((c0 >>> ((8 : Int32) &&& 31)).toInt8.toInt32)), (.int ((c1 >>> ((0 : Int32) &&& 31)).toInt8.toInt32)), (.int ((c1 >>> ((8 : Int32) &&& 31)).toInt8.toInt32)), (.int ((c2 >>> ((0 : Int32) &&& 31)).toInt8.toInt32)), (.int ((c2 >>> ((8 : Int32) &&& 31)).toInt8.toInt32)), (.int ((c3 >>> ((0 : Int32) &&& 31)).toInt8.toInt32)), (.int ((c3 >>> ((8 : Int32) &&& 31)).toInt8.toInt32)), (.int ((c4 >>> ((0 : Int32) &&& 31)).toInt8.toInt32)), (.int ((c4 >>> ((8 : Int32) &&& 31)).toInt8.toInt32))] (.int (0 : Int32))) (hp1 : Sta Z h0 "java/lang/StringUTF16" "$assertionsDisabled" "Z" (.int (1 : Int32))) (hp2 : Sta Z h0 "java/lang/StringUTF16" "HI_BYTE_SHIFT" "I" (.int (0 : Int32))) (hp3 : Sta Z h0 "java/lang/StringUTF16" "LO_BYTE_SHIFT" "I" (.int (8 : Int32))) (hp4 : Sta Z h0 "jdk/internal/util/Preconditions" "SIOOBE_FORMATTER" "Ljava/util/function/BiFunction;" w1) (hr0 : own_chr c0) (hw1 : w1.isRef = true) :
    MetFree l mN13 (head1 (Jvm.Cond.code mN13 jdk_52_method_83_code 2 (some .char) :: ws) ({ frames := 3, cells := 0, slots := 0, locals := 40 } : Room)) (fun a U => a = #[(.ref a0), (.int (0 : Int32))] ∧ Z.Warmed39 U.vm ∧ U.heap = h0) (fun _ _ _ _ _ => True) (fun _ U o U' => ∃ v L, o = .returned v ∧ Q_uca0 Z a0 kb w1 c0 c1 c2 c3 c4 h0 n0 v U'.heap L ∧ FrameEnd U o U' L ({ frames := 3, cells := 0, slots := 0, locals := 40 } : Room).cells ({ frames := 3, cells := 0, slots := 0, locals := 40 } : Room).slots) := by
  refine MetFree.of_bodySF (plainFor_of_name pn2) hisR ?_
  intro p e s m args below meth c s₁ Bd hml0 hP hK
  obtain ⟨rfl, hZ, hh⟩ := hP
  have hx := Bd.exec
  have hby := Bd.bytes
  have hml : c.maxLocals = 2 := hml0
  have hown : s.vm.findClass "java/lang/StringUTF16" = some m.cls := findClass_of_methodNamed Bd.named
  have hnm := (name_of_methodNamed Bd.named Bd.method).1
  have hlk := Bd.notSynchronized
  have hrt := Bd.returns
  have X0 : Stand p l e ({ frames := 3, cells := 0, slots := 0, locals := 40 } : Room) s m #[(.ref a0), (.int (0 : Int32))] below meth c s₁ [] 0 0 := Stand.of_body Bd
  have e0 : s₁.heap = h0 := by rw [← hh, Bd.state]; rfl
  have N0 := Fr.nil n0
  refine own_cast (P := own_End s (Q_uca0 Z a0 kb w1 c0 c1 c2 c3 c4 h0 n0) ({ frames := 3, cells := 0, slots := 0, locals := 40 } : Room).cells ({ frames := 3, cells := 0, slots := 0, locals := 40 } : Room).slots) (ef_uca0 m a0) ?_
  refine g_iloadN X0 hx hby d_uca0_0 rfl (rfl : 0 + 1 = 1) ?_
  refine g_aloadN X0 hx hby d_uca0_1 rfl rfl (rfl : 1 + 1 = 2) ?_
  obtain ⟨_, _, ⟨T16, L16, k16, n16⟩, -, X16, ⟨Lc16, hQ16, l16, y16, z16⟩, st16⟩ := Jvm.LawKit.callS X0 hx (y := mN14) hown (mvT hZ (hw _ (own_M 125 rfl))) (mvT hZ (hw _ (own_M 126 rfl))) (mvT hZ (hw _ (own_M 17 rfl))) (mvT hZ (hw _ (own_M 127 rfl))) (by decide) (backOf (W := 0) (rm_uck l Z aT hw [] (0 : Int32) a0 kb [(.int ((c0 >>> ((0 : Int32) &&& 31)).toInt8.toInt32)), (.int ((c0 >>> ((8 : Int32) &&& 31)).toInt8.toInt32)), (.int ((c1 >>> ((0 : Int32) &&& 31)).toInt8.toInt32)), (.int ((c1 >>> ((8 : Int32) &&& 31)).toInt8.toInt32)), (.int ((c2 >>> ((0 : Int32) &&& 31)).toInt8.toInt32)), (.int ((c2 >>> ((8 : Int32) &&& 31)).toInt8.toInt32)), (.int ((c3 >>> ((0 : Int32) &&& 31)).toInt8.toInt32)), (.int ((c3 >>> ((8 : Int32) &&& 31)).toInt8.toInt32)), (.int ((c4 >>> ((0 : Int32) &&& 31)).toInt8.toInt32)), (.int ((c4 >>> ((8 : Int32) &&& 31)).toInt8.toInt32))] w1 h0 n0 Z0 hp0 hp4 (by decide) (by decide) hw1) hZ (hw _ (own_M 127 rfl)) (hw _ (own_M 17 rfl)) (by decide) (by decide)) (g := (mkF m 2 #[.val (.ref a0), .val (.int (0 : Int32))] [(.ref a0), (.int (0 : Int32))])) rfl (by rw [hml]; rfl) (argsL := [(.int (0 : Int32)), (.ref a0)]) (rest := []) (lenOf pd3 rfl) rfl (by show 2 * 0 + _ ≤ _; exact Nat.le_of_eq rfl) (hb hby d_uca0_2) (fun _ _ => ⟨rfl, e0, (by decide : 0 + 0 ≤ _), (by decide : 0 + 0 ≤ _)⟩)
  dsimp only [Pt.U, Pt.locs, Pt.cells, Pt.slots] at X16 l16 y16 z16 st16 hQ16
  subst l16 y16 z16
  obtain ⟨rfl, N16q, eq16⟩ := hQ16
  have N16 := Fr.app N0 N16q
  refine own_go st16 ?_
  show own_Got p e below _ T16 (mkF m 5 #[.val (.ref a0), .val (.int (0 : Int32))] [])
  refine g_aloadN X16 hx hby d_uca0_5 rfl rfl (rfl : 5 + 1 = 6) ?_
  refine g_iloadN X16 hx hby d_uca0_6 rfl (rfl : 6 + 1 = 7) ?_
  obtain ⟨_, _, ⟨T17, L17, k17, n17⟩, -, X17, ⟨Lc17, hQ17, l17, y17, z17⟩, st17⟩ := Jvm.LawKit.callS X16 hx (y := mN18) hown (mvT hZ (hw _ (own_M 119 rfl))) (mvT hZ (hw _ (own_M 120 rfl))) (mvT hZ (hw _ (own_M 17 rfl))) (mvT hZ (hw _ (own_M 121 rfl))) (by decide) (backOf (W := 0) (rm_gch0 l Z aT hw [] a0 kb _ _ _ _ _ h0 n0 Z0 hp0 hp1 hp2 hp3 hr0) hZ (hw _ (own_M 121 rfl)) (hw _ (own_M 17 rfl)) (by decide) (by decide)) (g := (mkF m 7 #[.val (.ref a0), .val (.int (0 : Int32))] [(.int (0 : Int32)), (.ref a0)])) rfl (by rw [hml]; rfl) (argsL := [(.ref a0), (.int (0 : Int32))]) (rest := []) (lenOf pd4 rfl) rfl (by show 2 * 0 + _ ≤ _; exact Nat.le_of_eq rfl) (hb hby d_uca0_7) (fun _ _ => ⟨rfl, eq16, (by decide : 0 + 0 ≤ _), (by decide : 0 + 0 ≤ _)⟩)
  dsimp only [Pt.U, Pt.locs, Pt.cells, Pt.slots] at X17 l17 y17 z17 st17 hQ17
  subst l17 y17 z17
  obtain ⟨rfl, N17q, eq17⟩ := hQ17
  have N17 := Fr.app N16 N17q
  refine own_go st17 ?_
  show own_Got p e below _ T17 (mkF m 10 #[.val (.ref a0), .val (.int (0 : Int32))] [(.int c0)])
  refine own_retN X17 hx hby hlk (t := .char) hrt (by simp) d_uca0_10 (by decide) (by decide) ?_
  show Q_uca0 Z a0 kb w1 c0 c1 c2 c3 c4 h0 n0 _ T17.heap _
  exact ⟨(congrArg (fun z => some (Value.int z)) (own_cch c0 hr0)), N17, eq17⟩
theorem d_lca0_0 : decode jdk_43_method_2_code 0 = .ok (.iload_n 1, 1) := by decide +kernel
theorem d_lca0_1 : decode jdk_43_method_2_code 1 = .ok (.aload_n 0, 1) := by decide +kernel
theorem d_lca0_2 : decode jdk_43_method_2_code 2 = .ok (.arraylength, 1) := by decide +kernel
theorem d_lca0_3 : decode jdk_43_method_2_code 3 = .ok (.invokestatic 9, 3) := by decide +kernel
theorem d_lca0_6 : decode jdk_43_method_2_code 6 = .ok (.aload_n 0, 1) := by decide +kernel
theorem d_lca0_7 : decode jdk_43_method_2_code 7 = .ok (.iload_n 1, 1) := by decide +kernel
theorem d_lca0_8 : decode jdk_43_method_2_code 8 = .ok (.baload, 1) := by decide +kernel
theorem d_lca0_9 : decode jdk_43_method_2_code 9 = .ok (.sipush 255, 3) := by decide +kernel
theorem d_lca0_12 : decode jdk_43_method_2_code 12 = .ok (.iand, 1) := by decide +kernel
theorem d_lca0_13 : decode jdk_43_method_2_code 13 = .ok (.i2c, 1) := by decide +kernel
theorem d_lca0_14 : decode jdk_43_method_2_code 14 = .ok (.ireturn, 1) := by decide +kernel
theorem pn3 : plainName "java/lang/StringLatin1" = true := by first | (simp [plainName, overriddenIn]; done) | decide +kernel
theorem ef_lca0 (m : MethodId) (a0 : Addr) : entryFrame m #[(.ref a0), (.int (0 : Int32))] 2 = mkF m 0 #[.val (.ref a0), .val (.int (0 : Int32))] [] := by first | (simp [entryFrame, mkF, argsToLocals, Value.category]; done) | rfl
def Q_lca0 (Z : State) (a0 : Addr) (kb : ClassId) (w1 : Value) (c0 : Int32) (c1 : Int32) (c2 : Int32) (c3 : Int32) (c4 : Int32) (h0 : Heap) (n0 : Nat) (v : Option Value) (h : Heap) (L : List Loc) : Prop := v = some (.int c0) ∧ Fr n0 L ∧ h = h0
set_option maxRecDepth 65536 in
set_option maxHeartbeats 40000000 in
theorem rm_lca0 (l : Launch) (Z : State) (aT : Array Value) (hw : ∀ d ∈ tables_1, d.before aT Z = true) (ws : List Jvm.Cond) (a0 : Addr) (kb : ClassId) (w1 : Value) (c0 : Int32) (c1 : Int32) (c2 : Int32) (c3 : Int32) (c4 : Int32) (h0 : Heap) (n0 : Nat) (Z0 : n0 ≤ h0.size) (hp0 : Arv Z h0 a0 kb .byte (5 : Int32) [(.int (c0.toInt8.toInt32)), (.int (c1.toInt8.toInt32)), (.int (c2.toInt8.toInt32)), (.int (c3.toInt8.toInt32)), (.int (c4.toInt8.toInt32))] (.int (0 : Int32))) (hp1 : Sta Z h0 "jdk/internal/util/Preconditions" "SIOOBE_FORMATTER" "Ljava/util/function/BiFunction;" w1) (hr0 : own_chr c0) (h5 : ¬ ((255 : Int32) < c0)) (hw1 : w1.isRef = true) :
    MetFree l mN12 (head1 (Jvm.Cond.code mN12 jdk_43_method_2_code 2 (some .char) :: ws) ({ frames := 2, cells := 0, slots := 0, locals := 27 } : Room)) (fun a U => a = #[(.ref a0), (.int (0 : Int32))] ∧ Z.Warmed39 U.vm ∧ U.heap = h0) (fun _ _ _ _ _ => True) (fun _ U o U' => ∃ v L, o = .returned v ∧ Q_lca0 Z a0 kb w1 c0 c1 c2 c3 c4 h0 n0 v U'.heap L ∧ FrameEnd U o U' L ({ frames := 2, cells := 0, slots := 0, locals := 27 } : Room).cells ({ frames := 2, cells := 0, slots := 0, locals := 27 } : Room).slots) := by
  refine MetFree.of_bodySF (plainFor_of_name pn3) hisR ?_
  intro p e s m args below meth c s₁ Bd hml0 hP hK
  obtain ⟨rfl, hZ, hh⟩ := hP
  have hx := Bd.exec
  have hby := Bd.bytes
  have hml : c.maxLocals = 2 := hml0
  have hown : s.vm.findClass "java/lang/StringLatin1" = some m.cls := findClass_of_methodNamed Bd.named
  have hnm := (name_of_methodNamed Bd.named Bd.method).1
  have hlk := Bd.notSynchronized
  have hrt := Bd.returns
  have X0 : Stand p l e ({ frames := 2, cells := 0, slots := 0, locals := 27 } : Room) s m #[(.ref a0), (.int (0 : Int32))] below meth c s₁ [] 0 0 := Stand.of_body Bd
  have e0 : s₁.heap = h0 := by rw [← hh, Bd.state]; rfl
  have N0 := Fr.nil n0
  refine own_cast (P := own_End s (Q_lca0 Z a0 kb w1 c0 c1 c2 c3 c4 h0 n0) ({ frames := 2, cells := 0, slots := 0, locals := 27 } : Room).cells ({ frames := 2, cells := 0, slots := 0, locals := 27 } : Room).slots) (ef_lca0 m a0) ?_
  refine g_iloadN X0 hx hby d_lca0_0 rfl (rfl : 0 + 1 = 1) ?_
  refine g_aloadN X0 hx hby d_lca0_1 rfl rfl (rfl : 1 + 1 = 2) ?_
  refine g_alen X0 hx hby hZ e0 hp0 d_lca0_2 (rfl : 2 + 1 = 3) ?_
  obtain ⟨_, _, ⟨T18, L18, k18, n18⟩, -, X18, ⟨Lc18, hQ18, l18, y18, z18⟩, st18⟩ := Jvm.LawKit.callS X0 hx (y := mN8) hown (mvT hZ (hw _ (own_M 96 rfl))) (mvT hZ (hw _ (own_M 97 rfl))) (mvT hZ (hw _ (own_M 3 rfl))) (mvT hZ (hw _ (own_M 98 rfl))) (by decide) (backOf (W := 0) (rm_sck l Z aT hw [] (0 : Int32) (5 : Int32) w1 h0 n0 Z0 hp1 (by decide) (by decide) hw1) hZ (hw _ (own_M 98 rfl)) (hw _ (own_M 3 rfl)) (by decide) (by decide)) (g := (mkF m 3 #[.val (.ref a0), .val (.int (0 : Int32))] [(.int (5 : Int32)), (.int (0 : Int32))])) rfl (by rw [hml]; rfl) (argsL := [(.int (0 : Int32)), (.int (5 : Int32))]) (rest := []) (lenOf pd2 rfl) rfl (by show 2 * 0 + _ ≤ _; exact Nat.le_of_eq rfl) (hb hby d_lca0_3) (fun _ _ => ⟨rfl, e0, (by decide : 0 + 0 ≤ _), (by decide : 0 + 0 ≤ _)⟩)
  dsimp only [Pt.U, Pt.locs, Pt.cells, Pt.slots] at X18 l18 y18 z18 st18 hQ18
  subst l18 y18 z18
  obtain ⟨rfl, N18q, eq18⟩ := hQ18
  have N18 := Fr.app N0 N18q
  refine own_go st18 ?_
  show own_Got p e below _ T18 (mkF m 6 #[.val (.ref a0), .val (.int (0 : Int32))] [])
  refine g_aloadN X18 hx hby d_lca0_6 rfl rfl (rfl : 6 + 1 = 7) ?_
  refine g_iloadN X18 hx hby d_lca0_7 rfl (rfl : 7 + 1 = 8) ?_
  refine g_baload X18 hx hby hZ eq18 (v := (.int (c0.toInt8.toInt32))) hp0 ⟨by decide, by decide⟩ rfl d_lca0_8 (rfl : 8 + 1 = 9) ?_
  refine g_sipush X18 hx hby (255 : Int32) d_lca0_9 (by decide) (rfl : 9 + 3 = 12) ?_
  refine g_iand X18 hx hby d_lca0_12 (rfl : 12 + 1 = 13) ?_
  refine g_i2c X18 hx hby d_lca0_13 (rfl : 13 + 1 = 14) ?_
  refine own_retN X18 hx hby hlk (t := .char) hrt (by simp) d_lca0_14 (by decide) (by decide) ?_
  show Q_lca0 Z a0 kb w1 c0 c1 c2 c3 c4 h0 n0 _ T18.heap _
  exact ⟨(congrArg (fun z => some (Value.int z)) (own_slc c0 hr0 h5)), N18, eq18⟩
theorem d_gch1_0 : decode jdk_52_method_5_code 0 = .ok (.getstatic 44, 3) := by decide +kernel
theorem d_gch1_3 : decode jdk_52_method_5_code 3 = .ok (.ifCond .ne 25, 3) := by decide +kernel
theorem d_gch1_28 : decode jdk_52_method_5_code 28 = .ok (.iload_n 1, 1) := by decide +kernel
theorem d_gch1_29 : decode jdk_52_method_5_code 29 = .ok (.iconst 1, 1) := by decide +kernel
theorem d_gch1_30 : decode jdk_52_method_5_code 30 = .ok (.ishl, 1) := by decide +kernel
theorem d_gch1_31 : decode jdk_52_method_5_code 31 = .ok (.istore_n 1, 1) := by decide +kernel
theorem d_gch1_32 : decode jdk_52_method_5_code 32 = .ok (.aload_n 0, 1) := by decide +kernel
theorem d_gch1_33 : decode jdk_52_method_5_code 33 = .ok (.iload_n 1, 1) := by decide +kernel
theorem d_gch1_34 : decode jdk_52_method_5_code 34 = .ok (.iinc 1 1, 3) := by decide +kernel
theorem d_gch1_37 : decode jdk_52_method_5_code 37 = .ok (.baload, 1) := by decide +kernel
theorem d_gch1_38 : decode jdk_52_method_5_code 38 = .ok (.sipush 255, 3) := by decide +kernel
theorem d_gch1_41 : decode jdk_52_method_5_code 41 = .ok (.iand, 1) := by decide +kernel
theorem d_gch1_42 : decode jdk_52_method_5_code 42 = .ok (.getstatic 59, 3) := by decide +kernel
theorem d_gch1_45 : decode jdk_52_method_5_code 45 = .ok (.ishl, 1) := by decide +kernel
theorem d_gch1_46 : decode jdk_52_method_5_code 46 = .ok (.aload_n 0, 1) := by decide +kernel
theorem d_gch1_47 : decode jdk_52_method_5_code 47 = .ok (.iload_n 1, 1) := by decide +kernel
theorem d_gch1_48 : decode jdk_52_method_5_code 48 = .ok (.baload, 1) := by decide +kernel
theorem d_gch1_49 : decode jdk_52_method_5_code 49 = .ok (.sipush 255, 3) := by decide +kernel
theorem d_gch1_52 : decode jdk_52_method_5_code 52 = .ok (.iand, 1) := by decide +kernel
theorem d_gch1_53 : decode jdk_52_method_5_code 53 = .ok (.getstatic 63, 3) := by decide +kernel
theorem d_gch1_56 : decode jdk_52_method_5_code 56 = .ok (.ishl, 1) := by decide +kernel
theorem d_gch1_57 : decode jdk_52_method_5_code 57 = .ok (.ior, 1) := by decide +kernel
theorem d_gch1_58 : decode jdk_52_method_5_code 58 = .ok (.i2c, 1) := by decide +kernel
theorem d_gch1_59 : decode jdk_52_method_5_code 59 = .ok (.ireturn, 1) := by decide +kernel
theorem ef_gch1 (m : MethodId) (a0 : Addr) : entryFrame m #[(.ref a0), (.int (1 : Int32))] 2 = mkF m 0 #[.val (.ref a0), .val (.int (1 : Int32))] [] := by first | (simp [entryFrame, mkF, argsToLocals, Value.category]; done) | rfl
def Q_gch1 (Z : State) (a0 : Addr) (kb : ClassId) (c0 : Int32) (c1 : Int32) (c2 : Int32) (c3 : Int32) (c4 : Int32) (h0 : Heap) (n0 : Nat) (v : Option Value) (h : Heap) (L : List Loc) : Prop := v = some (.int c1) ∧ Fr n0 L ∧ h = h0
set_option maxRecDepth 65536 in
set_option maxHeartbeats 40000000 in
theorem rm_gch1 (l : Launch) (Z : State) (aT : Array Value) (hw : ∀ d ∈ tables_1, d.before aT Z = true) (ws : List Jvm.Cond) (a0 : Addr) (kb : ClassId) (c0 : Int32) (c1 : Int32) (c2 : Int32) (c3 : Int32) (c4 : Int32) (h0 : Heap) (n0 : Nat) (Z0 : n0 ≤ h0.size) (hp0 : Arv Z h0 a0 kb .byte (10 : Int32) [(.int ((c0 >>> ((0 : Int32) &&& 31)).toInt8.toInt32)), (.int ((c0 >>> ((8 : Int32) &&& 31)).toInt8.toInt32)), (.int ((c1 >>> ((0 : Int32) &&& 31)).toInt8.toInt32)), (.int ((c1 >>> ((8 : Int32) &&& 31)).toInt8.toInt32)), (.int ((c2 >>> ((0 : Int32) &&& 31)).toInt8.toInt32)), (.int ((c2 >>> ((8 : Int32) &&& 31)).toInt8.toInt32)), (.int ((c3 >>> ((0 : Int32) &&& 31)).toInt8.toInt32)), (.int ((c3 >>> ((8 : Int32) &&& 31)).toInt8.toInt32)), (.int ((c4 >>> ((0 : Int32) &&& 31)).toInt8.toInt32)), (.int ((c4 >>> ((8 : Int32) &&& 31)).toInt8.toInt32))] (.int (0 : Int32))) (hp1 : Sta Z h0 "java/lang/StringUTF16" "$assertionsDisabled" "Z" (.int (1 : Int32))) (hp2 : Sta Z h0 "java/lang/StringUTF16" "HI_BYTE_SHIFT" "I" (.int (0 : Int32))) (hp3 : Sta Z h0 "java/lang/StringUTF16" "LO_BYTE_SHIFT" "I" (.int (8 : Int32))) (hr1 : own_chr c1) :
    MetFree l mN18 (head1 (Jvm.Cond.code mN18 jdk_52_method_5_code 2 (some .char) :: ws) ({ frames := 0, cells := 0, slots := 0, locals := 0 } : Room)) (fun a U => a = #[(.ref a0), (.int (1 : Int32))] ∧ Z.Warmed39 U.vm ∧ U.heap = h0) (fun _ _ _ _ _ => True) (fun _ U o U' => ∃ v L, o = .returned v ∧ Q_gch1 Z a0 kb c0 c1 c2 c3 c4 h0 n0 v U'.heap L ∧ FrameEnd U o U' L ({ frames := 0, cells := 0, slots := 0, locals := 0 } : Room).cells ({ frames := 0, cells := 0, slots := 0, locals := 0 } : Room).slots) := by
  refine MetFree.of_bodySF (plainFor_of_name pn2) hisR ?_
  intro p e s m args below meth c s₁ Bd hml0 hP hK
  obtain ⟨rfl, hZ, hh⟩ := hP
  have hx := Bd.exec
  have hby := Bd.bytes
  have hml : c.maxLocals = 2 := hml0
  have hown : s.vm.findClass "java/lang/StringUTF16" = some m.cls := findClass_of_methodNamed Bd.named
  have hnm := (name_of_methodNamed Bd.named Bd.method).1
  have hlk := Bd.notSynchronized
  have hrt := Bd.returns
  have X0 : Stand p l e ({ frames := 0, cells := 0, slots := 0, locals := 0 } : Room) s m #[(.ref a0), (.int (1 : Int32))] below meth c s₁ [] 0 0 := Stand.of_body Bd
  have e0 : s₁.heap = h0 := by rw [← hh, Bd.state]; rfl
  have N0 := Fr.nil n0
  refine own_cast (P := own_End s (Q_gch1 Z a0 kb c0 c1 c2 c3 c4 h0 n0) ({ frames := 0, cells := 0, slots := 0, locals := 0 } : Room).cells ({ frames := 0, cells := 0, slots := 0, locals := 0 } : Room).slots) (ef_gch1 m a0) ?_
  obtain ⟨T19, X19, e19, st19⟩ := getS2 X0 hx hZ hown (host := "") (Or.inl (hw _ (own_M 116 rfl))) Via.refl e0 hp1 (g := (mkF m 0 #[.val (.ref a0), .val (.int (1 : Int32))] [])) rfl (hb hby d_gch1_0)
  refine own_go st19 ?_
  show own_Got p e below _ T19 (mkF m 3 #[.val (.ref a0), .val (.int (1 : Int32))] [(.int (1 : Int32))])
  refine g_ifT X19 hx hby d_gch1_3 ((if0 _ _).trans (feq (by decide : ¬ ((1 : Int32) = (0 : Int32)))).2) (by decide) (pc' := 28) (by decide) ?_
  refine g_iloadN X19 hx hby d_gch1_28 rfl (rfl : 28 + 1 = 29) ?_
  refine g_iconst X19 hx hby (1 : Int32) d_gch1_29 (by decide) (rfl : 29 + 1 = 30) ?_
  refine g_ishl X19 hx hby d_gch1_30 (rfl : 30 + 1 = 31) ?_
  rw [(by decide : ((1 : Int32) <<< ((1 : Int32) &&& 31)) = (2 : Int32))]
  refine g_istoreN X19 hx hby #[.val (.ref a0), .val (.int (2 : Int32))] d_gch1_31 rfl (rfl : 31 + 1 = 32) ?_
  refine g_aloadN X19 hx hby d_gch1_32 rfl rfl (rfl : 32 + 1 = 33) ?_
  refine g_iloadN X19 hx hby d_gch1_33 rfl (rfl : 33 + 1 = 34) ?_
  refine g_iinc X19 hx hby #[.val (.ref a0), .val (.int ((2 : Int32) + (1 : Int32)))] d_gch1_34 rfl rfl (rfl : 34 + 3 = 37) ?_
  rw [(by decide : ((2 : Int32) + (1 : Int32)) = (3 : Int32))]
  refine g_baload X19 hx hby hZ e19 (v := (.int ((c1 >>> ((0 : Int32) &&& 31)).toInt8.toInt32))) hp0 ⟨by decide, by decide⟩ rfl d_gch1_37 (rfl : 37 + 1 = 38) ?_
  refine g_sipush X19 hx hby (255 : Int32) d_gch1_38 (by decide) (rfl : 38 + 3 = 41) ?_
  refine g_iand X19 hx hby d_gch1_41 (rfl : 41 + 1 = 42) ?_
  obtain ⟨T20, X20, e20, st20⟩ := getS2 X19 hx hZ hown (host := "") (Or.inl (hw _ (own_M 117 rfl))) Via.refl e19 hp2 (g := (mkF m 42 #[.val (.ref a0), .val (.int (3 : Int32))] [(.int (((c1 >>> ((0 : Int32) &&& 31)).toInt8.toInt32) &&& (255 : Int32)))])) rfl (hb hby d_gch1_42)
  refine own_go st20 ?_
  show own_Got p e below _ T20 (mkF m 45 #[.val (.ref a0), .val (.int (3 : Int32))] [(.int (0 : Int32)), (.int (((c1 >>> ((0 : Int32) &&& 31)).toInt8.toInt32) &&& (255 : Int32)))])
  refine g_ishl X20 hx hby d_gch1_45 (rfl : 45 + 1 = 46) ?_
  refine g_aloadN X20 hx hby d_gch1_46 rfl rfl (rfl : 46 + 1 = 47) ?_
  refine g_iloadN X20 hx hby d_gch1_47 rfl (rfl : 47 + 1 = 48) ?_
  refine g_baload X20 hx hby hZ e20 (v := (.int ((c1 >>> ((8 : Int32) &&& 31)).toInt8.toInt32))) hp0 ⟨by decide, by decide⟩ rfl d_gch1_48 (rfl : 48 + 1 = 49) ?_
  refine g_sipush X20 hx hby (255 : Int32) d_gch1_49 (by decide) (rfl : 49 + 3 = 52) ?_
  refine g_iand X20 hx hby d_gch1_52 (rfl : 52 + 1 = 53) ?_
  obtain ⟨T21, X21, e21, st21⟩ := getS2 X20 hx hZ hown (host := "") (Or.inl (hw _ (own_M 118 rfl))) Via.refl e20 hp3 (g := (mkF m 53 #[.val (.ref a0), .val (.int (3 : Int32))] [(.int (((c1 >>> ((8 : Int32) &&& 31)).toInt8.toInt32) &&& (255 : Int32))), (.int ((((c1 >>> ((0 : Int32) &&& 31)).toInt8.toInt32) &&& (255 : Int32)) <<< ((0 : Int32) &&& 31)))])) rfl (hb hby d_gch1_53)
  refine own_go st21 ?_
  show own_Got p e below _ T21 (mkF m 56 #[.val (.ref a0), .val (.int (3 : Int32))] [(.int (8 : Int32)), (.int (((c1 >>> ((8 : Int32) &&& 31)).toInt8.toInt32) &&& (255 : Int32))), (.int ((((c1 >>> ((0 : Int32) &&& 31)).toInt8.toInt32) &&& (255 : Int32)) <<< ((0 : Int32) &&& 31)))])
  refine g_ishl X21 hx hby d_gch1_56 (rfl : 56 + 1 = 57) ?_
  refine g_ior X21 hx hby d_gch1_57 (rfl : 57 + 1 = 58) ?_
  refine g_i2c X21 hx hby d_gch1_58 (rfl : 58 + 1 = 59) ?_
  refine own_retN X21 hx hby hlk (t := .char) hrt (by simp) d_gch1_59 (by decide) (by decide) ?_
  show Q_gch1 Z a0 kb c0 c1 c2 c3 c4 h0 n0 _ T21.heap _
  exact ⟨(congrArg (fun z => some (Value.int z)) (own_gch c1 hr1)), N0, e21⟩
theorem d_uca1_0 : decode jdk_52_method_83_code 0 = .ok (.iload_n 1, 1) := by decide +kernel
theorem d_uca1_1 : decode jdk_52_method_83_code 1 = .ok (.aload_n 0, 1) := by decide +kernel
theorem d_uca1_2 : decode jdk_52_method_83_code 2 = .ok (.invokestatic 67, 3) := by decide +kernel
theorem d_uca1_5 : decode jdk_52_method_83_code 5 = .ok (.aload_n 0, 1) := by decide +kernel
theorem d_uca1_6 : decode jdk_52_method_83_code 6 = .ok (.iload_n 1, 1) := by decide +kernel
theorem d_uca1_7 : decode jdk_52_method_83_code 7 = .ok (.invokestatic 71, 3) := by decide +kernel
theorem d_uca1_10 : decode jdk_52_method_83_code 10 = .ok (.ireturn, 1) := by decide +kernel
theorem ef_uca1 (m : MethodId) (a0 : Addr) : entryFrame m #[(.ref a0), (.int (1 : Int32))] 2 = mkF m 0 #[.val (.ref a0), .val (.int (1 : Int32))] [] := by first | (simp [entryFrame, mkF, argsToLocals, Value.category]; done) | rfl
def Q_uca1 (Z : State) (a0 : Addr) (kb : ClassId) (w1 : Value) (c0 : Int32) (c1 : Int32) (c2 : Int32) (c3 : Int32) (c4 : Int32) (h0 : Heap) (n0 : Nat) (v : Option Value) (h : Heap) (L : List Loc) : Prop := v = some (.int c1) ∧ Fr n0 L ∧ h = h0
set_option maxRecDepth 65536 in
set_option maxHeartbeats 40000000 in
theorem rm_uca1 (l : Launch) (Z : State) (aT : Array Value) (hw : ∀ d ∈ tables_1, d.before aT Z = true) (ws : List Jvm.Cond) (a0 : Addr) (kb : ClassId) (w1 : Value) (c0 : Int32) (c1 : Int32) (c2 : Int32) (c3 : Int32) (c4 : Int32) (h0 : Heap) (n0 : Nat) (Z0 : n0 ≤ h0.size) (hp0 : Arv Z h0 a0 kb .byte (10 : Int32) [(.int ((c0 >>> ((0 : Int32) &&& 31)).toInt8.toInt32)), (.int ((c0 >>> ((8 : Int32) &&& 31)).toInt8.toInt32)), (.int ((c1 >>> ((0 : Int32) &&& 31)).toInt8.toInt32)), (.int ((c1 >>> ((8 : Int32) &&& 31)).toInt8.toInt32)), (.int ((c2 >>> ((0 : Int32) &&& 31)).toInt8.toInt32)), (.int ((c2 >>> ((8 : Int32) &&& 31)).toInt8.toInt32)), (.int ((c3 >>> ((0 : Int32) &&& 31)).toInt8.toInt32)), (.int ((c3 >>> ((8 : Int32) &&& 31)).toInt8.toInt32)), (.int ((c4 >>> ((0 : Int32) &&& 31)).toInt8.toInt32)), (.int ((c4 >>> ((8 : Int32) &&& 31)).toInt8.toInt32))] (.int (0 : Int32))) (hp1 : Sta Z h0 "java/lang/StringUTF16" "$assertionsDisabled" "Z" (.int (1 : Int32))) (hp2 : Sta Z h0 "java/lang/StringUTF16" "HI_BYTE_SHIFT" "I" (.int (0 : Int32))) (hp3 : Sta Z h0 "java/lang/StringUTF16" "LO_BYTE_SHIFT" "I" (.int (8 : Int32))) (hp4 : Sta Z h0 "jdk/internal/util/Preconditions" "SIOOBE_FORMATTER" "Ljava/util/function/BiFunction;" w1) (hr1 : own_chr c1) (hw1 : w1.isRef = true) :
    MetFree l mN13 (head1 (Jvm.Cond.code mN13 jdk_52_method_83_code 2 (some .char) :: ws) ({ frames := 3, cells := 0, slots := 0, locals := 40 } : Room)) (fun a U => a = #[(.ref a0), (.int (1 : Int32))] ∧ Z.Warmed39 U.vm ∧ U.heap = h0) (fun _ _ _ _ _ => True) (fun _ U o U' => ∃ v L, o = .returned v ∧ Q_uca1 Z a0 kb w1 c0 c1 c2 c3 c4 h0 n0 v U'.heap L ∧ FrameEnd U o U' L ({ frames := 3, cells := 0, slots := 0, locals := 40 } : Room).cells ({ frames := 3, cells := 0, slots := 0, locals := 40 } : Room).slots) := by
  refine MetFree.of_bodySF (plainFor_of_name pn2) hisR ?_
  intro p e s m args below meth c s₁ Bd hml0 hP hK
  obtain ⟨rfl, hZ, hh⟩ := hP
  have hx := Bd.exec
  have hby := Bd.bytes
  have hml : c.maxLocals = 2 := hml0
  have hown : s.vm.findClass "java/lang/StringUTF16" = some m.cls := findClass_of_methodNamed Bd.named
  have hnm := (name_of_methodNamed Bd.named Bd.method).1
  have hlk := Bd.notSynchronized
  have hrt := Bd.returns
  have X0 : Stand p l e ({ frames := 3, cells := 0, slots := 0, locals := 40 } : Room) s m #[(.ref a0), (.int (1 : Int32))] below meth c s₁ [] 0 0 := Stand.of_body Bd
  have e0 : s₁.heap = h0 := by rw [← hh, Bd.state]; rfl
  have N0 := Fr.nil n0
  refine own_cast (P := own_End s (Q_uca1 Z a0 kb w1 c0 c1 c2 c3 c4 h0 n0) ({ frames := 3, cells := 0, slots := 0, locals := 40 } : Room).cells ({ frames := 3, cells := 0, slots := 0, locals := 40 } : Room).slots) (ef_uca1 m a0) ?_
  refine g_iloadN X0 hx hby d_uca1_0 rfl (rfl : 0 + 1 = 1) ?_
  refine g_aloadN X0 hx hby d_uca1_1 rfl rfl (rfl : 1 + 1 = 2) ?_
  obtain ⟨_, _, ⟨T22, L22, k22, n22⟩, -, X22, ⟨Lc22, hQ22, l22, y22, z22⟩, st22⟩ := Jvm.LawKit.callS X0 hx (y := mN14) hown (mvT hZ (hw _ (own_M 125 rfl))) (mvT hZ (hw _ (own_M 126 rfl))) (mvT hZ (hw _ (own_M 17 rfl))) (mvT hZ (hw _ (own_M 127 rfl))) (by decide) (backOf (W := 0) (rm_uck l Z aT hw [] (1 : Int32) a0 kb [(.int ((c0 >>> ((0 : Int32) &&& 31)).toInt8.toInt32)), (.int ((c0 >>> ((8 : Int32) &&& 31)).toInt8.toInt32)), (.int ((c1 >>> ((0 : Int32) &&& 31)).toInt8.toInt32)), (.int ((c1 >>> ((8 : Int32) &&& 31)).toInt8.toInt32)), (.int ((c2 >>> ((0 : Int32) &&& 31)).toInt8.toInt32)), (.int ((c2 >>> ((8 : Int32) &&& 31)).toInt8.toInt32)), (.int ((c3 >>> ((0 : Int32) &&& 31)).toInt8.toInt32)), (.int ((c3 >>> ((8 : Int32) &&& 31)).toInt8.toInt32)), (.int ((c4 >>> ((0 : Int32) &&& 31)).toInt8.toInt32)), (.int ((c4 >>> ((8 : Int32) &&& 31)).toInt8.toInt32))] w1 h0 n0 Z0 hp0 hp4 (by decide) (by decide) hw1) hZ (hw _ (own_M 127 rfl)) (hw _ (own_M 17 rfl)) (by decide) (by decide)) (g := (mkF m 2 #[.val (.ref a0), .val (.int (1 : Int32))] [(.ref a0), (.int (1 : Int32))])) rfl (by rw [hml]; rfl) (argsL := [(.int (1 : Int32)), (.ref a0)]) (rest := []) (lenOf pd3 rfl) rfl (by show 2 * 0 + _ ≤ _; exact Nat.le_of_eq rfl) (hb hby d_uca1_2) (fun _ _ => ⟨rfl, e0, (by decide : 0 + 0 ≤ _), (by decide : 0 + 0 ≤ _)⟩)
  dsimp only [Pt.U, Pt.locs, Pt.cells, Pt.slots] at X22 l22 y22 z22 st22 hQ22
  subst l22 y22 z22
  obtain ⟨rfl, N22q, eq22⟩ := hQ22
  have N22 := Fr.app N0 N22q
  refine own_go st22 ?_
  show own_Got p e below _ T22 (mkF m 5 #[.val (.ref a0), .val (.int (1 : Int32))] [])
  refine g_aloadN X22 hx hby d_uca1_5 rfl rfl (rfl : 5 + 1 = 6) ?_
  refine g_iloadN X22 hx hby d_uca1_6 rfl (rfl : 6 + 1 = 7) ?_
  obtain ⟨_, _, ⟨T23, L23, k23, n23⟩, -, X23, ⟨Lc23, hQ23, l23, y23, z23⟩, st23⟩ := Jvm.LawKit.callS X22 hx (y := mN18) hown (mvT hZ (hw _ (own_M 119 rfl))) (mvT hZ (hw _ (own_M 120 rfl))) (mvT hZ (hw _ (own_M 17 rfl))) (mvT hZ (hw _ (own_M 121 rfl))) (by decide) (backOf (W := 0) (rm_gch1 l Z aT hw [] a0 kb _ _ _ _ _ h0 n0 Z0 hp0 hp1 hp2 hp3 hr1) hZ (hw _ (own_M 121 rfl)) (hw _ (own_M 17 rfl)) (by decide) (by decide)) (g := (mkF m 7 #[.val (.ref a0), .val (.int (1 : Int32))] [(.int (1 : Int32)), (.ref a0)])) rfl (by rw [hml]; rfl) (argsL := [(.ref a0), (.int (1 : Int32))]) (rest := []) (lenOf pd4 rfl) rfl (by show 2 * 0 + _ ≤ _; exact Nat.le_of_eq rfl) (hb hby d_uca1_7) (fun _ _ => ⟨rfl, eq22, (by decide : 0 + 0 ≤ _), (by decide : 0 + 0 ≤ _)⟩)
  dsimp only [Pt.U, Pt.locs, Pt.cells, Pt.slots] at X23 l23 y23 z23 st23 hQ23
  subst l23 y23 z23
  obtain ⟨rfl, N23q, eq23⟩ := hQ23
  have N23 := Fr.app N22 N23q
  refine own_go st23 ?_
  show own_Got p e below _ T23 (mkF m 10 #[.val (.ref a0), .val (.int (1 : Int32))] [(.int c1)])
  refine own_retN X23 hx hby hlk (t := .char) hrt (by simp) d_uca1_10 (by decide) (by decide) ?_
  show Q_uca1 Z a0 kb w1 c0 c1 c2 c3 c4 h0 n0 _ T23.heap _
  exact ⟨(congrArg (fun z => some (Value.int z)) (own_cch c1 hr1)), N23, eq23⟩
theorem d_lca1_0 : decode jdk_43_method_2_code 0 = .ok (.iload_n 1, 1) := by decide +kernel
theorem d_lca1_1 : decode jdk_43_method_2_code 1 = .ok (.aload_n 0, 1) := by decide +kernel
theorem d_lca1_2 : decode jdk_43_method_2_code 2 = .ok (.arraylength, 1) := by decide +kernel
theorem d_lca1_3 : decode jdk_43_method_2_code 3 = .ok (.invokestatic 9, 3) := by decide +kernel
theorem d_lca1_6 : decode jdk_43_method_2_code 6 = .ok (.aload_n 0, 1) := by decide +kernel
theorem d_lca1_7 : decode jdk_43_method_2_code 7 = .ok (.iload_n 1, 1) := by decide +kernel
theorem d_lca1_8 : decode jdk_43_method_2_code 8 = .ok (.baload, 1) := by decide +kernel
theorem d_lca1_9 : decode jdk_43_method_2_code 9 = .ok (.sipush 255, 3) := by decide +kernel
theorem d_lca1_12 : decode jdk_43_method_2_code 12 = .ok (.iand, 1) := by decide +kernel
theorem d_lca1_13 : decode jdk_43_method_2_code 13 = .ok (.i2c, 1) := by decide +kernel
theorem d_lca1_14 : decode jdk_43_method_2_code 14 = .ok (.ireturn, 1) := by decide +kernel
theorem ef_lca1 (m : MethodId) (a0 : Addr) : entryFrame m #[(.ref a0), (.int (1 : Int32))] 2 = mkF m 0 #[.val (.ref a0), .val (.int (1 : Int32))] [] := by first | (simp [entryFrame, mkF, argsToLocals, Value.category]; done) | rfl
def Q_lca1 (Z : State) (a0 : Addr) (kb : ClassId) (w1 : Value) (c0 : Int32) (c1 : Int32) (c2 : Int32) (c3 : Int32) (c4 : Int32) (h0 : Heap) (n0 : Nat) (v : Option Value) (h : Heap) (L : List Loc) : Prop := v = some (.int c1) ∧ Fr n0 L ∧ h = h0
set_option maxRecDepth 65536 in
set_option maxHeartbeats 40000000 in
theorem rm_lca1 (l : Launch) (Z : State) (aT : Array Value) (hw : ∀ d ∈ tables_1, d.before aT Z = true) (ws : List Jvm.Cond) (a0 : Addr) (kb : ClassId) (w1 : Value) (c0 : Int32) (c1 : Int32) (c2 : Int32) (c3 : Int32) (c4 : Int32) (h0 : Heap) (n0 : Nat) (Z0 : n0 ≤ h0.size) (hp0 : Arv Z h0 a0 kb .byte (5 : Int32) [(.int (c0.toInt8.toInt32)), (.int (c1.toInt8.toInt32)), (.int (c2.toInt8.toInt32)), (.int (c3.toInt8.toInt32)), (.int (c4.toInt8.toInt32))] (.int (0 : Int32))) (hp1 : Sta Z h0 "jdk/internal/util/Preconditions" "SIOOBE_FORMATTER" "Ljava/util/function/BiFunction;" w1) (hr1 : own_chr c1) (h5 : ¬ ((255 : Int32) < c1)) (hw1 : w1.isRef = true) :
    MetFree l mN12 (head1 (Jvm.Cond.code mN12 jdk_43_method_2_code 2 (some .char) :: ws) ({ frames := 2, cells := 0, slots := 0, locals := 27 } : Room)) (fun a U => a = #[(.ref a0), (.int (1 : Int32))] ∧ Z.Warmed39 U.vm ∧ U.heap = h0) (fun _ _ _ _ _ => True) (fun _ U o U' => ∃ v L, o = .returned v ∧ Q_lca1 Z a0 kb w1 c0 c1 c2 c3 c4 h0 n0 v U'.heap L ∧ FrameEnd U o U' L ({ frames := 2, cells := 0, slots := 0, locals := 27 } : Room).cells ({ frames := 2, cells := 0, slots := 0, locals := 27 } : Room).slots) := by
  refine MetFree.of_bodySF (plainFor_of_name pn3) hisR ?_
  intro p e s m args below meth c s₁ Bd hml0 hP hK
  obtain ⟨rfl, hZ, hh⟩ := hP
  have hx := Bd.exec
  have hby := Bd.bytes
  have hml : c.maxLocals = 2 := hml0
  have hown : s.vm.findClass "java/lang/StringLatin1" = some m.cls := findClass_of_methodNamed Bd.named
  have hnm := (name_of_methodNamed Bd.named Bd.method).1
  have hlk := Bd.notSynchronized
  have hrt := Bd.returns
  have X0 : Stand p l e ({ frames := 2, cells := 0, slots := 0, locals := 27 } : Room) s m #[(.ref a0), (.int (1 : Int32))] below meth c s₁ [] 0 0 := Stand.of_body Bd
  have e0 : s₁.heap = h0 := by rw [← hh, Bd.state]; rfl
  have N0 := Fr.nil n0
  refine own_cast (P := own_End s (Q_lca1 Z a0 kb w1 c0 c1 c2 c3 c4 h0 n0) ({ frames := 2, cells := 0, slots := 0, locals := 27 } : Room).cells ({ frames := 2, cells := 0, slots := 0, locals := 27 } : Room).slots) (ef_lca1 m a0) ?_
  refine g_iloadN X0 hx hby d_lca1_0 rfl (rfl : 0 + 1 = 1) ?_
  refine g_aloadN X0 hx hby d_lca1_1 rfl rfl (rfl : 1 + 1 = 2) ?_
  refine g_alen X0 hx hby hZ e0 hp0 d_lca1_2 (rfl : 2 + 1 = 3) ?_
  obtain ⟨_, _, ⟨T24, L24, k24, n24⟩, -, X24, ⟨Lc24, hQ24, l24, y24, z24⟩, st24⟩ := Jvm.LawKit.callS X0 hx (y := mN8) hown (mvT hZ (hw _ (own_M 96 rfl))) (mvT hZ (hw _ (own_M 97 rfl))) (mvT hZ (hw _ (own_M 3 rfl))) (mvT hZ (hw _ (own_M 98 rfl))) (by decide) (backOf (W := 0) (rm_sck l Z aT hw [] (1 : Int32) (5 : Int32) w1 h0 n0 Z0 hp1 (by decide) (by decide) hw1) hZ (hw _ (own_M 98 rfl)) (hw _ (own_M 3 rfl)) (by decide) (by decide)) (g := (mkF m 3 #[.val (.ref a0), .val (.int (1 : Int32))] [(.int (5 : Int32)), (.int (1 : Int32))])) rfl (by rw [hml]; rfl) (argsL := [(.int (1 : Int32)), (.int (5 : Int32))]) (rest := []) (lenOf pd2 rfl) rfl (by show 2 * 0 + _ ≤ _; exact Nat.le_of_eq rfl) (hb hby d_lca1_3) (fun _ _ => ⟨rfl, e0, (by decide : 0 + 0 ≤ _), (by decide : 0 + 0 ≤ _)⟩)
  dsimp only [Pt.U, Pt.locs, Pt.cells, Pt.slots] at X24 l24 y24 z24 st24 hQ24
  subst l24 y24 z24
  obtain ⟨rfl, N24q, eq24⟩ := hQ24
  have N24 := Fr.app N0 N24q
  refine own_go st24 ?_
  show own_Got p e below _ T24 (mkF m 6 #[.val (.ref a0), .val (.int (1 : Int32))] [])
  refine g_aloadN X24 hx hby d_lca1_6 rfl rfl (rfl : 6 + 1 = 7) ?_
  refine g_iloadN X24 hx hby d_lca1_7 rfl (rfl : 7 + 1 = 8) ?_
  refine g_baload X24 hx hby hZ eq24 (v := (.int (c1.toInt8.toInt32))) hp0 ⟨by decide, by decide⟩ rfl d_lca1_8 (rfl : 8 + 1 = 9) ?_
  refine g_sipush X24 hx hby (255 : Int32) d_lca1_9 (by decide) (rfl : 9 + 3 = 12) ?_
  refine g_iand X24 hx hby d_lca1_12 (rfl : 12 + 1 = 13) ?_
  refine g_i2c X24 hx hby d_lca1_13 (rfl : 13 + 1 = 14) ?_
  refine own_retN X24 hx hby hlk (t := .char) hrt (by simp) d_lca1_14 (by decide) (by decide) ?_
  show Q_lca1 Z a0 kb w1 c0 c1 c2 c3 c4 h0 n0 _ T24.heap _
  exact ⟨(congrArg (fun z => some (Value.int z)) (own_slc c1 hr1 h5)), N24, eq24⟩
theorem d_gch2_0 : decode jdk_52_method_5_code 0 = .ok (.getstatic 44, 3) := by decide +kernel
theorem d_gch2_3 : decode jdk_52_method_5_code 3 = .ok (.ifCond .ne 25, 3) := by decide +kernel
theorem d_gch2_28 : decode jdk_52_method_5_code 28 = .ok (.iload_n 1, 1) := by decide +kernel
theorem d_gch2_29 : decode jdk_52_method_5_code 29 = .ok (.iconst 1, 1) := by decide +kernel
theorem d_gch2_30 : decode jdk_52_method_5_code 30 = .ok (.ishl, 1) := by decide +kernel
theorem d_gch2_31 : decode jdk_52_method_5_code 31 = .ok (.istore_n 1, 1) := by decide +kernel
theorem d_gch2_32 : decode jdk_52_method_5_code 32 = .ok (.aload_n 0, 1) := by decide +kernel
theorem d_gch2_33 : decode jdk_52_method_5_code 33 = .ok (.iload_n 1, 1) := by decide +kernel
theorem d_gch2_34 : decode jdk_52_method_5_code 34 = .ok (.iinc 1 1, 3) := by decide +kernel
theorem d_gch2_37 : decode jdk_52_method_5_code 37 = .ok (.baload, 1) := by decide +kernel
theorem d_gch2_38 : decode jdk_52_method_5_code 38 = .ok (.sipush 255, 3) := by decide +kernel
theorem d_gch2_41 : decode jdk_52_method_5_code 41 = .ok (.iand, 1) := by decide +kernel
theorem d_gch2_42 : decode jdk_52_method_5_code 42 = .ok (.getstatic 59, 3) := by decide +kernel
theorem d_gch2_45 : decode jdk_52_method_5_code 45 = .ok (.ishl, 1) := by decide +kernel
theorem d_gch2_46 : decode jdk_52_method_5_code 46 = .ok (.aload_n 0, 1) := by decide +kernel
theorem d_gch2_47 : decode jdk_52_method_5_code 47 = .ok (.iload_n 1, 1) := by decide +kernel
theorem d_gch2_48 : decode jdk_52_method_5_code 48 = .ok (.baload, 1) := by decide +kernel
theorem d_gch2_49 : decode jdk_52_method_5_code 49 = .ok (.sipush 255, 3) := by decide +kernel
theorem d_gch2_52 : decode jdk_52_method_5_code 52 = .ok (.iand, 1) := by decide +kernel
theorem d_gch2_53 : decode jdk_52_method_5_code 53 = .ok (.getstatic 63, 3) := by decide +kernel
theorem d_gch2_56 : decode jdk_52_method_5_code 56 = .ok (.ishl, 1) := by decide +kernel
theorem d_gch2_57 : decode jdk_52_method_5_code 57 = .ok (.ior, 1) := by decide +kernel
theorem d_gch2_58 : decode jdk_52_method_5_code 58 = .ok (.i2c, 1) := by decide +kernel
theorem d_gch2_59 : decode jdk_52_method_5_code 59 = .ok (.ireturn, 1) := by decide +kernel
theorem ef_gch2 (m : MethodId) (a0 : Addr) : entryFrame m #[(.ref a0), (.int (2 : Int32))] 2 = mkF m 0 #[.val (.ref a0), .val (.int (2 : Int32))] [] := by first | (simp [entryFrame, mkF, argsToLocals, Value.category]; done) | rfl
def Q_gch2 (Z : State) (a0 : Addr) (kb : ClassId) (c0 : Int32) (c1 : Int32) (c2 : Int32) (c3 : Int32) (c4 : Int32) (h0 : Heap) (n0 : Nat) (v : Option Value) (h : Heap) (L : List Loc) : Prop := v = some (.int c2) ∧ Fr n0 L ∧ h = h0
set_option maxRecDepth 65536 in
set_option maxHeartbeats 40000000 in
theorem rm_gch2 (l : Launch) (Z : State) (aT : Array Value) (hw : ∀ d ∈ tables_1, d.before aT Z = true) (ws : List Jvm.Cond) (a0 : Addr) (kb : ClassId) (c0 : Int32) (c1 : Int32) (c2 : Int32) (c3 : Int32) (c4 : Int32) (h0 : Heap) (n0 : Nat) (Z0 : n0 ≤ h0.size) (hp0 : Arv Z h0 a0 kb .byte (10 : Int32) [(.int ((c0 >>> ((0 : Int32) &&& 31)).toInt8.toInt32)), (.int ((c0 >>> ((8 : Int32) &&& 31)).toInt8.toInt32)), (.int ((c1 >>> ((0 : Int32) &&& 31)).toInt8.toInt32)), (.int ((c1 >>> ((8 : Int32) &&& 31)).toInt8.toInt32)), (.int ((c2 >>> ((0 : Int32) &&& 31)).toInt8.toInt32)), (.int ((c2 >>> ((8 : Int32) &&& 31)).toInt8.toInt32)), (.int ((c3 >>> ((0 : Int32) &&& 31)).toInt8.toInt32)), (.int ((c3 >>> ((8 : Int32) &&& 31)).toInt8.toInt32)), (.int ((c4 >>> ((0 : Int32) &&& 31)).toInt8.toInt32)), (.int ((c4 >>> ((8 : Int32) &&& 31)).toInt8.toInt32))] (.int (0 : Int32))) (hp1 : Sta Z h0 "java/lang/StringUTF16" "$assertionsDisabled" "Z" (.int (1 : Int32))) (hp2 : Sta Z h0 "java/lang/StringUTF16" "HI_BYTE_SHIFT" "I" (.int (0 : Int32))) (hp3 : Sta Z h0 "java/lang/StringUTF16" "LO_BYTE_SHIFT" "I" (.int (8 : Int32))) (hr2 : own_chr c2) :
    MetFree l mN18 (head1 (Jvm.Cond.code mN18 jdk_52_method_5_code 2 (some .char) :: ws) ({ frames := 0, cells := 0, slots := 0, locals := 0 } : Room)) (fun a U => a = #[(.ref a0), (.int (2 : Int32))] ∧ Z.Warmed39 U.vm ∧ U.heap = h0) (fun _ _ _ _ _ => True) (fun _ U o U' => ∃ v L, o = .returned v ∧ Q_gch2 Z a0 kb c0 c1 c2 c3 c4 h0 n0 v U'.heap L ∧ FrameEnd U o U' L ({ frames := 0, cells := 0, slots := 0, locals := 0 } : Room).cells ({ frames := 0, cells := 0, slots := 0, locals := 0 } : Room).slots) := by
  refine MetFree.of_bodySF (plainFor_of_name pn2) hisR ?_
  intro p e s m args below meth c s₁ Bd hml0 hP hK
  obtain ⟨rfl, hZ, hh⟩ := hP
  have hx := Bd.exec
  have hby := Bd.bytes
  have hml : c.maxLocals = 2 := hml0
  have hown : s.vm.findClass "java/lang/StringUTF16" = some m.cls := findClass_of_methodNamed Bd.named
  have hnm := (name_of_methodNamed Bd.named Bd.method).1
  have hlk := Bd.notSynchronized
  have hrt := Bd.returns
  have X0 : Stand p l e ({ frames := 0, cells := 0, slots := 0, locals := 0 } : Room) s m #[(.ref a0), (.int (2 : Int32))] below meth c s₁ [] 0 0 := Stand.of_body Bd
  have e0 : s₁.heap = h0 := by rw [← hh, Bd.state]; rfl
  have N0 := Fr.nil n0
  refine own_cast (P := own_End s (Q_gch2 Z a0 kb c0 c1 c2 c3 c4 h0 n0) ({ frames := 0, cells := 0, slots := 0, locals := 0 } : Room).cells ({ frames := 0, cells := 0, slots := 0, locals := 0 } : Room).slots) (ef_gch2 m a0) ?_
  obtain ⟨T25, X25, e25, st25⟩ := getS2 X0 hx hZ hown (host := "") (Or.inl (hw _ (own_M 116 rfl))) Via.refl e0 hp1 (g := (mkF m 0 #[.val (.ref a0), .val (.int (2 : Int32))] [])) rfl (hb hby d_gch2_0)
  refine own_go st25 ?_
  show own_Got p e below _ T25 (mkF m 3 #[.val (.ref a0), .val (.int (2 : Int32))] [(.int (1 : Int32))])
  refine g_ifT X25 hx hby d_gch2_3 ((if0 _ _).trans (feq (by decide : ¬ ((1 : Int32) = (0 : Int32)))).2) (by decide) (pc' := 28) (by decide) ?_
  refine g_iloadN X25 hx hby d_gch2_28 rfl (rfl : 28 + 1 = 29) ?_
  refine g_iconst X25 hx hby (1 : Int32) d_gch2_29 (by decide) (rfl : 29 + 1 = 30) ?_
  refine g_ishl X25 hx hby d_gch2_30 (rfl : 30 + 1 = 31) ?_
  rw [(by decide : ((2 : Int32) <<< ((1 : Int32) &&& 31)) = (4 : Int32))]
  refine g_istoreN X25 hx hby #[.val (.ref a0), .val (.int (4 : Int32))] d_gch2_31 rfl (rfl : 31 + 1 = 32) ?_
  refine g_aloadN X25 hx hby d_gch2_32 rfl rfl (rfl : 32 + 1 = 33) ?_
  refine g_iloadN X25 hx hby d_gch2_33 rfl (rfl : 33 + 1 = 34) ?_
  refine g_iinc X25 hx hby #[.val (.ref a0), .val (.int ((4 : Int32) + (1 : Int32)))] d_gch2_34 rfl rfl (rfl : 34 + 3 = 37) ?_
  rw [(by decide : ((4 : Int32) + (1 : Int32)) = (5 : Int32))]
  refine g_baload X25 hx hby hZ e25 (v := (.int ((c2 >>> ((0 : Int32) &&& 31)).toInt8.toInt32))) hp0 ⟨by decide, by decide⟩ rfl d_gch2_37 (rfl : 37 + 1 = 38) ?_
  refine g_sipush X25 hx hby (255 : Int32) d_gch2_38 (by decide) (rfl : 38 + 3 = 41) ?_
  refine g_iand X25 hx hby d_gch2_41 (rfl : 41 + 1 = 42) ?_
  obtain ⟨T26, X26, e26, st26⟩ := getS2 X25 hx hZ hown (host := "") (Or.inl (hw _ (own_M 117 rfl))) Via.refl e25 hp2 (g := (mkF m 42 #[.val (.ref a0), .val (.int (5 : Int32))] [(.int (((c2 >>> ((0 : Int32) &&& 31)).toInt8.toInt32) &&& (255 : Int32)))])) rfl (hb hby d_gch2_42)
  refine own_go st26 ?_
  show own_Got p e below _ T26 (mkF m 45 #[.val (.ref a0), .val (.int (5 : Int32))] [(.int (0 : Int32)), (.int (((c2 >>> ((0 : Int32) &&& 31)).toInt8.toInt32) &&& (255 : Int32)))])
  refine g_ishl X26 hx hby d_gch2_45 (rfl : 45 + 1 = 46) ?_
  refine g_aloadN X26 hx hby d_gch2_46 rfl rfl (rfl : 46 + 1 = 47) ?_
  refine g_iloadN X26 hx hby d_gch2_47 rfl (rfl : 47 + 1 = 48) ?_
  refine g_baload X26 hx hby hZ e26 (v := (.int ((c2 >>> ((8 : Int32) &&& 31)).toInt8.toInt32))) hp0 ⟨by decide, by decide⟩ rfl d_gch2_48 (rfl : 48 + 1 = 49) ?_
  refine g_sipush X26 hx hby (255 : Int32) d_gch2_49 (by decide) (rfl : 49 + 3 = 52) ?_
  refine g_iand X26 hx hby d_gch2_52 (rfl : 52 + 1 = 53) ?_
  obtain ⟨T27, X27, e27, st27⟩ := getS2 X26 hx hZ hown (host := "") (Or.inl (hw _ (own_M 118 rfl))) Via.refl e26 hp3 (g := (mkF m 53 #[.val (.ref a0), .val (.int (5 : Int32))] [(.int (((c2 >>> ((8 : Int32) &&& 31)).toInt8.toInt32) &&& (255 : Int32))), (.int ((((c2 >>> ((0 : Int32) &&& 31)).toInt8.toInt32) &&& (255 : Int32)) <<< ((0 : Int32) &&& 31)))])) rfl (hb hby d_gch2_53)
  refine own_go st27 ?_
  show own_Got p e below _ T27 (mkF m 56 #[.val (.ref a0), .val (.int (5 : Int32))] [(.int (8 : Int32)), (.int (((c2 >>> ((8 : Int32) &&& 31)).toInt8.toInt32) &&& (255 : Int32))), (.int ((((c2 >>> ((0 : Int32) &&& 31)).toInt8.toInt32) &&& (255 : Int32)) <<< ((0 : Int32) &&& 31)))])
  refine g_ishl X27 hx hby d_gch2_56 (rfl : 56 + 1 = 57) ?_
  refine g_ior X27 hx hby d_gch2_57 (rfl : 57 + 1 = 58) ?_
  refine g_i2c X27 hx hby d_gch2_58 (rfl : 58 + 1 = 59) ?_
  refine own_retN X27 hx hby hlk (t := .char) hrt (by simp) d_gch2_59 (by decide) (by decide) ?_
  show Q_gch2 Z a0 kb c0 c1 c2 c3 c4 h0 n0 _ T27.heap _
  exact ⟨(congrArg (fun z => some (Value.int z)) (own_gch c2 hr2)), N0, e27⟩
theorem d_uca2_0 : decode jdk_52_method_83_code 0 = .ok (.iload_n 1, 1) := by decide +kernel
theorem d_uca2_1 : decode jdk_52_method_83_code 1 = .ok (.aload_n 0, 1) := by decide +kernel
theorem d_uca2_2 : decode jdk_52_method_83_code 2 = .ok (.invokestatic 67, 3) := by decide +kernel
theorem d_uca2_5 : decode jdk_52_method_83_code 5 = .ok (.aload_n 0, 1) := by decide +kernel
theorem d_uca2_6 : decode jdk_52_method_83_code 6 = .ok (.iload_n 1, 1) := by decide +kernel
theorem d_uca2_7 : decode jdk_52_method_83_code 7 = .ok (.invokestatic 71, 3) := by decide +kernel
theorem d_uca2_10 : decode jdk_52_method_83_code 10 = .ok (.ireturn, 1) := by decide +kernel
theorem ef_uca2 (m : MethodId) (a0 : Addr) : entryFrame m #[(.ref a0), (.int (2 : Int32))] 2 = mkF m 0 #[.val (.ref a0), .val (.int (2 : Int32))] [] := by first | (simp [entryFrame, mkF, argsToLocals, Value.category]; done) | rfl
def Q_uca2 (Z : State) (a0 : Addr) (kb : ClassId) (w1 : Value) (c0 : Int32) (c1 : Int32) (c2 : Int32) (c3 : Int32) (c4 : Int32) (h0 : Heap) (n0 : Nat) (v : Option Value) (h : Heap) (L : List Loc) : Prop := v = some (.int c2) ∧ Fr n0 L ∧ h = h0
set_option maxRecDepth 65536 in
set_option maxHeartbeats 40000000 in
theorem rm_uca2 (l : Launch) (Z : State) (aT : Array Value) (hw : ∀ d ∈ tables_1, d.before aT Z = true) (ws : List Jvm.Cond) (a0 : Addr) (kb : ClassId) (w1 : Value) (c0 : Int32) (c1 : Int32) (c2 : Int32) (c3 : Int32) (c4 : Int32) (h0 : Heap) (n0 : Nat) (Z0 : n0 ≤ h0.size) (hp0 : Arv Z h0 a0 kb .byte (10 : Int32) [(.int ((c0 >>> ((0 : Int32) &&& 31)).toInt8.toInt32)), (.int ((c0 >>> ((8 : Int32) &&& 31)).toInt8.toInt32)), (.int ((c1 >>> ((0 : Int32) &&& 31)).toInt8.toInt32)), (.int ((c1 >>> ((8 : Int32) &&& 31)).toInt8.toInt32)), (.int ((c2 >>> ((0 : Int32) &&& 31)).toInt8.toInt32)), (.int ((c2 >>> ((8 : Int32) &&& 31)).toInt8.toInt32)), (.int ((c3 >>> ((0 : Int32) &&& 31)).toInt8.toInt32)), (.int ((c3 >>> ((8 : Int32) &&& 31)).toInt8.toInt32)), (.int ((c4 >>> ((0 : Int32) &&& 31)).toInt8.toInt32)), (.int ((c4 >>> ((8 : Int32) &&& 31)).toInt8.toInt32))] (.int (0 : Int32))) (hp1 : Sta Z h0 "java/lang/StringUTF16" "$assertionsDisabled" "Z" (.int (1 : Int32))) (hp2 : Sta Z h0 "java/lang/StringUTF16" "HI_BYTE_SHIFT" "I" (.int (0 : Int32))) (hp3 : Sta Z h0 "java/lang/StringUTF16" "LO_BYTE_SHIFT" "I" (.int (8 : Int32))) (hp4 : Sta Z h0 "jdk/internal/util/Preconditions" "SIOOBE_FORMATTER" "Ljava/util/function/BiFunction;" w1) (hr2 : own_chr c2) (hw1 : w1.isRef = true) :
    MetFree l mN13 (head1 (Jvm.Cond.code mN13 jdk_52_method_83_code 2 (some .char) :: ws) ({ frames := 3, cells := 0, slots := 0, locals := 40 } : Room)) (fun a U => a = #[(.ref a0), (.int (2 : Int32))] ∧ Z.Warmed39 U.vm ∧ U.heap = h0) (fun _ _ _ _ _ => True) (fun _ U o U' => ∃ v L, o = .returned v ∧ Q_uca2 Z a0 kb w1 c0 c1 c2 c3 c4 h0 n0 v U'.heap L ∧ FrameEnd U o U' L ({ frames := 3, cells := 0, slots := 0, locals := 40 } : Room).cells ({ frames := 3, cells := 0, slots := 0, locals := 40 } : Room).slots) := by
  refine MetFree.of_bodySF (plainFor_of_name pn2) hisR ?_
  intro p e s m args below meth c s₁ Bd hml0 hP hK
  obtain ⟨rfl, hZ, hh⟩ := hP
  have hx := Bd.exec
  have hby := Bd.bytes
  have hml : c.maxLocals = 2 := hml0
  have hown : s.vm.findClass "java/lang/StringUTF16" = some m.cls := findClass_of_methodNamed Bd.named
  have hnm := (name_of_methodNamed Bd.named Bd.method).1
  have hlk := Bd.notSynchronized
  have hrt := Bd.returns
  have X0 : Stand p l e ({ frames := 3, cells := 0, slots := 0, locals := 40 } : Room) s m #[(.ref a0), (.int (2 : Int32))] below meth c s₁ [] 0 0 := Stand.of_body Bd
  have e0 : s₁.heap = h0 := by rw [← hh, Bd.state]; rfl
  have N0 := Fr.nil n0
  refine own_cast (P := own_End s (Q_uca2 Z a0 kb w1 c0 c1 c2 c3 c4 h0 n0) ({ frames := 3, cells := 0, slots := 0, locals := 40 } : Room).cells ({ frames := 3, cells := 0, slots := 0, locals := 40 } : Room).slots) (ef_uca2 m a0) ?_
  refine g_iloadN X0 hx hby d_uca2_0 rfl (rfl : 0 + 1 = 1) ?_
  refine g_aloadN X0 hx hby d_uca2_1 rfl rfl (rfl : 1 + 1 = 2) ?_
  obtain ⟨_, _, ⟨T28, L28, k28, n28⟩, -, X28, ⟨Lc28, hQ28, l28, y28, z28⟩, st28⟩ := Jvm.LawKit.callS X0 hx (y := mN14) hown (mvT hZ (hw _ (own_M 125 rfl))) (mvT hZ (hw _ (own_M 126 rfl))) (mvT hZ (hw _ (own_M 17 rfl))) (mvT hZ (hw _ (own_M 127 rfl))) (by decide) (backOf (W := 0) (rm_uck l Z aT hw [] (2 : Int32) a0 kb [(.int ((c0 >>> ((0 : Int32) &&& 31)).toInt8.toInt32)), (.int ((c0 >>> ((8 : Int32) &&& 31)).toInt8.toInt32)), (.int ((c1 >>> ((0 : Int32) &&& 31)).toInt8.toInt32)), (.int ((c1 >>> ((8 : Int32) &&& 31)).toInt8.toInt32)), (.int ((c2 >>> ((0 : Int32) &&& 31)).toInt8.toInt32)), (.int ((c2 >>> ((8 : Int32) &&& 31)).toInt8.toInt32)), (.int ((c3 >>> ((0 : Int32) &&& 31)).toInt8.toInt32)), (.int ((c3 >>> ((8 : Int32) &&& 31)).toInt8.toInt32)), (.int ((c4 >>> ((0 : Int32) &&& 31)).toInt8.toInt32)), (.int ((c4 >>> ((8 : Int32) &&& 31)).toInt8.toInt32))] w1 h0 n0 Z0 hp0 hp4 (by decide) (by decide) hw1) hZ (hw _ (own_M 127 rfl)) (hw _ (own_M 17 rfl)) (by decide) (by decide)) (g := (mkF m 2 #[.val (.ref a0), .val (.int (2 : Int32))] [(.ref a0), (.int (2 : Int32))])) rfl (by rw [hml]; rfl) (argsL := [(.int (2 : Int32)), (.ref a0)]) (rest := []) (lenOf pd3 rfl) rfl (by show 2 * 0 + _ ≤ _; exact Nat.le_of_eq rfl) (hb hby d_uca2_2) (fun _ _ => ⟨rfl, e0, (by decide : 0 + 0 ≤ _), (by decide : 0 + 0 ≤ _)⟩)
  dsimp only [Pt.U, Pt.locs, Pt.cells, Pt.slots] at X28 l28 y28 z28 st28 hQ28
  subst l28 y28 z28
  obtain ⟨rfl, N28q, eq28⟩ := hQ28
  have N28 := Fr.app N0 N28q
  refine own_go st28 ?_
  show own_Got p e below _ T28 (mkF m 5 #[.val (.ref a0), .val (.int (2 : Int32))] [])
  refine g_aloadN X28 hx hby d_uca2_5 rfl rfl (rfl : 5 + 1 = 6) ?_
  refine g_iloadN X28 hx hby d_uca2_6 rfl (rfl : 6 + 1 = 7) ?_
  obtain ⟨_, _, ⟨T29, L29, k29, n29⟩, -, X29, ⟨Lc29, hQ29, l29, y29, z29⟩, st29⟩ := Jvm.LawKit.callS X28 hx (y := mN18) hown (mvT hZ (hw _ (own_M 119 rfl))) (mvT hZ (hw _ (own_M 120 rfl))) (mvT hZ (hw _ (own_M 17 rfl))) (mvT hZ (hw _ (own_M 121 rfl))) (by decide) (backOf (W := 0) (rm_gch2 l Z aT hw [] a0 kb _ _ _ _ _ h0 n0 Z0 hp0 hp1 hp2 hp3 hr2) hZ (hw _ (own_M 121 rfl)) (hw _ (own_M 17 rfl)) (by decide) (by decide)) (g := (mkF m 7 #[.val (.ref a0), .val (.int (2 : Int32))] [(.int (2 : Int32)), (.ref a0)])) rfl (by rw [hml]; rfl) (argsL := [(.ref a0), (.int (2 : Int32))]) (rest := []) (lenOf pd4 rfl) rfl (by show 2 * 0 + _ ≤ _; exact Nat.le_of_eq rfl) (hb hby d_uca2_7) (fun _ _ => ⟨rfl, eq28, (by decide : 0 + 0 ≤ _), (by decide : 0 + 0 ≤ _)⟩)
  dsimp only [Pt.U, Pt.locs, Pt.cells, Pt.slots] at X29 l29 y29 z29 st29 hQ29
  subst l29 y29 z29
  obtain ⟨rfl, N29q, eq29⟩ := hQ29
  have N29 := Fr.app N28 N29q
  refine own_go st29 ?_
  show own_Got p e below _ T29 (mkF m 10 #[.val (.ref a0), .val (.int (2 : Int32))] [(.int c2)])
  refine own_retN X29 hx hby hlk (t := .char) hrt (by simp) d_uca2_10 (by decide) (by decide) ?_
  show Q_uca2 Z a0 kb w1 c0 c1 c2 c3 c4 h0 n0 _ T29.heap _
  exact ⟨(congrArg (fun z => some (Value.int z)) (own_cch c2 hr2)), N29, eq29⟩
theorem d_lca2_0 : decode jdk_43_method_2_code 0 = .ok (.iload_n 1, 1) := by decide +kernel
theorem d_lca2_1 : decode jdk_43_method_2_code 1 = .ok (.aload_n 0, 1) := by decide +kernel
theorem d_lca2_2 : decode jdk_43_method_2_code 2 = .ok (.arraylength, 1) := by decide +kernel
theorem d_lca2_3 : decode jdk_43_method_2_code 3 = .ok (.invokestatic 9, 3) := by decide +kernel
theorem d_lca2_6 : decode jdk_43_method_2_code 6 = .ok (.aload_n 0, 1) := by decide +kernel
theorem d_lca2_7 : decode jdk_43_method_2_code 7 = .ok (.iload_n 1, 1) := by decide +kernel
theorem d_lca2_8 : decode jdk_43_method_2_code 8 = .ok (.baload, 1) := by decide +kernel
theorem d_lca2_9 : decode jdk_43_method_2_code 9 = .ok (.sipush 255, 3) := by decide +kernel
theorem d_lca2_12 : decode jdk_43_method_2_code 12 = .ok (.iand, 1) := by decide +kernel
theorem d_lca2_13 : decode jdk_43_method_2_code 13 = .ok (.i2c, 1) := by decide +kernel
theorem d_lca2_14 : decode jdk_43_method_2_code 14 = .ok (.ireturn, 1) := by decide +kernel
theorem ef_lca2 (m : MethodId) (a0 : Addr) : entryFrame m #[(.ref a0), (.int (2 : Int32))] 2 = mkF m 0 #[.val (.ref a0), .val (.int (2 : Int32))] [] := by first | (simp [entryFrame, mkF, argsToLocals, Value.category]; done) | rfl
def Q_lca2 (Z : State) (a0 : Addr) (kb : ClassId) (w1 : Value) (c0 : Int32) (c1 : Int32) (c2 : Int32) (c3 : Int32) (c4 : Int32) (h0 : Heap) (n0 : Nat) (v : Option Value) (h : Heap) (L : List Loc) : Prop := v = some (.int c2) ∧ Fr n0 L ∧ h = h0
set_option maxRecDepth 65536 in
set_option maxHeartbeats 40000000 in
theorem rm_lca2 (l : Launch) (Z : State) (aT : Array Value) (hw : ∀ d ∈ tables_1, d.before aT Z = true) (ws : List Jvm.Cond) (a0 : Addr) (kb : ClassId) (w1 : Value) (c0 : Int32) (c1 : Int32) (c2 : Int32) (c3 : Int32) (c4 : Int32) (h0 : Heap) (n0 : Nat) (Z0 : n0 ≤ h0.size) (hp0 : Arv Z h0 a0 kb .byte (5 : Int32) [(.int (c0.toInt8.toInt32)), (.int (c1.toInt8.toInt32)), (.int (c2.toInt8.toInt32)), (.int (c3.toInt8.toInt32)), (.int (c4.toInt8.toInt32))] (.int (0 : Int32))) (hp1 : Sta Z h0 "jdk/internal/util/Preconditions" "SIOOBE_FORMATTER" "Ljava/util/function/BiFunction;" w1) (hr2 : own_chr c2) (h5 : ¬ ((255 : Int32) < c2)) (hw1 : w1.isRef = true) :
    MetFree l mN12 (head1 (Jvm.Cond.code mN12 jdk_43_method_2_code 2 (some .char) :: ws) ({ frames := 2, cells := 0, slots := 0, locals := 27 } : Room)) (fun a U => a = #[(.ref a0), (.int (2 : Int32))] ∧ Z.Warmed39 U.vm ∧ U.heap = h0) (fun _ _ _ _ _ => True) (fun _ U o U' => ∃ v L, o = .returned v ∧ Q_lca2 Z a0 kb w1 c0 c1 c2 c3 c4 h0 n0 v U'.heap L ∧ FrameEnd U o U' L ({ frames := 2, cells := 0, slots := 0, locals := 27 } : Room).cells ({ frames := 2, cells := 0, slots := 0, locals := 27 } : Room).slots) := by
  refine MetFree.of_bodySF (plainFor_of_name pn3) hisR ?_
  intro p e s m args below meth c s₁ Bd hml0 hP hK
  obtain ⟨rfl, hZ, hh⟩ := hP
  have hx := Bd.exec
  have hby := Bd.bytes
  have hml : c.maxLocals = 2 := hml0
  have hown : s.vm.findClass "java/lang/StringLatin1" = some m.cls := findClass_of_methodNamed Bd.named
  have hnm := (name_of_methodNamed Bd.named Bd.method).1
  have hlk := Bd.notSynchronized
  have hrt := Bd.returns
  have X0 : Stand p l e ({ frames := 2, cells := 0, slots := 0, locals := 27 } : Room) s m #[(.ref a0), (.int (2 : Int32))] below meth c s₁ [] 0 0 := Stand.of_body Bd
  have e0 : s₁.heap = h0 := by rw [← hh, Bd.state]; rfl
  have N0 := Fr.nil n0
  refine own_cast (P := own_End s (Q_lca2 Z a0 kb w1 c0 c1 c2 c3 c4 h0 n0) ({ frames := 2, cells := 0, slots := 0, locals := 27 } : Room).cells ({ frames := 2, cells := 0, slots := 0, locals := 27 } : Room).slots) (ef_lca2 m a0) ?_
  refine g_iloadN X0 hx hby d_lca2_0 rfl (rfl : 0 + 1 = 1) ?_
  refine g_aloadN X0 hx hby d_lca2_1 rfl rfl (rfl : 1 + 1 = 2) ?_
  refine g_alen X0 hx hby hZ e0 hp0 d_lca2_2 (rfl : 2 + 1 = 3) ?_
  obtain ⟨_, _, ⟨T30, L30, k30, n30⟩, -, X30, ⟨Lc30, hQ30, l30, y30, z30⟩, st30⟩ := Jvm.LawKit.callS X0 hx (y := mN8) hown (mvT hZ (hw _ (own_M 96 rfl))) (mvT hZ (hw _ (own_M 97 rfl))) (mvT hZ (hw _ (own_M 3 rfl))) (mvT hZ (hw _ (own_M 98 rfl))) (by decide) (backOf (W := 0) (rm_sck l Z aT hw [] (2 : Int32) (5 : Int32) w1 h0 n0 Z0 hp1 (by decide) (by decide) hw1) hZ (hw _ (own_M 98 rfl)) (hw _ (own_M 3 rfl)) (by decide) (by decide)) (g := (mkF m 3 #[.val (.ref a0), .val (.int (2 : Int32))] [(.int (5 : Int32)), (.int (2 : Int32))])) rfl (by rw [hml]; rfl) (argsL := [(.int (2 : Int32)), (.int (5 : Int32))]) (rest := []) (lenOf pd2 rfl) rfl (by show 2 * 0 + _ ≤ _; exact Nat.le_of_eq rfl) (hb hby d_lca2_3) (fun _ _ => ⟨rfl, e0, (by decide : 0 + 0 ≤ _), (by decide : 0 + 0 ≤ _)⟩)
  dsimp only [Pt.U, Pt.locs, Pt.cells, Pt.slots] at X30 l30 y30 z30 st30 hQ30
  subst l30 y30 z30
  obtain ⟨rfl, N30q, eq30⟩ := hQ30
  have N30 := Fr.app N0 N30q
  refine own_go st30 ?_
  show own_Got p e below _ T30 (mkF m 6 #[.val (.ref a0), .val (.int (2 : Int32))] [])
  refine g_aloadN X30 hx hby d_lca2_6 rfl rfl (rfl : 6 + 1 = 7) ?_
  refine g_iloadN X30 hx hby d_lca2_7 rfl (rfl : 7 + 1 = 8) ?_
  refine g_baload X30 hx hby hZ eq30 (v := (.int (c2.toInt8.toInt32))) hp0 ⟨by decide, by decide⟩ rfl d_lca2_8 (rfl : 8 + 1 = 9) ?_
  refine g_sipush X30 hx hby (255 : Int32) d_lca2_9 (by decide) (rfl : 9 + 3 = 12) ?_
  refine g_iand X30 hx hby d_lca2_12 (rfl : 12 + 1 = 13) ?_
  refine g_i2c X30 hx hby d_lca2_13 (rfl : 13 + 1 = 14) ?_
  refine own_retN X30 hx hby hlk (t := .char) hrt (by simp) d_lca2_14 (by decide) (by decide) ?_
  show Q_lca2 Z a0 kb w1 c0 c1 c2 c3 c4 h0 n0 _ T30.heap _
  exact ⟨(congrArg (fun z => some (Value.int z)) (own_slc c2 hr2 h5)), N30, eq30⟩
theorem d_gch3_0 : decode jdk_52_method_5_code 0 = .ok (.getstatic 44, 3) := by decide +kernel
theorem d_gch3_3 : decode jdk_52_method_5_code 3 = .ok (.ifCond .ne 25, 3) := by decide +kernel
theorem d_gch3_28 : decode jdk_52_method_5_code 28 = .ok (.iload_n 1, 1) := by decide +kernel
theorem d_gch3_29 : decode jdk_52_method_5_code 29 = .ok (.iconst 1, 1) := by decide +kernel
theorem d_gch3_30 : decode jdk_52_method_5_code 30 = .ok (.ishl, 1) := by decide +kernel
theorem d_gch3_31 : decode jdk_52_method_5_code 31 = .ok (.istore_n 1, 1) := by decide +kernel
theorem d_gch3_32 : decode jdk_52_method_5_code 32 = .ok (.aload_n 0, 1) := by decide +kernel
theorem d_gch3_33 : decode jdk_52_method_5_code 33 = .ok (.iload_n 1, 1) := by decide +kernel
theorem d_gch3_34 : decode jdk_52_method_5_code 34 = .ok (.iinc 1 1, 3) := by decide +kernel
theorem d_gch3_37 : decode jdk_52_method_5_code 37 = .ok (.baload, 1) := by decide +kernel
theorem d_gch3_38 : decode jdk_52_method_5_code 38 = .ok (.sipush 255, 3) := by decide +kernel
theorem d_gch3_41 : decode jdk_52_method_5_code 41 = .ok (.iand, 1) := by decide +kernel
theorem d_gch3_42 : decode jdk_52_method_5_code 42 = .ok (.getstatic 59, 3) := by decide +kernel
theorem d_gch3_45 : decode jdk_52_method_5_code 45 = .ok (.ishl, 1) := by decide +kernel
theorem d_gch3_46 : decode jdk_52_method_5_code 46 = .ok (.aload_n 0, 1) := by decide +kernel
theorem d_gch3_47 : decode jdk_52_method_5_code 47 = .ok (.iload_n 1, 1) := by decide +kernel
theorem d_gch3_48 : decode jdk_52_method_5_code 48 = .ok (.baload, 1) := by decide +kernel
theorem d_gch3_49 : decode jdk_52_method_5_code 49 = .ok (.sipush 255, 3) := by decide +kernel
theorem d_gch3_52 : decode jdk_52_method_5_code 52 = .ok (.iand, 1) := by decide +kernel
theorem d_gch3_53 : decode jdk_52_method_5_code 53 = .ok (.getstatic 63, 3) := by decide +kernel
theorem d_gch3_56 : decode jdk_52_method_5_code 56 = .ok (.ishl, 1) := by decide +kernel
theorem d_gch3_57 : decode jdk_52_method_5_code 57 = .ok (.ior, 1) := by decide +kernel
theorem d_gch3_58 : decode jdk_52_method_5_code 58 = .ok (.i2c, 1) := by decide +kernel
theorem d_gch3_59 : decode jdk_52_method_5_code 59 = .ok (.ireturn, 1) := by decide +kernel
theorem ef_gch3 (m : MethodId) (a0 : Addr) : entryFrame m #[(.ref a0), (.int (3 : Int32))] 2 = mkF m 0 #[.val (.ref a0), .val (.int (3 : Int32))] [] := by first | (simp [entryFrame, mkF, argsToLocals, Value.category]; done) | rfl
def Q_gch3 (Z : State) (a0 : Addr) (kb : ClassId) (c0 : Int32) (c1 : Int32) (c2 : Int32) (c3 : Int32) (c4 : Int32) (h0 : Heap) (n0 : Nat) (v : Option Value) (h : Heap) (L : List Loc) : Prop := v = some (.int c3) ∧ Fr n0 L ∧ h = h0
set_option maxRecDepth 65536 in
set_option maxHeartbeats 40000000 in
theorem rm_gch3 (l : Launch) (Z : State) (aT : Array Value) (hw : ∀ d ∈ tables_1, d.before aT Z = true) (ws : List Jvm.Cond) (a0 : Addr) (kb : ClassId) (c0 : Int32) (c1 : Int32) (c2 : Int32) (c3 : Int32) (c4 : Int32) (h0 : Heap) (n0 : Nat) (Z0 : n0 ≤ h0.size) (hp0 : Arv Z h0 a0 kb .byte (10 : Int32) [(.int ((c0 >>> ((0 : Int32) &&& 31)).toInt8.toInt32)), (.int ((c0 >>> ((8 : Int32) &&& 31)).toInt8.toInt32)), (.int ((c1 >>> ((0 : Int32) &&& 31)).toInt8.toInt32)), (.int ((c1 >>> ((8 : Int32) &&& 31)).toInt8.toInt32)), (.int ((c2 >>> ((0 : Int32) &&& 31)).toInt8.toInt32)), (.int ((c2 >>> ((8 : Int32) &&& 31)).toInt8.toInt32)), (.int ((c3 >>> ((0 : Int32) &&& 31)).toInt8.toInt32)), (.int ((c3 >>> ((8 : Int32) &&& 31)).toInt8.toInt32)), (.int ((c4 >>> ((0 : Int32) &&& 31)).toInt8.toInt32)), (.int ((c4 >>> ((8 : Int32) &&& 31)).toInt8.toInt32))] (.int (0 : Int32))) (hp1 : Sta Z h0 "java/lang/StringUTF16" "$assertionsDisabled" "Z" (.int (1 : Int32))) (hp2 : Sta Z h0 "java/lang/StringUTF16" "HI_BYTE_SHIFT" "I" (.int (0 : Int32))) (hp3 : Sta Z h0 "java/lang/StringUTF16" "LO_BYTE_SHIFT" "I" (.int (8 : Int32))) (hr3 : own_chr c3) :
    MetFree l mN18 (head1 (Jvm.Cond.code mN18 jdk_52_method_5_code 2 (some .char) :: ws) ({ frames := 0, cells := 0, slots := 0, locals := 0 } : Room)) (fun a U => a = #[(.ref a0), (.int (3 : Int32))] ∧ Z.Warmed39 U.vm ∧ U.heap = h0) (fun _ _ _ _ _ => True) (fun _ U o U' => ∃ v L, o = .returned v ∧ Q_gch3 Z a0 kb c0 c1 c2 c3 c4 h0 n0 v U'.heap L ∧ FrameEnd U o U' L ({ frames := 0, cells := 0, slots := 0, locals := 0 } : Room).cells ({ frames := 0, cells := 0, slots := 0, locals := 0 } : Room).slots) := by
  refine MetFree.of_bodySF (plainFor_of_name pn2) hisR ?_
  intro p e s m args below meth c s₁ Bd hml0 hP hK
  obtain ⟨rfl, hZ, hh⟩ := hP
  have hx := Bd.exec
  have hby := Bd.bytes
  have hml : c.maxLocals = 2 := hml0
  have hown : s.vm.findClass "java/lang/StringUTF16" = some m.cls := findClass_of_methodNamed Bd.named
  have hnm := (name_of_methodNamed Bd.named Bd.method).1
  have hlk := Bd.notSynchronized
  have hrt := Bd.returns
  have X0 : Stand p l e ({ frames := 0, cells := 0, slots := 0, locals := 0 } : Room) s m #[(.ref a0), (.int (3 : Int32))] below meth c s₁ [] 0 0 := Stand.of_body Bd
  have e0 : s₁.heap = h0 := by rw [← hh, Bd.state]; rfl
  have N0 := Fr.nil n0
  refine own_cast (P := own_End s (Q_gch3 Z a0 kb c0 c1 c2 c3 c4 h0 n0) ({ frames := 0, cells := 0, slots := 0, locals := 0 } : Room).cells ({ frames := 0, cells := 0, slots := 0, locals := 0 } : Room).slots) (ef_gch3 m a0) ?_
  obtain ⟨T31, X31, e31, st31⟩ := getS2 X0 hx hZ hown (host := "") (Or.inl (hw _ (own_M 116 rfl))) Via.refl e0 hp1 (g := (mkF m 0 #[.val (.ref a0), .val (.int (3 : Int32))] [])) rfl (hb hby d_gch3_0)
  refine own_go st31 ?_
  show own_Got p e below _ T31 (mkF m 3 #[.val (.ref a0), .val (.int (3 : Int32))] [(.int (1 : Int32))])
  refine g_ifT X31 hx hby d_gch3_3 ((if0 _ _).trans (feq (by decide : ¬ ((1 : Int32) = (0 : Int32)))).2) (by decide) (pc' := 28) (by decide) ?_
  refine g_iloadN X31 hx hby d_gch3_28 rfl (rfl : 28 + 1 = 29) ?_
  refine g_iconst X31 hx hby (1 : Int32) d_gch3_29 (by decide) (rfl : 29 + 1 = 30) ?_
  refine g_ishl X31 hx hby d_gch3_30 (rfl : 30 + 1 = 31) ?_
  rw [(by decide : ((3 : Int32) <<< ((1 : Int32) &&& 31)) = (6 : Int32))]
  refine g_istoreN X31 hx hby #[.val (.ref a0), .val (.int (6 : Int32))] d_gch3_31 rfl (rfl : 31 + 1 = 32) ?_
  refine g_aloadN X31 hx hby d_gch3_32 rfl rfl (rfl : 32 + 1 = 33) ?_
  refine g_iloadN X31 hx hby d_gch3_33 rfl (rfl : 33 + 1 = 34) ?_
  refine g_iinc X31 hx hby #[.val (.ref a0), .val (.int ((6 : Int32) + (1 : Int32)))] d_gch3_34 rfl rfl (rfl : 34 + 3 = 37) ?_
  rw [(by decide : ((6 : Int32) + (1 : Int32)) = (7 : Int32))]
  refine g_baload X31 hx hby hZ e31 (v := (.int ((c3 >>> ((0 : Int32) &&& 31)).toInt8.toInt32))) hp0 ⟨by decide, by decide⟩ rfl d_gch3_37 (rfl : 37 + 1 = 38) ?_
  refine g_sipush X31 hx hby (255 : Int32) d_gch3_38 (by decide) (rfl : 38 + 3 = 41) ?_
  refine g_iand X31 hx hby d_gch3_41 (rfl : 41 + 1 = 42) ?_
  obtain ⟨T32, X32, e32, st32⟩ := getS2 X31 hx hZ hown (host := "") (Or.inl (hw _ (own_M 117 rfl))) Via.refl e31 hp2 (g := (mkF m 42 #[.val (.ref a0), .val (.int (7 : Int32))] [(.int (((c3 >>> ((0 : Int32) &&& 31)).toInt8.toInt32) &&& (255 : Int32)))])) rfl (hb hby d_gch3_42)
  refine own_go st32 ?_
  show own_Got p e below _ T32 (mkF m 45 #[.val (.ref a0), .val (.int (7 : Int32))] [(.int (0 : Int32)), (.int (((c3 >>> ((0 : Int32) &&& 31)).toInt8.toInt32) &&& (255 : Int32)))])
  refine g_ishl X32 hx hby d_gch3_45 (rfl : 45 + 1 = 46) ?_
  refine g_aloadN X32 hx hby d_gch3_46 rfl rfl (rfl : 46 + 1 = 47) ?_
  refine g_iloadN X32 hx hby d_gch3_47 rfl (rfl : 47 + 1 = 48) ?_
  refine g_baload X32 hx hby hZ e32 (v := (.int ((c3 >>> ((8 : Int32) &&& 31)).toInt8.toInt32))) hp0 ⟨by decide, by decide⟩ rfl d_gch3_48 (rfl : 48 + 1 = 49) ?_
  refine g_sipush X32 hx hby (255 : Int32) d_gch3_49 (by decide) (rfl : 49 + 3 = 52) ?_
  refine g_iand X32 hx hby d_gch3_52 (rfl : 52 + 1 = 53) ?_
  obtain ⟨T33, X33, e33, st33⟩ := getS2 X32 hx hZ hown (host := "") (Or.inl (hw _ (own_M 118 rfl))) Via.refl e32 hp3 (g := (mkF m 53 #[.val (.ref a0), .val (.int (7 : Int32))] [(.int (((c3 >>> ((8 : Int32) &&& 31)).toInt8.toInt32) &&& (255 : Int32))), (.int ((((c3 >>> ((0 : Int32) &&& 31)).toInt8.toInt32) &&& (255 : Int32)) <<< ((0 : Int32) &&& 31)))])) rfl (hb hby d_gch3_53)
  refine own_go st33 ?_
  show own_Got p e below _ T33 (mkF m 56 #[.val (.ref a0), .val (.int (7 : Int32))] [(.int (8 : Int32)), (.int (((c3 >>> ((8 : Int32) &&& 31)).toInt8.toInt32) &&& (255 : Int32))), (.int ((((c3 >>> ((0 : Int32) &&& 31)).toInt8.toInt32) &&& (255 : Int32)) <<< ((0 : Int32) &&& 31)))])
  refine g_ishl X33 hx hby d_gch3_56 (rfl : 56 + 1 = 57) ?_
  refine g_ior X33 hx hby d_gch3_57 (rfl : 57 + 1 = 58) ?_
  refine g_i2c X33 hx hby d_gch3_58 (rfl : 58 + 1 = 59) ?_
  refine own_retN X33 hx hby hlk (t := .char) hrt (by simp) d_gch3_59 (by decide) (by decide) ?_
  show Q_gch3 Z a0 kb c0 c1 c2 c3 c4 h0 n0 _ T33.heap _
  exact ⟨(congrArg (fun z => some (Value.int z)) (own_gch c3 hr3)), N0, e33⟩
theorem d_uca3_0 : decode jdk_52_method_83_code 0 = .ok (.iload_n 1, 1) := by decide +kernel
theorem d_uca3_1 : decode jdk_52_method_83_code 1 = .ok (.aload_n 0, 1) := by decide +kernel
theorem d_uca3_2 : decode jdk_52_method_83_code 2 = .ok (.invokestatic 67, 3) := by decide +kernel
theorem d_uca3_5 : decode jdk_52_method_83_code 5 = .ok (.aload_n 0, 1) := by decide +kernel
theorem d_uca3_6 : decode jdk_52_method_83_code 6 = .ok (.iload_n 1, 1) := by decide +kernel
theorem d_uca3_7 : decode jdk_52_method_83_code 7 = .ok (.invokestatic 71, 3) := by decide +kernel
theorem d_uca3_10 : decode jdk_52_method_83_code 10 = .ok (.ireturn, 1) := by decide +kernel
theorem ef_uca3 (m : MethodId) (a0 : Addr) : entryFrame m #[(.ref a0), (.int (3 : Int32))] 2 = mkF m 0 #[.val (.ref a0), .val (.int (3 : Int32))] [] := by first | (simp [entryFrame, mkF, argsToLocals, Value.category]; done) | rfl
def Q_uca3 (Z : State) (a0 : Addr) (kb : ClassId) (w1 : Value) (c0 : Int32) (c1 : Int32) (c2 : Int32) (c3 : Int32) (c4 : Int32) (h0 : Heap) (n0 : Nat) (v : Option Value) (h : Heap) (L : List Loc) : Prop := v = some (.int c3) ∧ Fr n0 L ∧ h = h0
set_option maxRecDepth 65536 in
set_option maxHeartbeats 40000000 in
theorem rm_uca3 (l : Launch) (Z : State) (aT : Array Value) (hw : ∀ d ∈ tables_1, d.before aT Z = true) (ws : List Jvm.Cond) (a0 : Addr) (kb : ClassId) (w1 : Value) (c0 : Int32) (c1 : Int32) (c2 : Int32) (c3 : Int32) (c4 : Int32) (h0 : Heap) (n0 : Nat) (Z0 : n0 ≤ h0.size) (hp0 : Arv Z h0 a0 kb .byte (10 : Int32) [(.int ((c0 >>> ((0 : Int32) &&& 31)).toInt8.toInt32)), (.int ((c0 >>> ((8 : Int32) &&& 31)).toInt8.toInt32)), (.int ((c1 >>> ((0 : Int32) &&& 31)).toInt8.toInt32)), (.int ((c1 >>> ((8 : Int32) &&& 31)).toInt8.toInt32)), (.int ((c2 >>> ((0 : Int32) &&& 31)).toInt8.toInt32)), (.int ((c2 >>> ((8 : Int32) &&& 31)).toInt8.toInt32)), (.int ((c3 >>> ((0 : Int32) &&& 31)).toInt8.toInt32)), (.int ((c3 >>> ((8 : Int32) &&& 31)).toInt8.toInt32)), (.int ((c4 >>> ((0 : Int32) &&& 31)).toInt8.toInt32)), (.int ((c4 >>> ((8 : Int32) &&& 31)).toInt8.toInt32))] (.int (0 : Int32))) (hp1 : Sta Z h0 "java/lang/StringUTF16" "$assertionsDisabled" "Z" (.int (1 : Int32))) (hp2 : Sta Z h0 "java/lang/StringUTF16" "HI_BYTE_SHIFT" "I" (.int (0 : Int32))) (hp3 : Sta Z h0 "java/lang/StringUTF16" "LO_BYTE_SHIFT" "I" (.int (8 : Int32))) (hp4 : Sta Z h0 "jdk/internal/util/Preconditions" "SIOOBE_FORMATTER" "Ljava/util/function/BiFunction;" w1) (hr3 : own_chr c3) (hw1 : w1.isRef = true) :
    MetFree l mN13 (head1 (Jvm.Cond.code mN13 jdk_52_method_83_code 2 (some .char) :: ws) ({ frames := 3, cells := 0, slots := 0, locals := 40 } : Room)) (fun a U => a = #[(.ref a0), (.int (3 : Int32))] ∧ Z.Warmed39 U.vm ∧ U.heap = h0) (fun _ _ _ _ _ => True) (fun _ U o U' => ∃ v L, o = .returned v ∧ Q_uca3 Z a0 kb w1 c0 c1 c2 c3 c4 h0 n0 v U'.heap L ∧ FrameEnd U o U' L ({ frames := 3, cells := 0, slots := 0, locals := 40 } : Room).cells ({ frames := 3, cells := 0, slots := 0, locals := 40 } : Room).slots) := by
  refine MetFree.of_bodySF (plainFor_of_name pn2) hisR ?_
  intro p e s m args below meth c s₁ Bd hml0 hP hK
  obtain ⟨rfl, hZ, hh⟩ := hP
  have hx := Bd.exec
  have hby := Bd.bytes
  have hml : c.maxLocals = 2 := hml0
  have hown : s.vm.findClass "java/lang/StringUTF16" = some m.cls := findClass_of_methodNamed Bd.named
  have hnm := (name_of_methodNamed Bd.named Bd.method).1
  have hlk := Bd.notSynchronized
  have hrt := Bd.returns
  have X0 : Stand p l e ({ frames := 3, cells := 0, slots := 0, locals := 40 } : Room) s m #[(.ref a0), (.int (3 : Int32))] below meth c s₁ [] 0 0 := Stand.of_body Bd
  have e0 : s₁.heap = h0 := by rw [← hh, Bd.state]; rfl
  have N0 := Fr.nil n0
  refine own_cast (P := own_End s (Q_uca3 Z a0 kb w1 c0 c1 c2 c3 c4 h0 n0) ({ frames := 3, cells := 0, slots := 0, locals := 40 } : Room).cells ({ frames := 3, cells := 0, slots := 0, locals := 40 } : Room).slots) (ef_uca3 m a0) ?_
  refine g_iloadN X0 hx hby d_uca3_0 rfl (rfl : 0 + 1 = 1) ?_
  refine g_aloadN X0 hx hby d_uca3_1 rfl rfl (rfl : 1 + 1 = 2) ?_
  obtain ⟨_, _, ⟨T34, L34, k34, n34⟩, -, X34, ⟨Lc34, hQ34, l34, y34, z34⟩, st34⟩ := Jvm.LawKit.callS X0 hx (y := mN14) hown (mvT hZ (hw _ (own_M 125 rfl))) (mvT hZ (hw _ (own_M 126 rfl))) (mvT hZ (hw _ (own_M 17 rfl))) (mvT hZ (hw _ (own_M 127 rfl))) (by decide) (backOf (W := 0) (rm_uck l Z aT hw [] (3 : Int32) a0 kb [(.int ((c0 >>> ((0 : Int32) &&& 31)).toInt8.toInt32)), (.int ((c0 >>> ((8 : Int32) &&& 31)).toInt8.toInt32)), (.int ((c1 >>> ((0 : Int32) &&& 31)).toInt8.toInt32)), (.int ((c1 >>> ((8 : Int32) &&& 31)).toInt8.toInt32)), (.int ((c2 >>> ((0 : Int32) &&& 31)).toInt8.toInt32)), (.int ((c2 >>> ((8 : Int32) &&& 31)).toInt8.toInt32)), (.int ((c3 >>> ((0 : Int32) &&& 31)).toInt8.toInt32)), (.int ((c3 >>> ((8 : Int32) &&& 31)).toInt8.toInt32)), (.int ((c4 >>> ((0 : Int32) &&& 31)).toInt8.toInt32)), (.int ((c4 >>> ((8 : Int32) &&& 31)).toInt8.toInt32))] w1 h0 n0 Z0 hp0 hp4 (by decide) (by decide) hw1) hZ (hw _ (own_M 127 rfl)) (hw _ (own_M 17 rfl)) (by decide) (by decide)) (g := (mkF m 2 #[.val (.ref a0), .val (.int (3 : Int32))] [(.ref a0), (.int (3 : Int32))])) rfl (by rw [hml]; rfl) (argsL := [(.int (3 : Int32)), (.ref a0)]) (rest := []) (lenOf pd3 rfl) rfl (by show 2 * 0 + _ ≤ _; exact Nat.le_of_eq rfl) (hb hby d_uca3_2) (fun _ _ => ⟨rfl, e0, (by decide : 0 + 0 ≤ _), (by decide : 0 + 0 ≤ _)⟩)
  dsimp only [Pt.U, Pt.locs, Pt.cells, Pt.slots] at X34 l34 y34 z34 st34 hQ34
  subst l34 y34 z34
  obtain ⟨rfl, N34q, eq34⟩ := hQ34
  have N34 := Fr.app N0 N34q
  refine own_go st34 ?_
  show own_Got p e below _ T34 (mkF m 5 #[.val (.ref a0), .val (.int (3 : Int32))] [])
  refine g_aloadN X34 hx hby d_uca3_5 rfl rfl (rfl : 5 + 1 = 6) ?_
  refine g_iloadN X34 hx hby d_uca3_6 rfl (rfl : 6 + 1 = 7) ?_
  obtain ⟨_, _, ⟨T35, L35, k35, n35⟩, -, X35, ⟨Lc35, hQ35, l35, y35, z35⟩, st35⟩ := Jvm.LawKit.callS X34 hx (y := mN18) hown (mvT hZ (hw _ (own_M 119 rfl))) (mvT hZ (hw _ (own_M 120 rfl))) (mvT hZ (hw _ (own_M 17 rfl))) (mvT hZ (hw _ (own_M 121 rfl))) (by decide) (backOf (W := 0) (rm_gch3 l Z aT hw [] a0 kb _ _ _ _ _ h0 n0 Z0 hp0 hp1 hp2 hp3 hr3) hZ (hw _ (own_M 121 rfl)) (hw _ (own_M 17 rfl)) (by decide) (by decide)) (g := (mkF m 7 #[.val (.ref a0), .val (.int (3 : Int32))] [(.int (3 : Int32)), (.ref a0)])) rfl (by rw [hml]; rfl) (argsL := [(.ref a0), (.int (3 : Int32))]) (rest := []) (lenOf pd4 rfl) rfl (by show 2 * 0 + _ ≤ _; exact Nat.le_of_eq rfl) (hb hby d_uca3_7) (fun _ _ => ⟨rfl, eq34, (by decide : 0 + 0 ≤ _), (by decide : 0 + 0 ≤ _)⟩)
  dsimp only [Pt.U, Pt.locs, Pt.cells, Pt.slots] at X35 l35 y35 z35 st35 hQ35
  subst l35 y35 z35
  obtain ⟨rfl, N35q, eq35⟩ := hQ35
  have N35 := Fr.app N34 N35q
  refine own_go st35 ?_
  show own_Got p e below _ T35 (mkF m 10 #[.val (.ref a0), .val (.int (3 : Int32))] [(.int c3)])
  refine own_retN X35 hx hby hlk (t := .char) hrt (by simp) d_uca3_10 (by decide) (by decide) ?_
  show Q_uca3 Z a0 kb w1 c0 c1 c2 c3 c4 h0 n0 _ T35.heap _
  exact ⟨(congrArg (fun z => some (Value.int z)) (own_cch c3 hr3)), N35, eq35⟩
theorem d_lca3_0 : decode jdk_43_method_2_code 0 = .ok (.iload_n 1, 1) := by decide +kernel
theorem d_lca3_1 : decode jdk_43_method_2_code 1 = .ok (.aload_n 0, 1) := by decide +kernel
theorem d_lca3_2 : decode jdk_43_method_2_code 2 = .ok (.arraylength, 1) := by decide +kernel
theorem d_lca3_3 : decode jdk_43_method_2_code 3 = .ok (.invokestatic 9, 3) := by decide +kernel
theorem d_lca3_6 : decode jdk_43_method_2_code 6 = .ok (.aload_n 0, 1) := by decide +kernel
theorem d_lca3_7 : decode jdk_43_method_2_code 7 = .ok (.iload_n 1, 1) := by decide +kernel
theorem d_lca3_8 : decode jdk_43_method_2_code 8 = .ok (.baload, 1) := by decide +kernel
theorem d_lca3_9 : decode jdk_43_method_2_code 9 = .ok (.sipush 255, 3) := by decide +kernel
theorem d_lca3_12 : decode jdk_43_method_2_code 12 = .ok (.iand, 1) := by decide +kernel
theorem d_lca3_13 : decode jdk_43_method_2_code 13 = .ok (.i2c, 1) := by decide +kernel
theorem d_lca3_14 : decode jdk_43_method_2_code 14 = .ok (.ireturn, 1) := by decide +kernel
theorem ef_lca3 (m : MethodId) (a0 : Addr) : entryFrame m #[(.ref a0), (.int (3 : Int32))] 2 = mkF m 0 #[.val (.ref a0), .val (.int (3 : Int32))] [] := by first | (simp [entryFrame, mkF, argsToLocals, Value.category]; done) | rfl
def Q_lca3 (Z : State) (a0 : Addr) (kb : ClassId) (w1 : Value) (c0 : Int32) (c1 : Int32) (c2 : Int32) (c3 : Int32) (c4 : Int32) (h0 : Heap) (n0 : Nat) (v : Option Value) (h : Heap) (L : List Loc) : Prop := v = some (.int c3) ∧ Fr n0 L ∧ h = h0
set_option maxRecDepth 65536 in
set_option maxHeartbeats 40000000 in
theorem rm_lca3 (l : Launch) (Z : State) (aT : Array Value) (hw : ∀ d ∈ tables_1, d.before aT Z = true) (ws : List Jvm.Cond) (a0 : Addr) (kb : ClassId) (w1 : Value) (c0 : Int32) (c1 : Int32) (c2 : Int32) (c3 : Int32) (c4 : Int32) (h0 : Heap) (n0 : Nat) (Z0 : n0 ≤ h0.size) (hp0 : Arv Z h0 a0 kb .byte (5 : Int32) [(.int (c0.toInt8.toInt32)), (.int (c1.toInt8.toInt32)), (.int (c2.toInt8.toInt32)), (.int (c3.toInt8.toInt32)), (.int (c4.toInt8.toInt32))] (.int (0 : Int32))) (hp1 : Sta Z h0 "jdk/internal/util/Preconditions" "SIOOBE_FORMATTER" "Ljava/util/function/BiFunction;" w1) (hr3 : own_chr c3) (h5 : ¬ ((255 : Int32) < c3)) (hw1 : w1.isRef = true) :
    MetFree l mN12 (head1 (Jvm.Cond.code mN12 jdk_43_method_2_code 2 (some .char) :: ws) ({ frames := 2, cells := 0, slots := 0, locals := 27 } : Room)) (fun a U => a = #[(.ref a0), (.int (3 : Int32))] ∧ Z.Warmed39 U.vm ∧ U.heap = h0) (fun _ _ _ _ _ => True) (fun _ U o U' => ∃ v L, o = .returned v ∧ Q_lca3 Z a0 kb w1 c0 c1 c2 c3 c4 h0 n0 v U'.heap L ∧ FrameEnd U o U' L ({ frames := 2, cells := 0, slots := 0, locals := 27 } : Room).cells ({ frames := 2, cells := 0, slots := 0, locals := 27 } : Room).slots) := by
  refine MetFree.of_bodySF (plainFor_of_name pn3) hisR ?_
  intro p e s m args below meth c s₁ Bd hml0 hP hK
  obtain ⟨rfl, hZ, hh⟩ := hP
  have hx := Bd.exec
  have hby := Bd.bytes
  have hml : c.maxLocals = 2 := hml0
  have hown : s.vm.findClass "java/lang/StringLatin1" = some m.cls := findClass_of_methodNamed Bd.named
  have hnm := (name_of_methodNamed Bd.named Bd.method).1
  have hlk := Bd.notSynchronized
  have hrt := Bd.returns
  have X0 : Stand p l e ({ frames := 2, cells := 0, slots := 0, locals := 27 } : Room) s m #[(.ref a0), (.int (3 : Int32))] below meth c s₁ [] 0 0 := Stand.of_body Bd
  have e0 : s₁.heap = h0 := by rw [← hh, Bd.state]; rfl
  have N0 := Fr.nil n0
  refine own_cast (P := own_End s (Q_lca3 Z a0 kb w1 c0 c1 c2 c3 c4 h0 n0) ({ frames := 2, cells := 0, slots := 0, locals := 27 } : Room).cells ({ frames := 2, cells := 0, slots := 0, locals := 27 } : Room).slots) (ef_lca3 m a0) ?_
  refine g_iloadN X0 hx hby d_lca3_0 rfl (rfl : 0 + 1 = 1) ?_
  refine g_aloadN X0 hx hby d_lca3_1 rfl rfl (rfl : 1 + 1 = 2) ?_
  refine g_alen X0 hx hby hZ e0 hp0 d_lca3_2 (rfl : 2 + 1 = 3) ?_
  obtain ⟨_, _, ⟨T36, L36, k36, n36⟩, -, X36, ⟨Lc36, hQ36, l36, y36, z36⟩, st36⟩ := Jvm.LawKit.callS X0 hx (y := mN8) hown (mvT hZ (hw _ (own_M 96 rfl))) (mvT hZ (hw _ (own_M 97 rfl))) (mvT hZ (hw _ (own_M 3 rfl))) (mvT hZ (hw _ (own_M 98 rfl))) (by decide) (backOf (W := 0) (rm_sck l Z aT hw [] (3 : Int32) (5 : Int32) w1 h0 n0 Z0 hp1 (by decide) (by decide) hw1) hZ (hw _ (own_M 98 rfl)) (hw _ (own_M 3 rfl)) (by decide) (by decide)) (g := (mkF m 3 #[.val (.ref a0), .val (.int (3 : Int32))] [(.int (5 : Int32)), (.int (3 : Int32))])) rfl (by rw [hml]; rfl) (argsL := [(.int (3 : Int32)), (.int (5 : Int32))]) (rest := []) (lenOf pd2 rfl) rfl (by show 2 * 0 + _ ≤ _; exact Nat.le_of_eq rfl) (hb hby d_lca3_3) (fun _ _ => ⟨rfl, e0, (by decide : 0 + 0 ≤ _), (by decide : 0 + 0 ≤ _)⟩)
  dsimp only [Pt.U, Pt.locs, Pt.cells, Pt.slots] at X36 l36 y36 z36 st36 hQ36
  subst l36 y36 z36
  obtain ⟨rfl, N36q, eq36⟩ := hQ36
  have N36 := Fr.app N0 N36q
  refine own_go st36 ?_
  show own_Got p e below _ T36 (mkF m 6 #[.val (.ref a0), .val (.int (3 : Int32))] [])
  refine g_aloadN X36 hx hby d_lca3_6 rfl rfl (rfl : 6 + 1 = 7) ?_
  refine g_iloadN X36 hx hby d_lca3_7 rfl (rfl : 7 + 1 = 8) ?_
  refine g_baload X36 hx hby hZ eq36 (v := (.int (c3.toInt8.toInt32))) hp0 ⟨by decide, by decide⟩ rfl d_lca3_8 (rfl : 8 + 1 = 9) ?_
  refine g_sipush X36 hx hby (255 : Int32) d_lca3_9 (by decide) (rfl : 9 + 3 = 12) ?_
  refine g_iand X36 hx hby d_lca3_12 (rfl : 12 + 1 = 13) ?_
  refine g_i2c X36 hx hby d_lca3_13 (rfl : 13 + 1 = 14) ?_
  refine own_retN X36 hx hby hlk (t := .char) hrt (by simp) d_lca3_14 (by decide) (by decide) ?_
  show Q_lca3 Z a0 kb w1 c0 c1 c2 c3 c4 h0 n0 _ T36.heap _
  exact ⟨(congrArg (fun z => some (Value.int z)) (own_slc c3 hr3 h5)), N36, eq36⟩
theorem d_gch4_0 : decode jdk_52_method_5_code 0 = .ok (.getstatic 44, 3) := by decide +kernel
theorem d_gch4_3 : decode jdk_52_method_5_code 3 = .ok (.ifCond .ne 25, 3) := by decide +kernel
theorem d_gch4_28 : decode jdk_52_method_5_code 28 = .ok (.iload_n 1, 1) := by decide +kernel
theorem d_gch4_29 : decode jdk_52_method_5_code 29 = .ok (.iconst 1, 1) := by decide +kernel
theorem d_gch4_30 : decode jdk_52_method_5_code 30 = .ok (.ishl, 1) := by decide +kernel
theorem d_gch4_31 : decode jdk_52_method_5_code 31 = .ok (.istore_n 1, 1) := by decide +kernel
theorem d_gch4_32 : decode jdk_52_method_5_code 32 = .ok (.aload_n 0, 1) := by decide +kernel
theorem d_gch4_33 : decode jdk_52_method_5_code 33 = .ok (.iload_n 1, 1) := by decide +kernel
theorem d_gch4_34 : decode jdk_52_method_5_code 34 = .ok (.iinc 1 1, 3) := by decide +kernel
theorem d_gch4_37 : decode jdk_52_method_5_code 37 = .ok (.baload, 1) := by decide +kernel
theorem d_gch4_38 : decode jdk_52_method_5_code 38 = .ok (.sipush 255, 3) := by decide +kernel
theorem d_gch4_41 : decode jdk_52_method_5_code 41 = .ok (.iand, 1) := by decide +kernel
theorem d_gch4_42 : decode jdk_52_method_5_code 42 = .ok (.getstatic 59, 3) := by decide +kernel
theorem d_gch4_45 : decode jdk_52_method_5_code 45 = .ok (.ishl, 1) := by decide +kernel
theorem d_gch4_46 : decode jdk_52_method_5_code 46 = .ok (.aload_n 0, 1) := by decide +kernel
theorem d_gch4_47 : decode jdk_52_method_5_code 47 = .ok (.iload_n 1, 1) := by decide +kernel
theorem d_gch4_48 : decode jdk_52_method_5_code 48 = .ok (.baload, 1) := by decide +kernel
theorem d_gch4_49 : decode jdk_52_method_5_code 49 = .ok (.sipush 255, 3) := by decide +kernel
theorem d_gch4_52 : decode jdk_52_method_5_code 52 = .ok (.iand, 1) := by decide +kernel
theorem d_gch4_53 : decode jdk_52_method_5_code 53 = .ok (.getstatic 63, 3) := by decide +kernel
theorem d_gch4_56 : decode jdk_52_method_5_code 56 = .ok (.ishl, 1) := by decide +kernel
theorem d_gch4_57 : decode jdk_52_method_5_code 57 = .ok (.ior, 1) := by decide +kernel
theorem d_gch4_58 : decode jdk_52_method_5_code 58 = .ok (.i2c, 1) := by decide +kernel
theorem d_gch4_59 : decode jdk_52_method_5_code 59 = .ok (.ireturn, 1) := by decide +kernel
theorem ef_gch4 (m : MethodId) (a0 : Addr) : entryFrame m #[(.ref a0), (.int (4 : Int32))] 2 = mkF m 0 #[.val (.ref a0), .val (.int (4 : Int32))] [] := by first | (simp [entryFrame, mkF, argsToLocals, Value.category]; done) | rfl
def Q_gch4 (Z : State) (a0 : Addr) (kb : ClassId) (c0 : Int32) (c1 : Int32) (c2 : Int32) (c3 : Int32) (c4 : Int32) (h0 : Heap) (n0 : Nat) (v : Option Value) (h : Heap) (L : List Loc) : Prop := v = some (.int c4) ∧ Fr n0 L ∧ h = h0
set_option maxRecDepth 65536 in
set_option maxHeartbeats 40000000 in
theorem rm_gch4 (l : Launch) (Z : State) (aT : Array Value) (hw : ∀ d ∈ tables_1, d.before aT Z = true) (ws : List Jvm.Cond) (a0 : Addr) (kb : ClassId) (c0 : Int32) (c1 : Int32) (c2 : Int32) (c3 : Int32) (c4 : Int32) (h0 : Heap) (n0 : Nat) (Z0 : n0 ≤ h0.size) (hp0 : Arv Z h0 a0 kb .byte (10 : Int32) [(.int ((c0 >>> ((0 : Int32) &&& 31)).toInt8.toInt32)), (.int ((c0 >>> ((8 : Int32) &&& 31)).toInt8.toInt32)), (.int ((c1 >>> ((0 : Int32) &&& 31)).toInt8.toInt32)), (.int ((c1 >>> ((8 : Int32) &&& 31)).toInt8.toInt32)), (.int ((c2 >>> ((0 : Int32) &&& 31)).toInt8.toInt32)), (.int ((c2 >>> ((8 : Int32) &&& 31)).toInt8.toInt32)), (.int ((c3 >>> ((0 : Int32) &&& 31)).toInt8.toInt32)), (.int ((c3 >>> ((8 : Int32) &&& 31)).toInt8.toInt32)), (.int ((c4 >>> ((0 : Int32) &&& 31)).toInt8.toInt32)), (.int ((c4 >>> ((8 : Int32) &&& 31)).toInt8.toInt32))] (.int (0 : Int32))) (hp1 : Sta Z h0 "java/lang/StringUTF16" "$assertionsDisabled" "Z" (.int (1 : Int32))) (hp2 : Sta Z h0 "java/lang/StringUTF16" "HI_BYTE_SHIFT" "I" (.int (0 : Int32))) (hp3 : Sta Z h0 "java/lang/StringUTF16" "LO_BYTE_SHIFT" "I" (.int (8 : Int32))) (hr4 : own_chr c4) :
    MetFree l mN18 (head1 (Jvm.Cond.code mN18 jdk_52_method_5_code 2 (some .char) :: ws) ({ frames := 0, cells := 0, slots := 0, locals := 0 } : Room)) (fun a U => a = #[(.ref a0), (.int (4 : Int32))] ∧ Z.Warmed39 U.vm ∧ U.heap = h0) (fun _ _ _ _ _ => True) (fun _ U o U' => ∃ v L, o = .returned v ∧ Q_gch4 Z a0 kb c0 c1 c2 c3 c4 h0 n0 v U'.heap L ∧ FrameEnd U o U' L ({ frames := 0, cells := 0, slots := 0, locals := 0 } : Room).cells ({ frames := 0, cells := 0, slots := 0, locals := 0 } : Room).slots) := by
  refine MetFree.of_bodySF (plainFor_of_name pn2) hisR ?_
  intro p e s m args below meth c s₁ Bd hml0 hP hK
  obtain ⟨rfl, hZ, hh⟩ := hP
  have hx := Bd.exec
  have hby := Bd.bytes
  have hml : c.maxLocals = 2 := hml0
  have hown : s.vm.findClass "java/lang/StringUTF16" = some m.cls := findClass_of_methodNamed Bd.named
  have hnm := (name_of_methodNamed Bd.named Bd.method).1
  have hlk := Bd.notSynchronized
  have hrt := Bd.returns
  have X0 : Stand p l e ({ frames := 0, cells := 0, slots := 0, locals := 0 } : Room) s m #[(.ref a0), (.int (4 : Int32))] below meth c s₁ [] 0 0 := Stand.of_body Bd
  have e0 : s₁.heap = h0 := by rw [← hh, Bd.state]; rfl
  have N0 := Fr.nil n0
  refine own_cast (P := own_End s (Q_gch4 Z a0 kb c0 c1 c2 c3 c4 h0 n0) ({ frames := 0, cells := 0, slots := 0, locals := 0 } : Room).cells ({ frames := 0, cells := 0, slots := 0, locals := 0 } : Room).slots) (ef_gch4 m a0) ?_
  obtain ⟨T37, X37, e37, st37⟩ := getS2 X0 hx hZ hown (host := "") (Or.inl (hw _ (own_M 116 rfl))) Via.refl e0 hp1 (g := (mkF m 0 #[.val (.ref a0), .val (.int (4 : Int32))] [])) rfl (hb hby d_gch4_0)
  refine own_go st37 ?_
  show own_Got p e below _ T37 (mkF m 3 #[.val (.ref a0), .val (.int (4 : Int32))] [(.int (1 : Int32))])
  refine g_ifT X37 hx hby d_gch4_3 ((if0 _ _).trans (feq (by decide : ¬ ((1 : Int32) = (0 : Int32)))).2) (by decide) (pc' := 28) (by decide) ?_
  refine g_iloadN X37 hx hby d_gch4_28 rfl (rfl : 28 + 1 = 29) ?_
  refine g_iconst X37 hx hby (1 : Int32) d_gch4_29 (by decide) (rfl : 29 + 1 = 30) ?_
  refine g_ishl X37 hx hby d_gch4_30 (rfl : 30 + 1 = 31) ?_
  rw [(by decide : ((4 : Int32) <<< ((1 : Int32) &&& 31)) = (8 : Int32))]
  refine g_istoreN X37 hx hby #[.val (.ref a0), .val (.int (8 : Int32))] d_gch4_31 rfl (rfl : 31 + 1 = 32) ?_
  refine g_aloadN X37 hx hby d_gch4_32 rfl rfl (rfl : 32 + 1 = 33) ?_
  refine g_iloadN X37 hx hby d_gch4_33 rfl (rfl : 33 + 1 = 34) ?_
  refine g_iinc X37 hx hby #[.val (.ref a0), .val (.int ((8 : Int32) + (1 : Int32)))] d_gch4_34 rfl rfl (rfl : 34 + 3 = 37) ?_
  rw [(by decide : ((8 : Int32) + (1 : Int32)) = (9 : Int32))]
  refine g_baload X37 hx hby hZ e37 (v := (.int ((c4 >>> ((0 : Int32) &&& 31)).toInt8.toInt32))) hp0 ⟨by decide, by decide⟩ rfl d_gch4_37 (rfl : 37 + 1 = 38) ?_
  refine g_sipush X37 hx hby (255 : Int32) d_gch4_38 (by decide) (rfl : 38 + 3 = 41) ?_
  refine g_iand X37 hx hby d_gch4_41 (rfl : 41 + 1 = 42) ?_
  obtain ⟨T38, X38, e38, st38⟩ := getS2 X37 hx hZ hown (host := "") (Or.inl (hw _ (own_M 117 rfl))) Via.refl e37 hp2 (g := (mkF m 42 #[.val (.ref a0), .val (.int (9 : Int32))] [(.int (((c4 >>> ((0 : Int32) &&& 31)).toInt8.toInt32) &&& (255 : Int32)))])) rfl (hb hby d_gch4_42)
  refine own_go st38 ?_
  show own_Got p e below _ T38 (mkF m 45 #[.val (.ref a0), .val (.int (9 : Int32))] [(.int (0 : Int32)), (.int (((c4 >>> ((0 : Int32) &&& 31)).toInt8.toInt32) &&& (255 : Int32)))])
  refine g_ishl X38 hx hby d_gch4_45 (rfl : 45 + 1 = 46) ?_
  refine g_aloadN X38 hx hby d_gch4_46 rfl rfl (rfl : 46 + 1 = 47) ?_
  refine g_iloadN X38 hx hby d_gch4_47 rfl (rfl : 47 + 1 = 48) ?_
  refine g_baload X38 hx hby hZ e38 (v := (.int ((c4 >>> ((8 : Int32) &&& 31)).toInt8.toInt32))) hp0 ⟨by decide, by decide⟩ rfl d_gch4_48 (rfl : 48 + 1 = 49) ?_
  refine g_sipush X38 hx hby (255 : Int32) d_gch4_49 (by decide) (rfl : 49 + 3 = 52) ?_
  refine g_iand X38 hx hby d_gch4_52 (rfl : 52 + 1 = 53) ?_
  obtain ⟨T39, X39, e39, st39⟩ := getS2 X38 hx hZ hown (host := "") (Or.inl (hw _ (own_M 118 rfl))) Via.refl e38 hp3 (g := (mkF m 53 #[.val (.ref a0), .val (.int (9 : Int32))] [(.int (((c4 >>> ((8 : Int32) &&& 31)).toInt8.toInt32) &&& (255 : Int32))), (.int ((((c4 >>> ((0 : Int32) &&& 31)).toInt8.toInt32) &&& (255 : Int32)) <<< ((0 : Int32) &&& 31)))])) rfl (hb hby d_gch4_53)
  refine own_go st39 ?_
  show own_Got p e below _ T39 (mkF m 56 #[.val (.ref a0), .val (.int (9 : Int32))] [(.int (8 : Int32)), (.int (((c4 >>> ((8 : Int32) &&& 31)).toInt8.toInt32) &&& (255 : Int32))), (.int ((((c4 >>> ((0 : Int32) &&& 31)).toInt8.toInt32) &&& (255 : Int32)) <<< ((0 : Int32) &&& 31)))])
  refine g_ishl X39 hx hby d_gch4_56 (rfl : 56 + 1 = 57) ?_
  refine g_ior X39 hx hby d_gch4_57 (rfl : 57 + 1 = 58) ?_
  refine g_i2c X39 hx hby d_gch4_58 (rfl : 58 + 1 = 59) ?_
  refine own_retN X39 hx hby hlk (t := .char) hrt (by simp) d_gch4_59 (by decide) (by decide) ?_
  show Q_gch4 Z a0 kb c0 c1 c2 c3 c4 h0 n0 _ T39.heap _
  exact ⟨(congrArg (fun z => some (Value.int z)) (own_gch c4 hr4)), N0, e39⟩
theorem d_uca4_0 : decode jdk_52_method_83_code 0 = .ok (.iload_n 1, 1) := by decide +kernel
theorem d_uca4_1 : decode jdk_52_method_83_code 1 = .ok (.aload_n 0, 1) := by decide +kernel
theorem d_uca4_2 : decode jdk_52_method_83_code 2 = .ok (.invokestatic 67, 3) := by decide +kernel
theorem d_uca4_5 : decode jdk_52_method_83_code 5 = .ok (.aload_n 0, 1) := by decide +kernel
theorem d_uca4_6 : decode jdk_52_method_83_code 6 = .ok (.iload_n 1, 1) := by decide +kernel
theorem d_uca4_7 : decode jdk_52_method_83_code 7 = .ok (.invokestatic 71, 3) := by decide +kernel
theorem d_uca4_10 : decode jdk_52_method_83_code 10 = .ok (.ireturn, 1) := by decide +kernel
theorem ef_uca4 (m : MethodId) (a0 : Addr) : entryFrame m #[(.ref a0), (.int (4 : Int32))] 2 = mkF m 0 #[.val (.ref a0), .val (.int (4 : Int32))] [] := by first | (simp [entryFrame, mkF, argsToLocals, Value.category]; done) | rfl
def Q_uca4 (Z : State) (a0 : Addr) (kb : ClassId) (w1 : Value) (c0 : Int32) (c1 : Int32) (c2 : Int32) (c3 : Int32) (c4 : Int32) (h0 : Heap) (n0 : Nat) (v : Option Value) (h : Heap) (L : List Loc) : Prop := v = some (.int c4) ∧ Fr n0 L ∧ h = h0
set_option maxRecDepth 65536 in
set_option maxHeartbeats 40000000 in
theorem rm_uca4 (l : Launch) (Z : State) (aT : Array Value) (hw : ∀ d ∈ tables_1, d.before aT Z = true) (ws : List Jvm.Cond) (a0 : Addr) (kb : ClassId) (w1 : Value) (c0 : Int32) (c1 : Int32) (c2 : Int32) (c3 : Int32) (c4 : Int32) (h0 : Heap) (n0 : Nat) (Z0 : n0 ≤ h0.size) (hp0 : Arv Z h0 a0 kb .byte (10 : Int32) [(.int ((c0 >>> ((0 : Int32) &&& 31)).toInt8.toInt32)), (.int ((c0 >>> ((8 : Int32) &&& 31)).toInt8.toInt32)), (.int ((c1 >>> ((0 : Int32) &&& 31)).toInt8.toInt32)), (.int ((c1 >>> ((8 : Int32) &&& 31)).toInt8.toInt32)), (.int ((c2 >>> ((0 : Int32) &&& 31)).toInt8.toInt32)), (.int ((c2 >>> ((8 : Int32) &&& 31)).toInt8.toInt32)), (.int ((c3 >>> ((0 : Int32) &&& 31)).toInt8.toInt32)), (.int ((c3 >>> ((8 : Int32) &&& 31)).toInt8.toInt32)), (.int ((c4 >>> ((0 : Int32) &&& 31)).toInt8.toInt32)), (.int ((c4 >>> ((8 : Int32) &&& 31)).toInt8.toInt32))] (.int (0 : Int32))) (hp1 : Sta Z h0 "java/lang/StringUTF16" "$assertionsDisabled" "Z" (.int (1 : Int32))) (hp2 : Sta Z h0 "java/lang/StringUTF16" "HI_BYTE_SHIFT" "I" (.int (0 : Int32))) (hp3 : Sta Z h0 "java/lang/StringUTF16" "LO_BYTE_SHIFT" "I" (.int (8 : Int32))) (hp4 : Sta Z h0 "jdk/internal/util/Preconditions" "SIOOBE_FORMATTER" "Ljava/util/function/BiFunction;" w1) (hr4 : own_chr c4) (hw1 : w1.isRef = true) :
    MetFree l mN13 (head1 (Jvm.Cond.code mN13 jdk_52_method_83_code 2 (some .char) :: ws) ({ frames := 3, cells := 0, slots := 0, locals := 40 } : Room)) (fun a U => a = #[(.ref a0), (.int (4 : Int32))] ∧ Z.Warmed39 U.vm ∧ U.heap = h0) (fun _ _ _ _ _ => True) (fun _ U o U' => ∃ v L, o = .returned v ∧ Q_uca4 Z a0 kb w1 c0 c1 c2 c3 c4 h0 n0 v U'.heap L ∧ FrameEnd U o U' L ({ frames := 3, cells := 0, slots := 0, locals := 40 } : Room).cells ({ frames := 3, cells := 0, slots := 0, locals := 40 } : Room).slots) := by
  refine MetFree.of_bodySF (plainFor_of_name pn2) hisR ?_
  intro p e s m args below meth c s₁ Bd hml0 hP hK
  obtain ⟨rfl, hZ, hh⟩ := hP
  have hx := Bd.exec
  have hby := Bd.bytes
  have hml : c.maxLocals = 2 := hml0
  have hown : s.vm.findClass "java/lang/StringUTF16" = some m.cls := findClass_of_methodNamed Bd.named
  have hnm := (name_of_methodNamed Bd.named Bd.method).1
  have hlk := Bd.notSynchronized
  have hrt := Bd.returns
  have X0 : Stand p l e ({ frames := 3, cells := 0, slots := 0, locals := 40 } : Room) s m #[(.ref a0), (.int (4 : Int32))] below meth c s₁ [] 0 0 := Stand.of_body Bd
  have e0 : s₁.heap = h0 := by rw [← hh, Bd.state]; rfl
  have N0 := Fr.nil n0
  refine own_cast (P := own_End s (Q_uca4 Z a0 kb w1 c0 c1 c2 c3 c4 h0 n0) ({ frames := 3, cells := 0, slots := 0, locals := 40 } : Room).cells ({ frames := 3, cells := 0, slots := 0, locals := 40 } : Room).slots) (ef_uca4 m a0) ?_
  refine g_iloadN X0 hx hby d_uca4_0 rfl (rfl : 0 + 1 = 1) ?_
  refine g_aloadN X0 hx hby d_uca4_1 rfl rfl (rfl : 1 + 1 = 2) ?_
  obtain ⟨_, _, ⟨T40, L40, k40, n40⟩, -, X40, ⟨Lc40, hQ40, l40, y40, z40⟩, st40⟩ := Jvm.LawKit.callS X0 hx (y := mN14) hown (mvT hZ (hw _ (own_M 125 rfl))) (mvT hZ (hw _ (own_M 126 rfl))) (mvT hZ (hw _ (own_M 17 rfl))) (mvT hZ (hw _ (own_M 127 rfl))) (by decide) (backOf (W := 0) (rm_uck l Z aT hw [] (4 : Int32) a0 kb [(.int ((c0 >>> ((0 : Int32) &&& 31)).toInt8.toInt32)), (.int ((c0 >>> ((8 : Int32) &&& 31)).toInt8.toInt32)), (.int ((c1 >>> ((0 : Int32) &&& 31)).toInt8.toInt32)), (.int ((c1 >>> ((8 : Int32) &&& 31)).toInt8.toInt32)), (.int ((c2 >>> ((0 : Int32) &&& 31)).toInt8.toInt32)), (.int ((c2 >>> ((8 : Int32) &&& 31)).toInt8.toInt32)), (.int ((c3 >>> ((0 : Int32) &&& 31)).toInt8.toInt32)), (.int ((c3 >>> ((8 : Int32) &&& 31)).toInt8.toInt32)), (.int ((c4 >>> ((0 : Int32) &&& 31)).toInt8.toInt32)), (.int ((c4 >>> ((8 : Int32) &&& 31)).toInt8.toInt32))] w1 h0 n0 Z0 hp0 hp4 (by decide) (by decide) hw1) hZ (hw _ (own_M 127 rfl)) (hw _ (own_M 17 rfl)) (by decide) (by decide)) (g := (mkF m 2 #[.val (.ref a0), .val (.int (4 : Int32))] [(.ref a0), (.int (4 : Int32))])) rfl (by rw [hml]; rfl) (argsL := [(.int (4 : Int32)), (.ref a0)]) (rest := []) (lenOf pd3 rfl) rfl (by show 2 * 0 + _ ≤ _; exact Nat.le_of_eq rfl) (hb hby d_uca4_2) (fun _ _ => ⟨rfl, e0, (by decide : 0 + 0 ≤ _), (by decide : 0 + 0 ≤ _)⟩)
  dsimp only [Pt.U, Pt.locs, Pt.cells, Pt.slots] at X40 l40 y40 z40 st40 hQ40
  subst l40 y40 z40
  obtain ⟨rfl, N40q, eq40⟩ := hQ40
  have N40 := Fr.app N0 N40q
  refine own_go st40 ?_
  show own_Got p e below _ T40 (mkF m 5 #[.val (.ref a0), .val (.int (4 : Int32))] [])
  refine g_aloadN X40 hx hby d_uca4_5 rfl rfl (rfl : 5 + 1 = 6) ?_
  refine g_iloadN X40 hx hby d_uca4_6 rfl (rfl : 6 + 1 = 7) ?_
  obtain ⟨_, _, ⟨T41, L41, k41, n41⟩, -, X41, ⟨Lc41, hQ41, l41, y41, z41⟩, st41⟩ := Jvm.LawKit.callS X40 hx (y := mN18) hown (mvT hZ (hw _ (own_M 119 rfl))) (mvT hZ (hw _ (own_M 120 rfl))) (mvT hZ (hw _ (own_M 17 rfl))) (mvT hZ (hw _ (own_M 121 rfl))) (by decide) (backOf (W := 0) (rm_gch4 l Z aT hw [] a0 kb _ _ _ _ _ h0 n0 Z0 hp0 hp1 hp2 hp3 hr4) hZ (hw _ (own_M 121 rfl)) (hw _ (own_M 17 rfl)) (by decide) (by decide)) (g := (mkF m 7 #[.val (.ref a0), .val (.int (4 : Int32))] [(.int (4 : Int32)), (.ref a0)])) rfl (by rw [hml]; rfl) (argsL := [(.ref a0), (.int (4 : Int32))]) (rest := []) (lenOf pd4 rfl) rfl (by show 2 * 0 + _ ≤ _; exact Nat.le_of_eq rfl) (hb hby d_uca4_7) (fun _ _ => ⟨rfl, eq40, (by decide : 0 + 0 ≤ _), (by decide : 0 + 0 ≤ _)⟩)
  dsimp only [Pt.U, Pt.locs, Pt.cells, Pt.slots] at X41 l41 y41 z41 st41 hQ41
  subst l41 y41 z41
  obtain ⟨rfl, N41q, eq41⟩ := hQ41
  have N41 := Fr.app N40 N41q
  refine own_go st41 ?_
  show own_Got p e below _ T41 (mkF m 10 #[.val (.ref a0), .val (.int (4 : Int32))] [(.int c4)])
  refine own_retN X41 hx hby hlk (t := .char) hrt (by simp) d_uca4_10 (by decide) (by decide) ?_
  show Q_uca4 Z a0 kb w1 c0 c1 c2 c3 c4 h0 n0 _ T41.heap _
  exact ⟨(congrArg (fun z => some (Value.int z)) (own_cch c4 hr4)), N41, eq41⟩
theorem d_lca4_0 : decode jdk_43_method_2_code 0 = .ok (.iload_n 1, 1) := by decide +kernel
theorem d_lca4_1 : decode jdk_43_method_2_code 1 = .ok (.aload_n 0, 1) := by decide +kernel
theorem d_lca4_2 : decode jdk_43_method_2_code 2 = .ok (.arraylength, 1) := by decide +kernel
theorem d_lca4_3 : decode jdk_43_method_2_code 3 = .ok (.invokestatic 9, 3) := by decide +kernel
theorem d_lca4_6 : decode jdk_43_method_2_code 6 = .ok (.aload_n 0, 1) := by decide +kernel
theorem d_lca4_7 : decode jdk_43_method_2_code 7 = .ok (.iload_n 1, 1) := by decide +kernel
theorem d_lca4_8 : decode jdk_43_method_2_code 8 = .ok (.baload, 1) := by decide +kernel
theorem d_lca4_9 : decode jdk_43_method_2_code 9 = .ok (.sipush 255, 3) := by decide +kernel
theorem d_lca4_12 : decode jdk_43_method_2_code 12 = .ok (.iand, 1) := by decide +kernel
theorem d_lca4_13 : decode jdk_43_method_2_code 13 = .ok (.i2c, 1) := by decide +kernel
theorem d_lca4_14 : decode jdk_43_method_2_code 14 = .ok (.ireturn, 1) := by decide +kernel
theorem ef_lca4 (m : MethodId) (a0 : Addr) : entryFrame m #[(.ref a0), (.int (4 : Int32))] 2 = mkF m 0 #[.val (.ref a0), .val (.int (4 : Int32))] [] := by first | (simp [entryFrame, mkF, argsToLocals, Value.category]; done) | rfl
def Q_lca4 (Z : State) (a0 : Addr) (kb : ClassId) (w1 : Value) (c0 : Int32) (c1 : Int32) (c2 : Int32) (c3 : Int32) (c4 : Int32) (h0 : Heap) (n0 : Nat) (v : Option Value) (h : Heap) (L : List Loc) : Prop := v = some (.int c4) ∧ Fr n0 L ∧ h = h0
set_option maxRecDepth 65536 in
set_option maxHeartbeats 40000000 in
theorem rm_lca4 (l : Launch) (Z : State) (aT : Array Value) (hw : ∀ d ∈ tables_1, d.before aT Z = true) (ws : List Jvm.Cond) (a0 : Addr) (kb : ClassId) (w1 : Value) (c0 : Int32) (c1 : Int32) (c2 : Int32) (c3 : Int32) (c4 : Int32) (h0 : Heap) (n0 : Nat) (Z0 : n0 ≤ h0.size) (hp0 : Arv Z h0 a0 kb .byte (5 : Int32) [(.int (c0.toInt8.toInt32)), (.int (c1.toInt8.toInt32)), (.int (c2.toInt8.toInt32)), (.int (c3.toInt8.toInt32)), (.int (c4.toInt8.toInt32))] (.int (0 : Int32))) (hp1 : Sta Z h0 "jdk/internal/util/Preconditions" "SIOOBE_FORMATTER" "Ljava/util/function/BiFunction;" w1) (hr4 : own_chr c4) (h5 : ¬ ((255 : Int32) < c4)) (hw1 : w1.isRef = true) :
    MetFree l mN12 (head1 (Jvm.Cond.code mN12 jdk_43_method_2_code 2 (some .char) :: ws) ({ frames := 2, cells := 0, slots := 0, locals := 27 } : Room)) (fun a U => a = #[(.ref a0), (.int (4 : Int32))] ∧ Z.Warmed39 U.vm ∧ U.heap = h0) (fun _ _ _ _ _ => True) (fun _ U o U' => ∃ v L, o = .returned v ∧ Q_lca4 Z a0 kb w1 c0 c1 c2 c3 c4 h0 n0 v U'.heap L ∧ FrameEnd U o U' L ({ frames := 2, cells := 0, slots := 0, locals := 27 } : Room).cells ({ frames := 2, cells := 0, slots := 0, locals := 27 } : Room).slots) := by
  refine MetFree.of_bodySF (plainFor_of_name pn3) hisR ?_
  intro p e s m args below meth c s₁ Bd hml0 hP hK
  obtain ⟨rfl, hZ, hh⟩ := hP
  have hx := Bd.exec
  have hby := Bd.bytes
  have hml : c.maxLocals = 2 := hml0
  have hown : s.vm.findClass "java/lang/StringLatin1" = some m.cls := findClass_of_methodNamed Bd.named
  have hnm := (name_of_methodNamed Bd.named Bd.method).1
  have hlk := Bd.notSynchronized
  have hrt := Bd.returns
  have X0 : Stand p l e ({ frames := 2, cells := 0, slots := 0, locals := 27 } : Room) s m #[(.ref a0), (.int (4 : Int32))] below meth c s₁ [] 0 0 := Stand.of_body Bd
  have e0 : s₁.heap = h0 := by rw [← hh, Bd.state]; rfl
  have N0 := Fr.nil n0
  refine own_cast (P := own_End s (Q_lca4 Z a0 kb w1 c0 c1 c2 c3 c4 h0 n0) ({ frames := 2, cells := 0, slots := 0, locals := 27 } : Room).cells ({ frames := 2, cells := 0, slots := 0, locals := 27 } : Room).slots) (ef_lca4 m a0) ?_
  refine g_iloadN X0 hx hby d_lca4_0 rfl (rfl : 0 + 1 = 1) ?_
  refine g_aloadN X0 hx hby d_lca4_1 rfl rfl (rfl : 1 + 1 = 2) ?_
  refine g_alen X0 hx hby hZ e0 hp0 d_lca4_2 (rfl : 2 + 1 = 3) ?_
  obtain ⟨_, _, ⟨T42, L42, k42, n42⟩, -, X42, ⟨Lc42, hQ42, l42, y42, z42⟩, st42⟩ := Jvm.LawKit.callS X0 hx (y := mN8) hown (mvT hZ (hw _ (own_M 96 rfl))) (mvT hZ (hw _ (own_M 97 rfl))) (mvT hZ (hw _ (own_M 3 rfl))) (mvT hZ (hw _ (own_M 98 rfl))) (by decide) (backOf (W := 0) (rm_sck l Z aT hw [] (4 : Int32) (5 : Int32) w1 h0 n0 Z0 hp1 (by decide) (by decide) hw1) hZ (hw _ (own_M 98 rfl)) (hw _ (own_M 3 rfl)) (by decide) (by decide)) (g := (mkF m 3 #[.val (.ref a0), .val (.int (4 : Int32))] [(.int (5 : Int32)), (.int (4 : Int32))])) rfl (by rw [hml]; rfl) (argsL := [(.int (4 : Int32)), (.int (5 : Int32))]) (rest := []) (lenOf pd2 rfl) rfl (by show 2 * 0 + _ ≤ _; exact Nat.le_of_eq rfl) (hb hby d_lca4_3) (fun _ _ => ⟨rfl, e0, (by decide : 0 + 0 ≤ _), (by decide : 0 + 0 ≤ _)⟩)
  dsimp only [Pt.U, Pt.locs, Pt.cells, Pt.slots] at X42 l42 y42 z42 st42 hQ42
  subst l42 y42 z42
  obtain ⟨rfl, N42q, eq42⟩ := hQ42
  have N42 := Fr.app N0 N42q
  refine own_go st42 ?_
  show own_Got p e below _ T42 (mkF m 6 #[.val (.ref a0), .val (.int (4 : Int32))] [])
  refine g_aloadN X42 hx hby d_lca4_6 rfl rfl (rfl : 6 + 1 = 7) ?_
  refine g_iloadN X42 hx hby d_lca4_7 rfl (rfl : 7 + 1 = 8) ?_
  refine g_baload X42 hx hby hZ eq42 (v := (.int (c4.toInt8.toInt32))) hp0 ⟨by decide, by decide⟩ rfl d_lca4_8 (rfl : 8 + 1 = 9) ?_
  refine g_sipush X42 hx hby (255 : Int32) d_lca4_9 (by decide) (rfl : 9 + 3 = 12) ?_
  refine g_iand X42 hx hby d_lca4_12 (rfl : 12 + 1 = 13) ?_
  refine g_i2c X42 hx hby d_lca4_13 (rfl : 13 + 1 = 14) ?_
  refine own_retN X42 hx hby hlk (t := .char) hrt (by simp) d_lca4_14 (by decide) (by decide) ?_
  show Q_lca4 Z a0 kb w1 c0 c1 c2 c3 c4 h0 n0 _ T42.heap _
  exact ⟨(congrArg (fun z => some (Value.int z)) (own_slc c4 hr4 h5)), N42, eq42⟩
theorem d_len_0 : decode jdk_42_method_54_code 0 = .ok (.aload_n 0, 1) := by decide +kernel
theorem d_len_1 : decode jdk_42_method_54_code 1 = .ok (.getfield 9, 3) := by decide +kernel
theorem d_len_4 : decode jdk_42_method_54_code 4 = .ok (.arraylength, 1) := by decide +kernel
theorem d_len_5 : decode jdk_42_method_54_code 5 = .ok (.aload_n 0, 1) := by decide +kernel
theorem d_len_6 : decode jdk_42_method_54_code 6 = .ok (.invokevirtual 335, 3) := by decide +kernel
theorem d_len_9 : decode jdk_42_method_54_code 9 = .ok (.ishr, 1) := by decide +kernel
theorem d_len_10 : decode jdk_42_method_54_code 10 = .ok (.ireturn, 1) := by decide +kernel
theorem pd5 : parseMethodDescriptor "()B" = some ⟨[], some .byte⟩ := by decide +kernel
theorem ef_len (m : MethodId) (a0 : Addr) : entryFrame m #[(.ref a0)] 1 = mkF m 0 #[.val (.ref a0)] [] := by first | (simp [entryFrame, mkF, argsToLocals, Value.category]; done) | rfl
def Q_len (Z : State) (a0 : Addr) (ob : Addr) (kb : ClassId) (cd : Int32) (n : Int32) (vs : List Value) (c0 : Int32) (c1 : Int32) (c2 : Int32) (c3 : Int32) (c4 : Int32) (g1 : Int32) (h0 : Heap) (n0 : Nat) (v : Option Value) (h : Heap) (L : List Loc) : Prop := v = some (.int (5 : Int32)) ∧ Fr n0 L ∧ h = h0
set_option maxRecDepth 65536 in
set_option maxHeartbeats 40000000 in
theorem rm_len (l : Launch) (Z : State) (aT : Array Value) (hw : ∀ d ∈ tables_1, d.before aT Z = true) (ws : List Jvm.Cond) (a0 : Addr) (ob : Addr) (kb : ClassId) (cd : Int32) (n : Int32) (vs : List Value) (c0 : Int32) (c1 : Int32) (c2 : Int32) (c3 : Int32) (c4 : Int32) (g1 : Int32) (h0 : Heap) (n0 : Nat) (Z0 : n0 ≤ h0.size) (hp0 : Exa Z h0 a0 "java/lang/String") (hp1 : Fld Z h0 a0 "java/lang/String" "coder" "B" (.int cd)) (hp2 : Fld Z h0 a0 "java/lang/String" "value" "[B" (.ref ob)) (hp3 : Arv Z h0 ob kb .byte n vs (.int (0 : Int32))) (hp4 : Sta Z h0 "java/lang/String" "COMPACT_STRINGS" "Z" (.int g1)) (hg1 : ¬ (g1 = (0 : Int32))) (hch : own_ch cd n vs c0 c1 c2 c3 c4) :
    MetFree l mN11 (head1 (Jvm.Cond.code mN11 jdk_42_method_54_code 1 (some .int) :: ws) ({ frames := 1, cells := 0, slots := 0, locals := 13 } : Room)) (fun a U => a = #[(.ref a0)] ∧ Z.Warmed39 U.vm ∧ U.heap = h0) (fun _ _ _ _ _ => True) (fun _ U o U' => ∃ v L, o = .returned v ∧ Q_len Z a0 ob kb cd n vs c0 c1 c2 c3 c4 g1 h0 n0 v U'.heap L ∧ FrameEnd U o U' L ({ frames := 1, cells := 0, slots := 0, locals := 13 } : Room).cells ({ frames := 1, cells := 0, slots := 0, locals := 13 } : Room).slots) := by
  refine MetFree.of_bodySF (plainFor_of_name pn0) hisR ?_
  intro p e s m args below meth c s₁ Bd hml0 hP hK
  obtain ⟨rfl, hZ, hh⟩ := hP
  have hx := Bd.exec
  have hby := Bd.bytes
  have hml : c.maxLocals = 1 := hml0
  have hown : s.vm.findClass "java/lang/String" = some m.cls := findClass_of_methodNamed Bd.named
  have hnm := (name_of_methodNamed Bd.named Bd.method).1
  have hlk := Bd.notSynchronized
  have hrt := Bd.returns
  have X0 : Stand p l e ({ frames := 1, cells := 0, slots := 0, locals := 13 } : Room) s m #[(.ref a0)] below meth c s₁ [] 0 0 := Stand.of_body Bd
  have e0 : s₁.heap = h0 := by rw [← hh, Bd.state]; rfl
  have N0 := Fr.nil n0
  refine own_cast (P := own_End s (Q_len Z a0 ob kb cd n vs c0 c1 c2 c3 c4 g1 h0 n0) ({ frames := 1, cells := 0, slots := 0, locals := 13 } : Room).cells ({ frames := 1, cells := 0, slots := 0, locals := 13 } : Room).slots) (ef_len m a0) ?_
  rcases hch with ⟨qa43, qb43, qc43, r43_0, r43_1, r43_2, r43_3, r43_4⟩ | ⟨qa43, qb43, qc43⟩
  · have r44 : Fld Z h0 a0 "java/lang/String" "coder" "B" (.int (0 : Int32)) := by have q := hp1; rw [qa43] at q; exact q
    have r45 : Arv Z h0 ob kb .byte (5 : Int32) [(.int (c0.toInt8.toInt32)), (.int (c1.toInt8.toInt32)), (.int (c2.toInt8.toInt32)), (.int (c3.toInt8.toInt32)), (.int (c4.toInt8.toInt32))] (.int (0 : Int32)) := by have q := hp3; rw [qb43, qc43] at q; exact q
    refine g_aloadN X0 hx hby d_len_0 rfl rfl (rfl : 0 + 1 = 1) ?_
    obtain ⟨T46, X46, e46, st46⟩ := getF X0 hx hZ hown (host := "") (Or.inl (hw _ (own_M 28 rfl))) Via.refl e0 hp2 (g := (mkF m 1 #[.val (.ref a0)] [(.ref a0)])) rfl rfl (hb hby d_len_1)
    refine own_go st46 ?_
    show own_Got p e below _ T46 (mkF m 4 #[.val (.ref a0)] [(.ref ob)])
    refine g_alen X46 hx hby hZ e46 r45 d_len_4 (rfl : 4 + 1 = 5) ?_
    refine g_aloadN X46 hx hby d_len_5 rfl rfl (rfl : 5 + 1 = 6) ?_
    obtain ⟨cq47, kq47, q47a, q47b, q47c⟩ := isOf hZ e46 hp0
    obtain ⟨_, _, ⟨T47, L47, k47, n47⟩, -, X47, ⟨Lc47, hQ47, l47, y47, z47⟩, st47⟩ := X46.virtualBack hx (y := mN9) (z := mN9) hown (mvT hZ (hw _ (own_M 47 rfl))) (mvT hZ (hw _ (own_M 48 rfl))) (notFace_of_selects (args := #[]) (mvT hZ (hw _ (own_M 50 rfl)))) (mvT hZ (hw _ (own_M 50 rfl))) (mvT hZ (hw _ (own_M 49 rfl))) (by decide) (backOf (W := 1) (rm_cdr0 l Z aT hw [] a0 g1 h0 n0 Z0 hp4 r44 hg1) hZ (hw _ (own_M 51 rfl)) (hw _ (own_M 3 rfl)) (by decide) (by decide)) q47a q47c (g := (mkF m 6 #[.val (.ref a0)] [(.ref a0), (.int (5 : Int32))])) rfl (by rw [hml]; rfl) (Steps.refl _) (argsL := []) (rest := [(.int (5 : Int32))]) (lenOf pd5 rfl) rfl (by show 2 * 0 + _ ≤ _; exact Nat.le_of_eq rfl) (hb hby d_len_6) (fun _ _ => ⟨rfl, e46, (by decide : 0 + 0 ≤ _), (by decide : 0 + 0 ≤ _)⟩)
    dsimp only [Pt.U, Pt.locs, Pt.cells, Pt.slots] at X47 l47 y47 z47 st47 hQ47
    subst l47 y47 z47
    obtain ⟨rfl, N47q, eq47⟩ := hQ47
    have N47 := Fr.app N0 N47q
    refine own_tr st47 ?_
    show own_Got p e below _ T47 (mkF m 9 #[.val (.ref a0)] [(.int (0 : Int32)), (.int (5 : Int32))])
    refine g_ishr X47 hx hby d_len_9 (rfl : 9 + 1 = 10) ?_
    rw [(by decide : ((5 : Int32) >>> ((0 : Int32) &&& 31)) = (5 : Int32))]
    refine own_retI X47 hx hby hlk hrt d_len_10 (by decide) (by decide) ?_
    show Q_len Z a0 ob kb cd n vs c0 c1 c2 c3 c4 g1 h0 n0 _ T47.heap _
    exact ⟨rfl, N47, eq47⟩
  · have r48 : Fld Z h0 a0 "java/lang/String" "coder" "B" (.int (1 : Int32)) := by have q := hp1; rw [qa43] at q; exact q
    have r49 : Arv Z h0 ob kb .byte (10 : Int32) [(.int ((c0 >>> ((0 : Int32) &&& 31)).toInt8.toInt32)), (.int ((c0 >>> ((8 : Int32) &&& 31)).toInt8.toInt32)), (.int ((c1 >>> ((0 : Int32) &&& 31)).toInt8.toInt32)), (.int ((c1 >>> ((8 : Int32) &&& 31)).toInt8.toInt32)), (.int ((c2 >>> ((0 : Int32) &&& 31)).toInt8.toInt32)), (.int ((c2 >>> ((8 : Int32) &&& 31)).toInt8.toInt32)), (.int ((c3 >>> ((0 : Int32) &&& 31)).toInt8.toInt32)), (.int ((c3 >>> ((8 : Int32) &&& 31)).toInt8.toInt32)), (.int ((c4 >>> ((0 : Int32) &&& 31)).toInt8.toInt32)), (.int ((c4 >>> ((8 : Int32) &&& 31)).toInt8.toInt32))] (.int (0 : Int32)) := by have q := hp3; rw [qb43, qc43] at q; exact q
    refine g_aloadN X0 hx hby d_len_0 rfl rfl (rfl : 0 + 1 = 1) ?_
    obtain ⟨T50, X50, e50, st50⟩ := getF X0 hx hZ hown (host := "") (Or.inl (hw _ (own_M 28 rfl))) Via.refl e0 hp2 (g := (mkF m 1 #[.val (.ref a0)] [(.ref a0)])) rfl rfl (hb hby d_len_1)
    refine own_go st50 ?_
    show own_Got p e below _ T50 (mkF m 4 #[.val (.ref a0)] [(.ref ob)])
    refine g_alen X50 hx hby hZ e50 r49 d_len_4 (rfl : 4 + 1 = 5) ?_
    refine g_aloadN X50 hx hby d_len_5 rfl rfl (rfl : 5 + 1 = 6) ?_
    obtain ⟨cq51, kq51, q51a, q51b, q51c⟩ := isOf hZ e50 hp0
    obtain ⟨_, _, ⟨T51, L51, k51, n51⟩, -, X51, ⟨Lc51, hQ51, l51, y51, z51⟩, st51⟩ := X50.virtualBack hx (y := mN9) (z := mN9) hown (mvT hZ (hw _ (own_M 47 rfl))) (mvT hZ (hw _ (own_M 48 rfl))) (notFace_of_selects (args := #[]) (mvT hZ (hw _ (own_M 50 rfl)))) (mvT hZ (hw _ (own_M 50 rfl))) (mvT hZ (hw _ (own_M 49 rfl))) (by decide) (backOf (W := 1) (rm_cdr1 l Z aT hw [] a0 g1 h0 n0 Z0 hp4 r48 hg1) hZ (hw _ (own_M 51 rfl)) (hw _ (own_M 3 rfl)) (by decide) (by decide)) q51a q51c (g := (mkF m 6 #[.val (.ref a0)] [(.ref a0), (.int (10 : Int32))])) rfl (by rw [hml]; rfl) (Steps.refl _) (argsL := []) (rest := [(.int (10 : Int32))]) (lenOf pd5 rfl) rfl (by show 2 * 0 + _ ≤ _; exact Nat.le_of_eq rfl) (hb hby d_len_6) (fun _ _ => ⟨rfl, e50, (by decide : 0 + 0 ≤ _), (by decide : 0 + 0 ≤ _)⟩)
    dsimp only [Pt.U, Pt.locs, Pt.cells, Pt.slots] at X51 l51 y51 z51 st51 hQ51
    subst l51 y51 z51
    obtain ⟨rfl, N51q, eq51⟩ := hQ51
    have N51 := Fr.app N0 N51q
    refine own_tr st51 ?_
    show own_Got p e below _ T51 (mkF m 9 #[.val (.ref a0)] [(.int (1 : Int32)), (.int (10 : Int32))])
    refine g_ishr X51 hx hby d_len_9 (rfl : 9 + 1 = 10) ?_
    rw [(by decide : ((10 : Int32) >>> ((1 : Int32) &&& 31)) = (5 : Int32))]
    refine own_retI X51 hx hby hlk hrt d_len_10 (by decide) (by decide) ?_
    show Q_len Z a0 ob kb cd n vs c0 c1 c2 c3 c4 g1 h0 n0 _ T51.heap _
    exact ⟨rfl, N51, eq51⟩
theorem d_cha0_0 : decode jdk_42_method_56_code 0 = .ok (.aload_n 0, 1) := by decide +kernel
theorem d_cha0_1 : decode jdk_42_method_56_code 1 = .ok (.invokevirtual 492, 3) := by decide +kernel
theorem d_cha0_4 : decode jdk_42_method_56_code 4 = .ok (.ifCond .eq 12, 3) := by decide +kernel
theorem d_cha0_7 : decode jdk_42_method_56_code 7 = .ok (.aload_n 0, 1) := by decide +kernel
theorem d_cha0_8 : decode jdk_42_method_56_code 8 = .ok (.getfield 9, 3) := by decide +kernel
theorem d_cha0_11 : decode jdk_42_method_56_code 11 = .ok (.iload_n 1, 1) := by decide +kernel
theorem d_cha0_12 : decode jdk_42_method_56_code 12 = .ok (.invokestatic 495, 3) := by decide +kernel
theorem d_cha0_15 : decode jdk_42_method_56_code 15 = .ok (.ireturn, 1) := by decide +kernel
theorem d_cha0_16 : decode jdk_42_method_56_code 16 = .ok (.aload_n 0, 1) := by decide +kernel
theorem d_cha0_17 : decode jdk_42_method_56_code 17 = .ok (.getfield 9, 3) := by decide +kernel
theorem d_cha0_20 : decode jdk_42_method_56_code 20 = .ok (.iload_n 1, 1) := by decide +kernel
theorem d_cha0_21 : decode jdk_42_method_56_code 21 = .ok (.invokestatic 498, 3) := by decide +kernel
theorem d_cha0_24 : decode jdk_42_method_56_code 24 = .ok (.ireturn, 1) := by decide +kernel
theorem pd6 : parseMethodDescriptor "()Z" = some ⟨[], some .boolean⟩ := by decide +kernel
theorem ef_cha0 (m : MethodId) (a0 : Addr) : entryFrame m #[(.ref a0), (.int (0 : Int32))] 2 = mkF m 0 #[.val (.ref a0), .val (.int (0 : Int32))] [] := by first | (simp [entryFrame, mkF, argsToLocals, Value.category]; done) | rfl
def Q_cha0 (Z : State) (a0 : Addr) (ob : Addr) (kb : ClassId) (cd : Int32) (n : Int32) (vs : List Value) (c0 : Int32) (c1 : Int32) (c2 : Int32) (c3 : Int32) (c4 : Int32) (g1 : Int32) (w1 : Value) (h0 : Heap) (n0 : Nat) (v : Option Value) (h : Heap) (L : List Loc) : Prop := v = some (.int c0) ∧ Fr n0 L ∧ h = h0
set_option maxRecDepth 65536 in
set_option maxHeartbeats 40000000 in
theorem rm_cha0 (l : Launch) (Z : State) (aT : Array Value) (hw : ∀ d ∈ tables_1, d.before aT Z = true) (ws : List Jvm.Cond) (a0 : Addr) (ob : Addr) (kb : ClassId) (cd : Int32) (n : Int32) (vs : List Value) (c0 : Int32) (c1 : Int32) (c2 : Int32) (c3 : Int32) (c4 : Int32) (g1 : Int32) (w1 : Value) (h0 : Heap) (n0 : Nat) (Z0 : n0 ≤ h0.size) (hp0 : Exa Z h0 a0 "java/lang/String") (hp1 : Fld Z h0 a0 "java/lang/String" "coder" "B" (.int cd)) (hp2 : Fld Z h0 a0 "java/lang/String" "value" "[B" (.ref ob)) (hp3 : Arv Z h0 ob kb .byte n vs (.int (0 : Int32))) (hp4 : Sta Z h0 "java/lang/String" "COMPACT_STRINGS" "Z" (.int g1)) (hp5 : Sta Z h0 "jdk/internal/util/Preconditions" "SIOOBE_FORMATTER" "Ljava/util/function/BiFunction;" w1) (hp6 : Sta Z h0 "java/lang/StringUTF16" "$assertionsDisabled" "Z" (.int (1 : Int32))) (hp7 : Sta Z h0 "java/lang/StringUTF16" "HI_BYTE_SHIFT" "I" (.int (0 : Int32))) (hp8 : Sta Z h0 "java/lang/StringUTF16" "LO_BYTE_SHIFT" "I" (.int (8 : Int32))) (hg1 : ¬ (g1 = (0 : Int32))) (hch : own_ch cd n vs c0 c1 c2 c3 c4) (hr0 : own_chr c0) (hw1 : w1.isRef = true) :
    MetFree l mN7 (head1 (Jvm.Cond.code mN7 jdk_42_method_56_code 2 (some .char) :: ws) ({ frames := 4, cells := 0, slots := 0, locals := 53 } : Room)) (fun a U => a = #[(.ref a0), (.int (0 : Int32))] ∧ Z.Warmed39 U.vm ∧ U.heap = h0) (fun _ _ _ _ _ => True) (fun _ U o U' => ∃ v L, o = .returned v ∧ Q_cha0 Z a0 ob kb cd n vs c0 c1 c2 c3 c4 g1 w1 h0 n0 v U'.heap L ∧ FrameEnd U o U' L ({ frames := 4, cells := 0, slots := 0, locals := 53 } : Room).cells ({ frames := 4, cells := 0, slots := 0, locals := 53 } : Room).slots) := by
  refine MetFree.of_bodySF (plainFor_of_name pn0) hisR ?_
  intro p e s m args below meth c s₁ Bd hml0 hP hK
  obtain ⟨rfl, hZ, hh⟩ := hP
  have hx := Bd.exec
  have hby := Bd.bytes
  have hml : c.maxLocals = 2 := hml0
  have hown : s.vm.findClass "java/lang/String" = some m.cls := findClass_of_methodNamed Bd.named
  have hnm := (name_of_methodNamed Bd.named Bd.method).1
  have hlk := Bd.notSynchronized
  have hrt := Bd.returns
  have X0 : Stand p l e ({ frames := 4, cells := 0, slots := 0, locals := 53 } : Room) s m #[(.ref a0), (.int (0 : Int32))] below meth c s₁ [] 0 0 := Stand.of_body Bd
  have e0 : s₁.heap = h0 := by rw [← hh, Bd.state]; rfl
  have N0 := Fr.nil n0
  refine own_cast (P := own_End s (Q_cha0 Z a0 ob kb cd n vs c0 c1 c2 c3 c4 g1 w1 h0 n0) ({ frames := 4, cells := 0, slots := 0, locals := 53 } : Room).cells ({ frames := 4, cells := 0, slots := 0, locals := 53 } : Room).slots) (ef_cha0 m a0) ?_
  rcases hch with ⟨qa52, qb52, qc52, r52_0, r52_1, r52_2, r52_3, r52_4⟩ | ⟨qa52, qb52, qc52⟩
  · have r53 : Fld Z h0 a0 "java/lang/String" "coder" "B" (.int (0 : Int32)) := by have q := hp1; rw [qa52] at q; exact q
    have r54 : Arv Z h0 ob kb .byte (5 : Int32) [(.int (c0.toInt8.toInt32)), (.int (c1.toInt8.toInt32)), (.int (c2.toInt8.toInt32)), (.int (c3.toInt8.toInt32)), (.int (c4.toInt8.toInt32))] (.int (0 : Int32)) := by have q := hp3; rw [qb52, qc52] at q; exact q
    refine g_aloadN X0 hx hby d_cha0_0 rfl rfl (rfl : 0 + 1 = 1) ?_
    obtain ⟨cq55, kq55, q55a, q55b, q55c⟩ := isOf hZ e0 hp0
    obtain ⟨_, _, ⟨T55, L55, k55, n55⟩, -, X55, ⟨Lc55, hQ55, l55, y55, z55⟩, st55⟩ := X0.virtualBack hx (y := mN10) (z := mN10) hown (mvT hZ (hw _ (own_M 87 rfl))) (mvT hZ (hw _ (own_M 88 rfl))) (notFace_of_selects (args := #[]) (mvT hZ (hw _ (own_M 90 rfl)))) (mvT hZ (hw _ (own_M 90 rfl))) (mvT hZ (hw _ (own_M 89 rfl))) (by decide) (backOf (W := 0) (rm_isl0 l Z aT hw [] a0 g1 h0 n0 Z0 hp4 r53 hg1) hZ (hw _ (own_M 91 rfl)) (hw _ (own_M 3 rfl)) (by decide) (by decide)) q55a q55c (g := (mkF m 1 #[.val (.ref a0), .val (.int (0 : Int32))] [(.ref a0)])) rfl (by rw [hml]; rfl) (Steps.refl _) (argsL := []) (rest := []) (lenOf pd6 rfl) rfl (by show 2 * 0 + _ ≤ _; exact Nat.le_of_eq rfl) (hb hby d_cha0_1) (fun _ _ => ⟨rfl, e0, (by decide : 0 + 0 ≤ _), (by decide : 0 + 0 ≤ _)⟩)
    dsimp only [Pt.U, Pt.locs, Pt.cells, Pt.slots] at X55 l55 y55 z55 st55 hQ55
    subst l55 y55 z55
    obtain ⟨rfl, N55q, eq55⟩ := hQ55
    have N55 := Fr.app N0 N55q
    refine own_tr st55 ?_
    show own_Got p e below _ T55 (mkF m 4 #[.val (.ref a0), .val (.int (0 : Int32))] [(.int (1 : Int32))])
    refine g_ifF X55 hx hby d_cha0_4 ((if0 _ _).trans (feq (by decide : ¬ ((1 : Int32) = (0 : Int32)))).1) (rfl : 4 + 3 = 7) ?_
    refine g_aloadN X55 hx hby d_cha0_7 rfl rfl (rfl : 7 + 1 = 8) ?_
    obtain ⟨T56, X56, e56, st56⟩ := getF X55 hx hZ hown (host := "") (Or.inl (hw _ (own_M 28 rfl))) Via.refl eq55 hp2 (g := (mkF m 8 #[.val (.ref a0), .val (.int (0 : Int32))] [(.ref a0)])) rfl rfl (hb hby d_cha0_8)
    refine own_go st56 ?_
    show own_Got p e below _ T56 (mkF m 11 #[.val (.ref a0), .val (.int (0 : Int32))] [(.ref ob)])
    refine g_iloadN X56 hx hby d_cha0_11 rfl (rfl : 11 + 1 = 12) ?_
    obtain ⟨_, _, ⟨T57, L57, k57, n57⟩, -, X57, ⟨Lc57, hQ57, l57, y57, z57⟩, st57⟩ := Jvm.LawKit.callS X56 hx (y := mN12) hown (mvT hZ (hw _ (own_M 92 rfl))) (mvT hZ (hw _ (own_M 93 rfl))) (mvT hZ (hw _ (own_M 94 rfl))) (mvT hZ (hw _ (own_M 95 rfl))) (by decide) (backOf (W := 0) (rm_lca0 l Z aT hw [] ob kb w1 _ _ _ _ _ h0 n0 Z0 r54 hp5 hr0 r52_0 hw1) hZ (hw _ (own_M 95 rfl)) (hw _ (own_M 94 rfl)) (by decide) (by decide)) (g := (mkF m 12 #[.val (.ref a0), .val (.int (0 : Int32))] [(.int (0 : Int32)), (.ref ob)])) rfl (by rw [hml]; rfl) (argsL := [(.ref ob), (.int (0 : Int32))]) (rest := []) (lenOf pd4 rfl) rfl (by show 2 * 0 + _ ≤ _; exact Nat.le_of_eq rfl) (hb hby d_cha0_12) (fun _ _ => ⟨rfl, e56, (by decide : 0 + 0 ≤ _), (by decide : 0 + 0 ≤ _)⟩)
    dsimp only [Pt.U, Pt.locs, Pt.cells, Pt.slots] at X57 l57 y57 z57 st57 hQ57
    subst l57 y57 z57
    obtain ⟨rfl, N57q, eq57⟩ := hQ57
    have N57 := Fr.app N55 N57q
    refine own_go st57 ?_
    show own_Got p e below _ T57 (mkF m 15 #[.val (.ref a0), .val (.int (0 : Int32))] [(.int c0)])
    refine own_retN X57 hx hby hlk (t := .char) hrt (by simp) d_cha0_15 (by decide) (by decide) ?_
    show Q_cha0 Z a0 ob kb cd n vs c0 c1 c2 c3 c4 g1 w1 h0 n0 _ T57.heap _
    exact ⟨(congrArg (fun z => some (Value.int z)) (own_cch c0 hr0)), N57, eq57⟩
  · have r58 : Fld Z h0 a0 "java/lang/String" "coder" "B" (.int (1 : Int32)) := by have q := hp1; rw [qa52] at q; exact q
    have r59 : Arv Z h0 ob kb .byte (10 : Int32) [(.int ((c0 >>> ((0 : Int32) &&& 31)).toInt8.toInt32)), (.int ((c0 >>> ((8 : Int32) &&& 31)).toInt8.toInt32)), (.int ((c1 >>> ((0 : Int32) &&& 31)).toInt8.toInt32)), (.int ((c1 >>> ((8 : Int32) &&& 31)).toInt8.toInt32)), (.int ((c2 >>> ((0 : Int32) &&& 31)).toInt8.toInt32)), (.int ((c2 >>> ((8 : Int32) &&& 31)).toInt8.toInt32)), (.int ((c3 >>> ((0 : Int32) &&& 31)).toInt8.toInt32)), (.int ((c3 >>> ((8 : Int32) &&& 31)).toInt8.toInt32)), (.int ((c4 >>> ((0 : Int32) &&& 31)).toInt8.toInt32)), (.int ((c4 >>> ((8 : Int32) &&& 31)).toInt8.toInt32))] (.int (0 : Int32)) := by have q := hp3; rw [qb52, qc52] at q; exact q
    refine g_aloadN X0 hx hby d_cha0_0 rfl rfl (rfl : 0 + 1 = 1) ?_
    obtain ⟨cq60, kq60, q60a, q60b, q60c⟩ := isOf hZ e0 hp0
    obtain ⟨_, _, ⟨T60, L60, k60, n60⟩, -, X60, ⟨Lc60, hQ60, l60, y60, z60⟩, st60⟩ := X0.virtualBack hx (y := mN10) (z := mN10) hown (mvT hZ (hw _ (own_M 87 rfl))) (mvT hZ (hw _ (own_M 88 rfl))) (notFace_of_selects (args := #[]) (mvT hZ (hw _ (own_M 90 rfl)))) (mvT hZ (hw _ (own_M 90 rfl))) (mvT hZ (hw _ (own_M 89 rfl))) (by decide) (backOf (W := 0) (rm_isl1 l Z aT hw [] a0 g1 h0 n0 Z0 hp4 r58 hg1) hZ (hw _ (own_M 91 rfl)) (hw _ (own_M 3 rfl)) (by decide) (by decide)) q60a q60c (g := (mkF m 1 #[.val (.ref a0), .val (.int (0 : Int32))] [(.ref a0)])) rfl (by rw [hml]; rfl) (Steps.refl _) (argsL := []) (rest := []) (lenOf pd6 rfl) rfl (by show 2 * 0 + _ ≤ _; exact Nat.le_of_eq rfl) (hb hby d_cha0_1) (fun _ _ => ⟨rfl, e0, (by decide : 0 + 0 ≤ _), (by decide : 0 + 0 ≤ _)⟩)
    dsimp only [Pt.U, Pt.locs, Pt.cells, Pt.slots] at X60 l60 y60 z60 st60 hQ60
    subst l60 y60 z60
    obtain ⟨rfl, N60q, eq60⟩ := hQ60
    have N60 := Fr.app N0 N60q
    refine own_tr st60 ?_
    show own_Got p e below _ T60 (mkF m 4 #[.val (.ref a0), .val (.int (0 : Int32))] [(.int (0 : Int32))])
    refine g_ifT X60 hx hby d_cha0_4 ((if0 _ _).trans (teq (by decide : (0 : Int32) = (0 : Int32))).1) (by decide) (pc' := 16) (by decide) ?_
    refine g_aloadN X60 hx hby d_cha0_16 rfl rfl (rfl : 16 + 1 = 17) ?_
    obtain ⟨T61, X61, e61, st61⟩ := getF X60 hx hZ hown (host := "") (Or.inl (hw _ (own_M 28 rfl))) Via.refl eq60 hp2 (g := (mkF m 17 #[.val (.ref a0), .val (.int (0 : Int32))] [(.ref a0)])) rfl rfl (hb hby d_cha0_17)
    refine own_go st61 ?_
    show own_Got p e below _ T61 (mkF m 20 #[.val (.ref a0), .val (.int (0 : Int32))] [(.ref ob)])
    refine g_iloadN X61 hx hby d_cha0_20 rfl (rfl : 20 + 1 = 21) ?_
    obtain ⟨_, _, ⟨T62, L62, k62, n62⟩, -, X62, ⟨Lc62, hQ62, l62, y62, z62⟩, st62⟩ := Jvm.LawKit.callS X61 hx (y := mN13) hown (mvT hZ (hw _ (own_M 122 rfl))) (mvT hZ (hw _ (own_M 123 rfl))) (mvT hZ (hw _ (own_M 17 rfl))) (mvT hZ (hw _ (own_M 124 rfl))) (by decide) (backOf (W := 0) (rm_uca0 l Z aT hw [] ob kb w1 _ _ _ _ _ h0 n0 Z0 r59 hp6 hp7 hp8 hp5 hr0 hw1) hZ (hw _ (own_M 124 rfl)) (hw _ (own_M 17 rfl)) (by decide) (by decide)) (g := (mkF m 21 #[.val (.ref a0), .val (.int (0 : Int32))] [(.int (0 : Int32)), (.ref ob)])) rfl (by rw [hml]; rfl) (argsL := [(.ref ob), (.int (0 : Int32))]) (rest := []) (lenOf pd4 rfl) rfl (by show 2 * 0 + _ ≤ _; exact Nat.le_of_eq rfl) (hb hby d_cha0_21) (fun _ _ => ⟨rfl, e61, (by decide : 0 + 0 ≤ _), (by decide : 0 + 0 ≤ _)⟩)
    dsimp only [Pt.U, Pt.locs, Pt.cells, Pt.slots] at X62 l62 y62 z62 st62 hQ62
    subst l62 y62 z62
    obtain ⟨rfl, N62q, eq62⟩ := hQ62
    have N62 := Fr.app N60 N62q
    refine own_go st62 ?_
    show own_Got p e below _ T62 (mkF m 24 #[.val (.ref a0), .val (.int (0 : Int32))] [(.int c0)])
    refine own_retN X62 hx hby hlk (t := .char) hrt (by simp) d_cha0_24 (by decide) (by decide) ?_
    show Q_cha0 Z a0 ob kb cd n vs c0 c1 c2 c3 c4 g1 w1 h0 n0 _ T62.heap _
    exact ⟨(congrArg (fun z => some (Value.int z)) (own_cch c0 hr0)), N62, eq62⟩
theorem d_cha1_0 : decode jdk_42_method_56_code 0 = .ok (.aload_n 0, 1) := by decide +kernel
theorem d_cha1_1 : decode jdk_42_method_56_code 1 = .ok (.invokevirtual 492, 3) := by decide +kernel
theorem d_cha1_4 : decode jdk_42_method_56_code 4 = .ok (.ifCond .eq 12, 3) := by decide +kernel
theorem d_cha1_7 : decode jdk_42_method_56_code 7 = .ok (.aload_n 0, 1) := by decide +kernel
theorem d_cha1_8 : decode jdk_42_method_56_code 8 = .ok (.getfield 9, 3) := by decide +kernel
theorem d_cha1_11 : decode jdk_42_method_56_code 11 = .ok (.iload_n 1, 1) := by decide +kernel
theorem d_cha1_12 : decode jdk_42_method_56_code 12 = .ok (.invokestatic 495, 3) := by decide +kernel
theorem d_cha1_15 : decode jdk_42_method_56_code 15 = .ok (.ireturn, 1) := by decide +kernel
theorem d_cha1_16 : decode jdk_42_method_56_code 16 = .ok (.aload_n 0, 1) := by decide +kernel
theorem d_cha1_17 : decode jdk_42_method_56_code 17 = .ok (.getfield 9, 3) := by decide +kernel
theorem d_cha1_20 : decode jdk_42_method_56_code 20 = .ok (.iload_n 1, 1) := by decide +kernel
theorem d_cha1_21 : decode jdk_42_method_56_code 21 = .ok (.invokestatic 498, 3) := by decide +kernel
theorem d_cha1_24 : decode jdk_42_method_56_code 24 = .ok (.ireturn, 1) := by decide +kernel
theorem ef_cha1 (m : MethodId) (a0 : Addr) : entryFrame m #[(.ref a0), (.int (1 : Int32))] 2 = mkF m 0 #[.val (.ref a0), .val (.int (1 : Int32))] [] := by first | (simp [entryFrame, mkF, argsToLocals, Value.category]; done) | rfl
def Q_cha1 (Z : State) (a0 : Addr) (ob : Addr) (kb : ClassId) (cd : Int32) (n : Int32) (vs : List Value) (c0 : Int32) (c1 : Int32) (c2 : Int32) (c3 : Int32) (c4 : Int32) (g1 : Int32) (w1 : Value) (h0 : Heap) (n0 : Nat) (v : Option Value) (h : Heap) (L : List Loc) : Prop := v = some (.int c1) ∧ Fr n0 L ∧ h = h0
set_option maxRecDepth 65536 in
set_option maxHeartbeats 40000000 in
theorem rm_cha1 (l : Launch) (Z : State) (aT : Array Value) (hw : ∀ d ∈ tables_1, d.before aT Z = true) (ws : List Jvm.Cond) (a0 : Addr) (ob : Addr) (kb : ClassId) (cd : Int32) (n : Int32) (vs : List Value) (c0 : Int32) (c1 : Int32) (c2 : Int32) (c3 : Int32) (c4 : Int32) (g1 : Int32) (w1 : Value) (h0 : Heap) (n0 : Nat) (Z0 : n0 ≤ h0.size) (hp0 : Exa Z h0 a0 "java/lang/String") (hp1 : Fld Z h0 a0 "java/lang/String" "coder" "B" (.int cd)) (hp2 : Fld Z h0 a0 "java/lang/String" "value" "[B" (.ref ob)) (hp3 : Arv Z h0 ob kb .byte n vs (.int (0 : Int32))) (hp4 : Sta Z h0 "java/lang/String" "COMPACT_STRINGS" "Z" (.int g1)) (hp5 : Sta Z h0 "jdk/internal/util/Preconditions" "SIOOBE_FORMATTER" "Ljava/util/function/BiFunction;" w1) (hp6 : Sta Z h0 "java/lang/StringUTF16" "$assertionsDisabled" "Z" (.int (1 : Int32))) (hp7 : Sta Z h0 "java/lang/StringUTF16" "HI_BYTE_SHIFT" "I" (.int (0 : Int32))) (hp8 : Sta Z h0 "java/lang/StringUTF16" "LO_BYTE_SHIFT" "I" (.int (8 : Int32))) (hg1 : ¬ (g1 = (0 : Int32))) (hch : own_ch cd n vs c0 c1 c2 c3 c4) (hr1 : own_chr c1) (hw1 : w1.isRef = true) :
    MetFree l mN7 (head1 (Jvm.Cond.code mN7 jdk_42_method_56_code 2 (some .char) :: ws) ({ frames := 4, cells := 0, slots := 0, locals := 53 } : Room)) (fun a U => a = #[(.ref a0), (.int (1 : Int32))] ∧ Z.Warmed39 U.vm ∧ U.heap = h0) (fun _ _ _ _ _ => True) (fun _ U o U' => ∃ v L, o = .returned v ∧ Q_cha1 Z a0 ob kb cd n vs c0 c1 c2 c3 c4 g1 w1 h0 n0 v U'.heap L ∧ FrameEnd U o U' L ({ frames := 4, cells := 0, slots := 0, locals := 53 } : Room).cells ({ frames := 4, cells := 0, slots := 0, locals := 53 } : Room).slots) := by
  refine MetFree.of_bodySF (plainFor_of_name pn0) hisR ?_
  intro p e s m args below meth c s₁ Bd hml0 hP hK
  obtain ⟨rfl, hZ, hh⟩ := hP
  have hx := Bd.exec
  have hby := Bd.bytes
  have hml : c.maxLocals = 2 := hml0
  have hown : s.vm.findClass "java/lang/String" = some m.cls := findClass_of_methodNamed Bd.named
  have hnm := (name_of_methodNamed Bd.named Bd.method).1
  have hlk := Bd.notSynchronized
  have hrt := Bd.returns
  have X0 : Stand p l e ({ frames := 4, cells := 0, slots := 0, locals := 53 } : Room) s m #[(.ref a0), (.int (1 : Int32))] below meth c s₁ [] 0 0 := Stand.of_body Bd
  have e0 : s₁.heap = h0 := by rw [← hh, Bd.state]; rfl
  have N0 := Fr.nil n0
  refine own_cast (P := own_End s (Q_cha1 Z a0 ob kb cd n vs c0 c1 c2 c3 c4 g1 w1 h0 n0) ({ frames := 4, cells := 0, slots := 0, locals := 53 } : Room).cells ({ frames := 4, cells := 0, slots := 0, locals := 53 } : Room).slots) (ef_cha1 m a0) ?_
  rcases hch with ⟨qa63, qb63, qc63, r63_0, r63_1, r63_2, r63_3, r63_4⟩ | ⟨qa63, qb63, qc63⟩
  · have r64 : Fld Z h0 a0 "java/lang/String" "coder" "B" (.int (0 : Int32)) := by have q := hp1; rw [qa63] at q; exact q
    have r65 : Arv Z h0 ob kb .byte (5 : Int32) [(.int (c0.toInt8.toInt32)), (.int (c1.toInt8.toInt32)), (.int (c2.toInt8.toInt32)), (.int (c3.toInt8.toInt32)), (.int (c4.toInt8.toInt32))] (.int (0 : Int32)) := by have q := hp3; rw [qb63, qc63] at q; exact q
    refine g_aloadN X0 hx hby d_cha1_0 rfl rfl (rfl : 0 + 1 = 1) ?_
    obtain ⟨cq66, kq66, q66a, q66b, q66c⟩ := isOf hZ e0 hp0
    obtain ⟨_, _, ⟨T66, L66, k66, n66⟩, -, X66, ⟨Lc66, hQ66, l66, y66, z66⟩, st66⟩ := X0.virtualBack hx (y := mN10) (z := mN10) hown (mvT hZ (hw _ (own_M 87 rfl))) (mvT hZ (hw _ (own_M 88 rfl))) (notFace_of_selects (args := #[]) (mvT hZ (hw _ (own_M 90 rfl)))) (mvT hZ (hw _ (own_M 90 rfl))) (mvT hZ (hw _ (own_M 89 rfl))) (by decide) (backOf (W := 0) (rm_isl0 l Z aT hw [] a0 g1 h0 n0 Z0 hp4 r64 hg1) hZ (hw _ (own_M 91 rfl)) (hw _ (own_M 3 rfl)) (by decide) (by decide)) q66a q66c (g := (mkF m 1 #[.val (.ref a0), .val (.int (1 : Int32))] [(.ref a0)])) rfl (by rw [hml]; rfl) (Steps.refl _) (argsL := []) (rest := []) (lenOf pd6 rfl) rfl (by show 2 * 0 + _ ≤ _; exact Nat.le_of_eq rfl) (hb hby d_cha1_1) (fun _ _ => ⟨rfl, e0, (by decide : 0 + 0 ≤ _), (by decide : 0 + 0 ≤ _)⟩)
    dsimp only [Pt.U, Pt.locs, Pt.cells, Pt.slots] at X66 l66 y66 z66 st66 hQ66
    subst l66 y66 z66
    obtain ⟨rfl, N66q, eq66⟩ := hQ66
    have N66 := Fr.app N0 N66q
    refine own_tr st66 ?_
    show own_Got p e below _ T66 (mkF m 4 #[.val (.ref a0), .val (.int (1 : Int32))] [(.int (1 : Int32))])
    refine g_ifF X66 hx hby d_cha1_4 ((if0 _ _).trans (feq (by decide : ¬ ((1 : Int32) = (0 : Int32)))).1) (rfl : 4 + 3 = 7) ?_
    refine g_aloadN X66 hx hby d_cha1_7 rfl rfl (rfl : 7 + 1 = 8) ?_
    obtain ⟨T67, X67, e67, st67⟩ := getF X66 hx hZ hown (host := "") (Or.inl (hw _ (own_M 28 rfl))) Via.refl eq66 hp2 (g := (mkF m 8 #[.val (.ref a0), .val (.int (1 : Int32))] [(.ref a0)])) rfl rfl (hb hby d_cha1_8)
    refine own_go st67 ?_
    show own_Got p e below _ T67 (mkF m 11 #[.val (.ref a0), .val (.int (1 : Int32))] [(.ref ob)])
    refine g_iloadN X67 hx hby d_cha1_11 rfl (rfl : 11 + 1 = 12) ?_
    obtain ⟨_, _, ⟨T68, L68, k68, n68⟩, -, X68, ⟨Lc68, hQ68, l68, y68, z68⟩, st68⟩ := Jvm.LawKit.callS X67 hx (y := mN12) hown (mvT hZ (hw _ (own_M 92 rfl))) (mvT hZ (hw _ (own_M 93 rfl))) (mvT hZ (hw _ (own_M 94 rfl))) (mvT hZ (hw _ (own_M 95 rfl))) (by decide) (backOf (W := 0) (rm_lca1 l Z aT hw [] ob kb w1 _ _ _ _ _ h0 n0 Z0 r65 hp5 hr1 r63_1 hw1) hZ (hw _ (own_M 95 rfl)) (hw _ (own_M 94 rfl)) (by decide) (by decide)) (g := (mkF m 12 #[.val (.ref a0), .val (.int (1 : Int32))] [(.int (1 : Int32)), (.ref ob)])) rfl (by rw [hml]; rfl) (argsL := [(.ref ob), (.int (1 : Int32))]) (rest := []) (lenOf pd4 rfl) rfl (by show 2 * 0 + _ ≤ _; exact Nat.le_of_eq rfl) (hb hby d_cha1_12) (fun _ _ => ⟨rfl, e67, (by decide : 0 + 0 ≤ _), (by decide : 0 + 0 ≤ _)⟩)
    dsimp only [Pt.U, Pt.locs, Pt.cells, Pt.slots] at X68 l68 y68 z68 st68 hQ68
    subst l68 y68 z68
    obtain ⟨rfl, N68q, eq68⟩ := hQ68
    have N68 := Fr.app N66 N68q
    refine own_go st68 ?_
    show own_Got p e below _ T68 (mkF m 15 #[.val (.ref a0), .val (.int (1 : Int32))] [(.int c1)])
    refine own_retN X68 hx hby hlk (t := .char) hrt (by simp) d_cha1_15 (by decide) (by decide) ?_
    show Q_cha1 Z a0 ob kb cd n vs c0 c1 c2 c3 c4 g1 w1 h0 n0 _ T68.heap _
    exact ⟨(congrArg (fun z => some (Value.int z)) (own_cch c1 hr1)), N68, eq68⟩
  · have r69 : Fld Z h0 a0 "java/lang/String" "coder" "B" (.int (1 : Int32)) := by have q := hp1; rw [qa63] at q; exact q
    have r70 : Arv Z h0 ob kb .byte (10 : Int32) [(.int ((c0 >>> ((0 : Int32) &&& 31)).toInt8.toInt32)), (.int ((c0 >>> ((8 : Int32) &&& 31)).toInt8.toInt32)), (.int ((c1 >>> ((0 : Int32) &&& 31)).toInt8.toInt32)), (.int ((c1 >>> ((8 : Int32) &&& 31)).toInt8.toInt32)), (.int ((c2 >>> ((0 : Int32) &&& 31)).toInt8.toInt32)), (.int ((c2 >>> ((8 : Int32) &&& 31)).toInt8.toInt32)), (.int ((c3 >>> ((0 : Int32) &&& 31)).toInt8.toInt32)), (.int ((c3 >>> ((8 : Int32) &&& 31)).toInt8.toInt32)), (.int ((c4 >>> ((0 : Int32) &&& 31)).toInt8.toInt32)), (.int ((c4 >>> ((8 : Int32) &&& 31)).toInt8.toInt32))] (.int (0 : Int32)) := by have q := hp3; rw [qb63, qc63] at q; exact q
    refine g_aloadN X0 hx hby d_cha1_0 rfl rfl (rfl : 0 + 1 = 1) ?_
    obtain ⟨cq71, kq71, q71a, q71b, q71c⟩ := isOf hZ e0 hp0
    obtain ⟨_, _, ⟨T71, L71, k71, n71⟩, -, X71, ⟨Lc71, hQ71, l71, y71, z71⟩, st71⟩ := X0.virtualBack hx (y := mN10) (z := mN10) hown (mvT hZ (hw _ (own_M 87 rfl))) (mvT hZ (hw _ (own_M 88 rfl))) (notFace_of_selects (args := #[]) (mvT hZ (hw _ (own_M 90 rfl)))) (mvT hZ (hw _ (own_M 90 rfl))) (mvT hZ (hw _ (own_M 89 rfl))) (by decide) (backOf (W := 0) (rm_isl1 l Z aT hw [] a0 g1 h0 n0 Z0 hp4 r69 hg1) hZ (hw _ (own_M 91 rfl)) (hw _ (own_M 3 rfl)) (by decide) (by decide)) q71a q71c (g := (mkF m 1 #[.val (.ref a0), .val (.int (1 : Int32))] [(.ref a0)])) rfl (by rw [hml]; rfl) (Steps.refl _) (argsL := []) (rest := []) (lenOf pd6 rfl) rfl (by show 2 * 0 + _ ≤ _; exact Nat.le_of_eq rfl) (hb hby d_cha1_1) (fun _ _ => ⟨rfl, e0, (by decide : 0 + 0 ≤ _), (by decide : 0 + 0 ≤ _)⟩)
    dsimp only [Pt.U, Pt.locs, Pt.cells, Pt.slots] at X71 l71 y71 z71 st71 hQ71
    subst l71 y71 z71
    obtain ⟨rfl, N71q, eq71⟩ := hQ71
    have N71 := Fr.app N0 N71q
    refine own_tr st71 ?_
    show own_Got p e below _ T71 (mkF m 4 #[.val (.ref a0), .val (.int (1 : Int32))] [(.int (0 : Int32))])
    refine g_ifT X71 hx hby d_cha1_4 ((if0 _ _).trans (teq (by decide : (0 : Int32) = (0 : Int32))).1) (by decide) (pc' := 16) (by decide) ?_
    refine g_aloadN X71 hx hby d_cha1_16 rfl rfl (rfl : 16 + 1 = 17) ?_
    obtain ⟨T72, X72, e72, st72⟩ := getF X71 hx hZ hown (host := "") (Or.inl (hw _ (own_M 28 rfl))) Via.refl eq71 hp2 (g := (mkF m 17 #[.val (.ref a0), .val (.int (1 : Int32))] [(.ref a0)])) rfl rfl (hb hby d_cha1_17)
    refine own_go st72 ?_
    show own_Got p e below _ T72 (mkF m 20 #[.val (.ref a0), .val (.int (1 : Int32))] [(.ref ob)])
    refine g_iloadN X72 hx hby d_cha1_20 rfl (rfl : 20 + 1 = 21) ?_
    obtain ⟨_, _, ⟨T73, L73, k73, n73⟩, -, X73, ⟨Lc73, hQ73, l73, y73, z73⟩, st73⟩ := Jvm.LawKit.callS X72 hx (y := mN13) hown (mvT hZ (hw _ (own_M 122 rfl))) (mvT hZ (hw _ (own_M 123 rfl))) (mvT hZ (hw _ (own_M 17 rfl))) (mvT hZ (hw _ (own_M 124 rfl))) (by decide) (backOf (W := 0) (rm_uca1 l Z aT hw [] ob kb w1 _ _ _ _ _ h0 n0 Z0 r70 hp6 hp7 hp8 hp5 hr1 hw1) hZ (hw _ (own_M 124 rfl)) (hw _ (own_M 17 rfl)) (by decide) (by decide)) (g := (mkF m 21 #[.val (.ref a0), .val (.int (1 : Int32))] [(.int (1 : Int32)), (.ref ob)])) rfl (by rw [hml]; rfl) (argsL := [(.ref ob), (.int (1 : Int32))]) (rest := []) (lenOf pd4 rfl) rfl (by show 2 * 0 + _ ≤ _; exact Nat.le_of_eq rfl) (hb hby d_cha1_21) (fun _ _ => ⟨rfl, e72, (by decide : 0 + 0 ≤ _), (by decide : 0 + 0 ≤ _)⟩)
    dsimp only [Pt.U, Pt.locs, Pt.cells, Pt.slots] at X73 l73 y73 z73 st73 hQ73
    subst l73 y73 z73
    obtain ⟨rfl, N73q, eq73⟩ := hQ73
    have N73 := Fr.app N71 N73q
    refine own_go st73 ?_
    show own_Got p e below _ T73 (mkF m 24 #[.val (.ref a0), .val (.int (1 : Int32))] [(.int c1)])
    refine own_retN X73 hx hby hlk (t := .char) hrt (by simp) d_cha1_24 (by decide) (by decide) ?_
    show Q_cha1 Z a0 ob kb cd n vs c0 c1 c2 c3 c4 g1 w1 h0 n0 _ T73.heap _
    exact ⟨(congrArg (fun z => some (Value.int z)) (own_cch c1 hr1)), N73, eq73⟩
theorem d_cha2_0 : decode jdk_42_method_56_code 0 = .ok (.aload_n 0, 1) := by decide +kernel
theorem d_cha2_1 : decode jdk_42_method_56_code 1 = .ok (.invokevirtual 492, 3) := by decide +kernel
theorem d_cha2_4 : decode jdk_42_method_56_code 4 = .ok (.ifCond .eq 12, 3) := by decide +kernel
theorem d_cha2_7 : decode jdk_42_method_56_code 7 = .ok (.aload_n 0, 1) := by decide +kernel
theorem d_cha2_8 : decode jdk_42_method_56_code 8 = .ok (.getfield 9, 3) := by decide +kernel
theorem d_cha2_11 : decode jdk_42_method_56_code 11 = .ok (.iload_n 1, 1) := by decide +kernel
theorem d_cha2_12 : decode jdk_42_method_56_code 12 = .ok (.invokestatic 495, 3) := by decide +kernel
theorem d_cha2_15 : decode jdk_42_method_56_code 15 = .ok (.ireturn, 1) := by decide +kernel
theorem d_cha2_16 : decode jdk_42_method_56_code 16 = .ok (.aload_n 0, 1) := by decide +kernel
theorem d_cha2_17 : decode jdk_42_method_56_code 17 = .ok (.getfield 9, 3) := by decide +kernel
theorem d_cha2_20 : decode jdk_42_method_56_code 20 = .ok (.iload_n 1, 1) := by decide +kernel
theorem d_cha2_21 : decode jdk_42_method_56_code 21 = .ok (.invokestatic 498, 3) := by decide +kernel
theorem d_cha2_24 : decode jdk_42_method_56_code 24 = .ok (.ireturn, 1) := by decide +kernel
theorem ef_cha2 (m : MethodId) (a0 : Addr) : entryFrame m #[(.ref a0), (.int (2 : Int32))] 2 = mkF m 0 #[.val (.ref a0), .val (.int (2 : Int32))] [] := by first | (simp [entryFrame, mkF, argsToLocals, Value.category]; done) | rfl
def Q_cha2 (Z : State) (a0 : Addr) (ob : Addr) (kb : ClassId) (cd : Int32) (n : Int32) (vs : List Value) (c0 : Int32) (c1 : Int32) (c2 : Int32) (c3 : Int32) (c4 : Int32) (g1 : Int32) (w1 : Value) (h0 : Heap) (n0 : Nat) (v : Option Value) (h : Heap) (L : List Loc) : Prop := v = some (.int c2) ∧ Fr n0 L ∧ h = h0
set_option maxRecDepth 65536 in
set_option maxHeartbeats 40000000 in
theorem rm_cha2 (l : Launch) (Z : State) (aT : Array Value) (hw : ∀ d ∈ tables_1, d.before aT Z = true) (ws : List Jvm.Cond) (a0 : Addr) (ob : Addr) (kb : ClassId) (cd : Int32) (n : Int32) (vs : List Value) (c0 : Int32) (c1 : Int32) (c2 : Int32) (c3 : Int32) (c4 : Int32) (g1 : Int32) (w1 : Value) (h0 : Heap) (n0 : Nat) (Z0 : n0 ≤ h0.size) (hp0 : Exa Z h0 a0 "java/lang/String") (hp1 : Fld Z h0 a0 "java/lang/String" "coder" "B" (.int cd)) (hp2 : Fld Z h0 a0 "java/lang/String" "value" "[B" (.ref ob)) (hp3 : Arv Z h0 ob kb .byte n vs (.int (0 : Int32))) (hp4 : Sta Z h0 "java/lang/String" "COMPACT_STRINGS" "Z" (.int g1)) (hp5 : Sta Z h0 "jdk/internal/util/Preconditions" "SIOOBE_FORMATTER" "Ljava/util/function/BiFunction;" w1) (hp6 : Sta Z h0 "java/lang/StringUTF16" "$assertionsDisabled" "Z" (.int (1 : Int32))) (hp7 : Sta Z h0 "java/lang/StringUTF16" "HI_BYTE_SHIFT" "I" (.int (0 : Int32))) (hp8 : Sta Z h0 "java/lang/StringUTF16" "LO_BYTE_SHIFT" "I" (.int (8 : Int32))) (hg1 : ¬ (g1 = (0 : Int32))) (hch : own_ch cd n vs c0 c1 c2 c3 c4) (hr2 : own_chr c2) (hw1 : w1.isRef = true) :
    MetFree l mN7 (head1 (Jvm.Cond.code mN7 jdk_42_method_56_code 2 (some .char) :: ws) ({ frames := 4, cells := 0, slots := 0, locals := 53 } : Room)) (fun a U => a = #[(.ref a0), (.int (2 : Int32))] ∧ Z.Warmed39 U.vm ∧ U.heap = h0) (fun _ _ _ _ _ => True) (fun _ U o U' => ∃ v L, o = .returned v ∧ Q_cha2 Z a0 ob kb cd n vs c0 c1 c2 c3 c4 g1 w1 h0 n0 v U'.heap L ∧ FrameEnd U o U' L ({ frames := 4, cells := 0, slots := 0, locals := 53 } : Room).cells ({ frames := 4, cells := 0, slots := 0, locals := 53 } : Room).slots) := by
  refine MetFree.of_bodySF (plainFor_of_name pn0) hisR ?_
  intro p e s m args below meth c s₁ Bd hml0 hP hK
  obtain ⟨rfl, hZ, hh⟩ := hP
  have hx := Bd.exec
  have hby := Bd.bytes
  have hml : c.maxLocals = 2 := hml0
  have hown : s.vm.findClass "java/lang/String" = some m.cls := findClass_of_methodNamed Bd.named
  have hnm := (name_of_methodNamed Bd.named Bd.method).1
  have hlk := Bd.notSynchronized
  have hrt := Bd.returns
  have X0 : Stand p l e ({ frames := 4, cells := 0, slots := 0, locals := 53 } : Room) s m #[(.ref a0), (.int (2 : Int32))] below meth c s₁ [] 0 0 := Stand.of_body Bd
  have e0 : s₁.heap = h0 := by rw [← hh, Bd.state]; rfl
  have N0 := Fr.nil n0
  refine own_cast (P := own_End s (Q_cha2 Z a0 ob kb cd n vs c0 c1 c2 c3 c4 g1 w1 h0 n0) ({ frames := 4, cells := 0, slots := 0, locals := 53 } : Room).cells ({ frames := 4, cells := 0, slots := 0, locals := 53 } : Room).slots) (ef_cha2 m a0) ?_
  rcases hch with ⟨qa74, qb74, qc74, r74_0, r74_1, r74_2, r74_3, r74_4⟩ | ⟨qa74, qb74, qc74⟩
  · have r75 : Fld Z h0 a0 "java/lang/String" "coder" "B" (.int (0 : Int32)) := by have q := hp1; rw [qa74] at q; exact q
    have r76 : Arv Z h0 ob kb .byte (5 : Int32) [(.int (c0.toInt8.toInt32)), (.int (c1.toInt8.toInt32)), (.int (c2.toInt8.toInt32)), (.int (c3.toInt8.toInt32)), (.int (c4.toInt8.toInt32))] (.int (0 : Int32)) := by have q := hp3; rw [qb74, qc74] at q; exact q
    refine g_aloadN X0 hx hby d_cha2_0 rfl rfl (rfl : 0 + 1 = 1) ?_
    obtain ⟨cq77, kq77, q77a, q77b, q77c⟩ := isOf hZ e0 hp0
    obtain ⟨_, _, ⟨T77, L77, k77, n77⟩, -, X77, ⟨Lc77, hQ77, l77, y77, z77⟩, st77⟩ := X0.virtualBack hx (y := mN10) (z := mN10) hown (mvT hZ (hw _ (own_M 87 rfl))) (mvT hZ (hw _ (own_M 88 rfl))) (notFace_of_selects (args := #[]) (mvT hZ (hw _ (own_M 90 rfl)))) (mvT hZ (hw _ (own_M 90 rfl))) (mvT hZ (hw _ (own_M 89 rfl))) (by decide) (backOf (W := 0) (rm_isl0 l Z aT hw [] a0 g1 h0 n0 Z0 hp4 r75 hg1) hZ (hw _ (own_M 91 rfl)) (hw _ (own_M 3 rfl)) (by decide) (by decide)) q77a q77c (g := (mkF m 1 #[.val (.ref a0), .val (.int (2 : Int32))] [(.ref a0)])) rfl (by rw [hml]; rfl) (Steps.refl _) (argsL := []) (rest := []) (lenOf pd6 rfl) rfl (by show 2 * 0 + _ ≤ _; exact Nat.le_of_eq rfl) (hb hby d_cha2_1) (fun _ _ => ⟨rfl, e0, (by decide : 0 + 0 ≤ _), (by decide : 0 + 0 ≤ _)⟩)
    dsimp only [Pt.U, Pt.locs, Pt.cells, Pt.slots] at X77 l77 y77 z77 st77 hQ77
    subst l77 y77 z77
    obtain ⟨rfl, N77q, eq77⟩ := hQ77
    have N77 := Fr.app N0 N77q
    refine own_tr st77 ?_
    show own_Got p e below _ T77 (mkF m 4 #[.val (.ref a0), .val (.int (2 : Int32))] [(.int (1 : Int32))])
    refine g_ifF X77 hx hby d_cha2_4 ((if0 _ _).trans (feq (by decide : ¬ ((1 : Int32) = (0 : Int32)))).1) (rfl : 4 + 3 = 7) ?_
    refine g_aloadN X77 hx hby d_cha2_7 rfl rfl (rfl : 7 + 1 = 8) ?_
    obtain ⟨T78, X78, e78, st78⟩ := getF X77 hx hZ hown (host := "") (Or.inl (hw _ (own_M 28 rfl))) Via.refl eq77 hp2 (g := (mkF m 8 #[.val (.ref a0), .val (.int (2 : Int32))] [(.ref a0)])) rfl rfl (hb hby d_cha2_8)
    refine own_go st78 ?_
    show own_Got p e below _ T78 (mkF m 11 #[.val (.ref a0), .val (.int (2 : Int32))] [(.ref ob)])
    refine g_iloadN X78 hx hby d_cha2_11 rfl (rfl : 11 + 1 = 12) ?_
    obtain ⟨_, _, ⟨T79, L79, k79, n79⟩, -, X79, ⟨Lc79, hQ79, l79, y79, z79⟩, st79⟩ := Jvm.LawKit.callS X78 hx (y := mN12) hown (mvT hZ (hw _ (own_M 92 rfl))) (mvT hZ (hw _ (own_M 93 rfl))) (mvT hZ (hw _ (own_M 94 rfl))) (mvT hZ (hw _ (own_M 95 rfl))) (by decide) (backOf (W := 0) (rm_lca2 l Z aT hw [] ob kb w1 _ _ _ _ _ h0 n0 Z0 r76 hp5 hr2 r74_2 hw1) hZ (hw _ (own_M 95 rfl)) (hw _ (own_M 94 rfl)) (by decide) (by decide)) (g := (mkF m 12 #[.val (.ref a0), .val (.int (2 : Int32))] [(.int (2 : Int32)), (.ref ob)])) rfl (by rw [hml]; rfl) (argsL := [(.ref ob), (.int (2 : Int32))]) (rest := []) (lenOf pd4 rfl) rfl (by show 2 * 0 + _ ≤ _; exact Nat.le_of_eq rfl) (hb hby d_cha2_12) (fun _ _ => ⟨rfl, e78, (by decide : 0 + 0 ≤ _), (by decide : 0 + 0 ≤ _)⟩)
    dsimp only [Pt.U, Pt.locs, Pt.cells, Pt.slots] at X79 l79 y79 z79 st79 hQ79
    subst l79 y79 z79
    obtain ⟨rfl, N79q, eq79⟩ := hQ79
    have N79 := Fr.app N77 N79q
    refine own_go st79 ?_
    show own_Got p e below _ T79 (mkF m 15 #[.val (.ref a0), .val (.int (2 : Int32))] [(.int c2)])
    refine own_retN X79 hx hby hlk (t := .char) hrt (by simp) d_cha2_15 (by decide) (by decide) ?_
    show Q_cha2 Z a0 ob kb cd n vs c0 c1 c2 c3 c4 g1 w1 h0 n0 _ T79.heap _
    exact ⟨(congrArg (fun z => some (Value.int z)) (own_cch c2 hr2)), N79, eq79⟩
  · have r80 : Fld Z h0 a0 "java/lang/String" "coder" "B" (.int (1 : Int32)) := by have q := hp1; rw [qa74] at q; exact q
    have r81 : Arv Z h0 ob kb .byte (10 : Int32) [(.int ((c0 >>> ((0 : Int32) &&& 31)).toInt8.toInt32)), (.int ((c0 >>> ((8 : Int32) &&& 31)).toInt8.toInt32)), (.int ((c1 >>> ((0 : Int32) &&& 31)).toInt8.toInt32)), (.int ((c1 >>> ((8 : Int32) &&& 31)).toInt8.toInt32)), (.int ((c2 >>> ((0 : Int32) &&& 31)).toInt8.toInt32)), (.int ((c2 >>> ((8 : Int32) &&& 31)).toInt8.toInt32)), (.int ((c3 >>> ((0 : Int32) &&& 31)).toInt8.toInt32)), (.int ((c3 >>> ((8 : Int32) &&& 31)).toInt8.toInt32)), (.int ((c4 >>> ((0 : Int32) &&& 31)).toInt8.toInt32)), (.int ((c4 >>> ((8 : Int32) &&& 31)).toInt8.toInt32))] (.int (0 : Int32)) := by have q := hp3; rw [qb74, qc74] at q; exact q
    refine g_aloadN X0 hx hby d_cha2_0 rfl rfl (rfl : 0 + 1 = 1) ?_
    obtain ⟨cq82, kq82, q82a, q82b, q82c⟩ := isOf hZ e0 hp0
    obtain ⟨_, _, ⟨T82, L82, k82, n82⟩, -, X82, ⟨Lc82, hQ82, l82, y82, z82⟩, st82⟩ := X0.virtualBack hx (y := mN10) (z := mN10) hown (mvT hZ (hw _ (own_M 87 rfl))) (mvT hZ (hw _ (own_M 88 rfl))) (notFace_of_selects (args := #[]) (mvT hZ (hw _ (own_M 90 rfl)))) (mvT hZ (hw _ (own_M 90 rfl))) (mvT hZ (hw _ (own_M 89 rfl))) (by decide) (backOf (W := 0) (rm_isl1 l Z aT hw [] a0 g1 h0 n0 Z0 hp4 r80 hg1) hZ (hw _ (own_M 91 rfl)) (hw _ (own_M 3 rfl)) (by decide) (by decide)) q82a q82c (g := (mkF m 1 #[.val (.ref a0), .val (.int (2 : Int32))] [(.ref a0)])) rfl (by rw [hml]; rfl) (Steps.refl _) (argsL := []) (rest := []) (lenOf pd6 rfl) rfl (by show 2 * 0 + _ ≤ _; exact Nat.le_of_eq rfl) (hb hby d_cha2_1) (fun _ _ => ⟨rfl, e0, (by decide : 0 + 0 ≤ _), (by decide : 0 + 0 ≤ _)⟩)
    dsimp only [Pt.U, Pt.locs, Pt.cells, Pt.slots] at X82 l82 y82 z82 st82 hQ82
    subst l82 y82 z82
    obtain ⟨rfl, N82q, eq82⟩ := hQ82
    have N82 := Fr.app N0 N82q
    refine own_tr st82 ?_
    show own_Got p e below _ T82 (mkF m 4 #[.val (.ref a0), .val (.int (2 : Int32))] [(.int (0 : Int32))])
    refine g_ifT X82 hx hby d_cha2_4 ((if0 _ _).trans (teq (by decide : (0 : Int32) = (0 : Int32))).1) (by decide) (pc' := 16) (by decide) ?_
    refine g_aloadN X82 hx hby d_cha2_16 rfl rfl (rfl : 16 + 1 = 17) ?_
    obtain ⟨T83, X83, e83, st83⟩ := getF X82 hx hZ hown (host := "") (Or.inl (hw _ (own_M 28 rfl))) Via.refl eq82 hp2 (g := (mkF m 17 #[.val (.ref a0), .val (.int (2 : Int32))] [(.ref a0)])) rfl rfl (hb hby d_cha2_17)
    refine own_go st83 ?_
    show own_Got p e below _ T83 (mkF m 20 #[.val (.ref a0), .val (.int (2 : Int32))] [(.ref ob)])
    refine g_iloadN X83 hx hby d_cha2_20 rfl (rfl : 20 + 1 = 21) ?_
    obtain ⟨_, _, ⟨T84, L84, k84, n84⟩, -, X84, ⟨Lc84, hQ84, l84, y84, z84⟩, st84⟩ := Jvm.LawKit.callS X83 hx (y := mN13) hown (mvT hZ (hw _ (own_M 122 rfl))) (mvT hZ (hw _ (own_M 123 rfl))) (mvT hZ (hw _ (own_M 17 rfl))) (mvT hZ (hw _ (own_M 124 rfl))) (by decide) (backOf (W := 0) (rm_uca2 l Z aT hw [] ob kb w1 _ _ _ _ _ h0 n0 Z0 r81 hp6 hp7 hp8 hp5 hr2 hw1) hZ (hw _ (own_M 124 rfl)) (hw _ (own_M 17 rfl)) (by decide) (by decide)) (g := (mkF m 21 #[.val (.ref a0), .val (.int (2 : Int32))] [(.int (2 : Int32)), (.ref ob)])) rfl (by rw [hml]; rfl) (argsL := [(.ref ob), (.int (2 : Int32))]) (rest := []) (lenOf pd4 rfl) rfl (by show 2 * 0 + _ ≤ _; exact Nat.le_of_eq rfl) (hb hby d_cha2_21) (fun _ _ => ⟨rfl, e83, (by decide : 0 + 0 ≤ _), (by decide : 0 + 0 ≤ _)⟩)
    dsimp only [Pt.U, Pt.locs, Pt.cells, Pt.slots] at X84 l84 y84 z84 st84 hQ84
    subst l84 y84 z84
    obtain ⟨rfl, N84q, eq84⟩ := hQ84
    have N84 := Fr.app N82 N84q
    refine own_go st84 ?_
    show own_Got p e below _ T84 (mkF m 24 #[.val (.ref a0), .val (.int (2 : Int32))] [(.int c2)])
    refine own_retN X84 hx hby hlk (t := .char) hrt (by simp) d_cha2_24 (by decide) (by decide) ?_
    show Q_cha2 Z a0 ob kb cd n vs c0 c1 c2 c3 c4 g1 w1 h0 n0 _ T84.heap _
    exact ⟨(congrArg (fun z => some (Value.int z)) (own_cch c2 hr2)), N84, eq84⟩
theorem d_cha3_0 : decode jdk_42_method_56_code 0 = .ok (.aload_n 0, 1) := by decide +kernel
theorem d_cha3_1 : decode jdk_42_method_56_code 1 = .ok (.invokevirtual 492, 3) := by decide +kernel
theorem d_cha3_4 : decode jdk_42_method_56_code 4 = .ok (.ifCond .eq 12, 3) := by decide +kernel
theorem d_cha3_7 : decode jdk_42_method_56_code 7 = .ok (.aload_n 0, 1) := by decide +kernel
theorem d_cha3_8 : decode jdk_42_method_56_code 8 = .ok (.getfield 9, 3) := by decide +kernel
theorem d_cha3_11 : decode jdk_42_method_56_code 11 = .ok (.iload_n 1, 1) := by decide +kernel
theorem d_cha3_12 : decode jdk_42_method_56_code 12 = .ok (.invokestatic 495, 3) := by decide +kernel
theorem d_cha3_15 : decode jdk_42_method_56_code 15 = .ok (.ireturn, 1) := by decide +kernel
theorem d_cha3_16 : decode jdk_42_method_56_code 16 = .ok (.aload_n 0, 1) := by decide +kernel
theorem d_cha3_17 : decode jdk_42_method_56_code 17 = .ok (.getfield 9, 3) := by decide +kernel
theorem d_cha3_20 : decode jdk_42_method_56_code 20 = .ok (.iload_n 1, 1) := by decide +kernel
theorem d_cha3_21 : decode jdk_42_method_56_code 21 = .ok (.invokestatic 498, 3) := by decide +kernel
theorem d_cha3_24 : decode jdk_42_method_56_code 24 = .ok (.ireturn, 1) := by decide +kernel
theorem ef_cha3 (m : MethodId) (a0 : Addr) : entryFrame m #[(.ref a0), (.int (3 : Int32))] 2 = mkF m 0 #[.val (.ref a0), .val (.int (3 : Int32))] [] := by first | (simp [entryFrame, mkF, argsToLocals, Value.category]; done) | rfl
def Q_cha3 (Z : State) (a0 : Addr) (ob : Addr) (kb : ClassId) (cd : Int32) (n : Int32) (vs : List Value) (c0 : Int32) (c1 : Int32) (c2 : Int32) (c3 : Int32) (c4 : Int32) (g1 : Int32) (w1 : Value) (h0 : Heap) (n0 : Nat) (v : Option Value) (h : Heap) (L : List Loc) : Prop := v = some (.int c3) ∧ Fr n0 L ∧ h = h0
set_option maxRecDepth 65536 in
set_option maxHeartbeats 40000000 in
theorem rm_cha3 (l : Launch) (Z : State) (aT : Array Value) (hw : ∀ d ∈ tables_1, d.before aT Z = true) (ws : List Jvm.Cond) (a0 : Addr) (ob : Addr) (kb : ClassId) (cd : Int32) (n : Int32) (vs : List Value) (c0 : Int32) (c1 : Int32) (c2 : Int32) (c3 : Int32) (c4 : Int32) (g1 : Int32) (w1 : Value) (h0 : Heap) (n0 : Nat) (Z0 : n0 ≤ h0.size) (hp0 : Exa Z h0 a0 "java/lang/String") (hp1 : Fld Z h0 a0 "java/lang/String" "coder" "B" (.int cd)) (hp2 : Fld Z h0 a0 "java/lang/String" "value" "[B" (.ref ob)) (hp3 : Arv Z h0 ob kb .byte n vs (.int (0 : Int32))) (hp4 : Sta Z h0 "java/lang/String" "COMPACT_STRINGS" "Z" (.int g1)) (hp5 : Sta Z h0 "jdk/internal/util/Preconditions" "SIOOBE_FORMATTER" "Ljava/util/function/BiFunction;" w1) (hp6 : Sta Z h0 "java/lang/StringUTF16" "$assertionsDisabled" "Z" (.int (1 : Int32))) (hp7 : Sta Z h0 "java/lang/StringUTF16" "HI_BYTE_SHIFT" "I" (.int (0 : Int32))) (hp8 : Sta Z h0 "java/lang/StringUTF16" "LO_BYTE_SHIFT" "I" (.int (8 : Int32))) (hg1 : ¬ (g1 = (0 : Int32))) (hch : own_ch cd n vs c0 c1 c2 c3 c4) (hr3 : own_chr c3) (hw1 : w1.isRef = true) :
    MetFree l mN7 (head1 (Jvm.Cond.code mN7 jdk_42_method_56_code 2 (some .char) :: ws) ({ frames := 4, cells := 0, slots := 0, locals := 53 } : Room)) (fun a U => a = #[(.ref a0), (.int (3 : Int32))] ∧ Z.Warmed39 U.vm ∧ U.heap = h0) (fun _ _ _ _ _ => True) (fun _ U o U' => ∃ v L, o = .returned v ∧ Q_cha3 Z a0 ob kb cd n vs c0 c1 c2 c3 c4 g1 w1 h0 n0 v U'.heap L ∧ FrameEnd U o U' L ({ frames := 4, cells := 0, slots := 0, locals := 53 } : Room).cells ({ frames := 4, cells := 0, slots := 0, locals := 53 } : Room).slots) := by
  refine MetFree.of_bodySF (plainFor_of_name pn0) hisR ?_
  intro p e s m args below meth c s₁ Bd hml0 hP hK
  obtain ⟨rfl, hZ, hh⟩ := hP
  have hx := Bd.exec
  have hby := Bd.bytes
  have hml : c.maxLocals = 2 := hml0
  have hown : s.vm.findClass "java/lang/String" = some m.cls := findClass_of_methodNamed Bd.named
  have hnm := (name_of_methodNamed Bd.named Bd.method).1
  have hlk := Bd.notSynchronized
  have hrt := Bd.returns
  have X0 : Stand p l e ({ frames := 4, cells := 0, slots := 0, locals := 53 } : Room) s m #[(.ref a0), (.int (3 : Int32))] below meth c s₁ [] 0 0 := Stand.of_body Bd
  have e0 : s₁.heap = h0 := by rw [← hh, Bd.state]; rfl
  have N0 := Fr.nil n0
  refine own_cast (P := own_End s (Q_cha3 Z a0 ob kb cd n vs c0 c1 c2 c3 c4 g1 w1 h0 n0) ({ frames := 4, cells := 0, slots := 0, locals := 53 } : Room).cells ({ frames := 4, cells := 0, slots := 0, locals := 53 } : Room).slots) (ef_cha3 m a0) ?_
  rcases hch with ⟨qa85, qb85, qc85, r85_0, r85_1, r85_2, r85_3, r85_4⟩ | ⟨qa85, qb85, qc85⟩
  · have r86 : Fld Z h0 a0 "java/lang/String" "coder" "B" (.int (0 : Int32)) := by have q := hp1; rw [qa85] at q; exact q
    have r87 : Arv Z h0 ob kb .byte (5 : Int32) [(.int (c0.toInt8.toInt32)), (.int (c1.toInt8.toInt32)), (.int (c2.toInt8.toInt32)), (.int (c3.toInt8.toInt32)), (.int (c4.toInt8.toInt32))] (.int (0 : Int32)) := by have q := hp3; rw [qb85, qc85] at q; exact q
    refine g_aloadN X0 hx hby d_cha3_0 rfl rfl (rfl : 0 + 1 = 1) ?_
    obtain ⟨cq88, kq88, q88a, q88b, q88c⟩ := isOf hZ e0 hp0
    obtain ⟨_, _, ⟨T88, L88, k88, n88⟩, -, X88, ⟨Lc88, hQ88, l88, y88, z88⟩, st88⟩ := X0.virtualBack hx (y := mN10) (z := mN10) hown (mvT hZ (hw _ (own_M 87 rfl))) (mvT hZ (hw _ (own_M 88 rfl))) (notFace_of_selects (args := #[]) (mvT hZ (hw _ (own_M 90 rfl)))) (mvT hZ (hw _ (own_M 90 rfl))) (mvT hZ (hw _ (own_M 89 rfl))) (by decide) (backOf (W := 0) (rm_isl0 l Z aT hw [] a0 g1 h0 n0 Z0 hp4 r86 hg1) hZ (hw _ (own_M 91 rfl)) (hw _ (own_M 3 rfl)) (by decide) (by decide)) q88a q88c (g := (mkF m 1 #[.val (.ref a0), .val (.int (3 : Int32))] [(.ref a0)])) rfl (by rw [hml]; rfl) (Steps.refl _) (argsL := []) (rest := []) (lenOf pd6 rfl) rfl (by show 2 * 0 + _ ≤ _; exact Nat.le_of_eq rfl) (hb hby d_cha3_1) (fun _ _ => ⟨rfl, e0, (by decide : 0 + 0 ≤ _), (by decide : 0 + 0 ≤ _)⟩)
    dsimp only [Pt.U, Pt.locs, Pt.cells, Pt.slots] at X88 l88 y88 z88 st88 hQ88
    subst l88 y88 z88
    obtain ⟨rfl, N88q, eq88⟩ := hQ88
    have N88 := Fr.app N0 N88q
    refine own_tr st88 ?_
    show own_Got p e below _ T88 (mkF m 4 #[.val (.ref a0), .val (.int (3 : Int32))] [(.int (1 : Int32))])
    refine g_ifF X88 hx hby d_cha3_4 ((if0 _ _).trans (feq (by decide : ¬ ((1 : Int32) = (0 : Int32)))).1) (rfl : 4 + 3 = 7) ?_
    refine g_aloadN X88 hx hby d_cha3_7 rfl rfl (rfl : 7 + 1 = 8) ?_
    obtain ⟨T89, X89, e89, st89⟩ := getF X88 hx hZ hown (host := "") (Or.inl (hw _ (own_M 28 rfl))) Via.refl eq88 hp2 (g := (mkF m 8 #[.val (.ref a0), .val (.int (3 : Int32))] [(.ref a0)])) rfl rfl (hb hby d_cha3_8)
    refine own_go st89 ?_
    show own_Got p e below _ T89 (mkF m 11 #[.val (.ref a0), .val (.int (3 : Int32))] [(.ref ob)])
    refine g_iloadN X89 hx hby d_cha3_11 rfl (rfl : 11 + 1 = 12) ?_
    obtain ⟨_, _, ⟨T90, L90, k90, n90⟩, -, X90, ⟨Lc90, hQ90, l90, y90, z90⟩, st90⟩ := Jvm.LawKit.callS X89 hx (y := mN12) hown (mvT hZ (hw _ (own_M 92 rfl))) (mvT hZ (hw _ (own_M 93 rfl))) (mvT hZ (hw _ (own_M 94 rfl))) (mvT hZ (hw _ (own_M 95 rfl))) (by decide) (backOf (W := 0) (rm_lca3 l Z aT hw [] ob kb w1 _ _ _ _ _ h0 n0 Z0 r87 hp5 hr3 r85_3 hw1) hZ (hw _ (own_M 95 rfl)) (hw _ (own_M 94 rfl)) (by decide) (by decide)) (g := (mkF m 12 #[.val (.ref a0), .val (.int (3 : Int32))] [(.int (3 : Int32)), (.ref ob)])) rfl (by rw [hml]; rfl) (argsL := [(.ref ob), (.int (3 : Int32))]) (rest := []) (lenOf pd4 rfl) rfl (by show 2 * 0 + _ ≤ _; exact Nat.le_of_eq rfl) (hb hby d_cha3_12) (fun _ _ => ⟨rfl, e89, (by decide : 0 + 0 ≤ _), (by decide : 0 + 0 ≤ _)⟩)
    dsimp only [Pt.U, Pt.locs, Pt.cells, Pt.slots] at X90 l90 y90 z90 st90 hQ90
    subst l90 y90 z90
    obtain ⟨rfl, N90q, eq90⟩ := hQ90
    have N90 := Fr.app N88 N90q
    refine own_go st90 ?_
    show own_Got p e below _ T90 (mkF m 15 #[.val (.ref a0), .val (.int (3 : Int32))] [(.int c3)])
    refine own_retN X90 hx hby hlk (t := .char) hrt (by simp) d_cha3_15 (by decide) (by decide) ?_
    show Q_cha3 Z a0 ob kb cd n vs c0 c1 c2 c3 c4 g1 w1 h0 n0 _ T90.heap _
    exact ⟨(congrArg (fun z => some (Value.int z)) (own_cch c3 hr3)), N90, eq90⟩
  · have r91 : Fld Z h0 a0 "java/lang/String" "coder" "B" (.int (1 : Int32)) := by have q := hp1; rw [qa85] at q; exact q
    have r92 : Arv Z h0 ob kb .byte (10 : Int32) [(.int ((c0 >>> ((0 : Int32) &&& 31)).toInt8.toInt32)), (.int ((c0 >>> ((8 : Int32) &&& 31)).toInt8.toInt32)), (.int ((c1 >>> ((0 : Int32) &&& 31)).toInt8.toInt32)), (.int ((c1 >>> ((8 : Int32) &&& 31)).toInt8.toInt32)), (.int ((c2 >>> ((0 : Int32) &&& 31)).toInt8.toInt32)), (.int ((c2 >>> ((8 : Int32) &&& 31)).toInt8.toInt32)), (.int ((c3 >>> ((0 : Int32) &&& 31)).toInt8.toInt32)), (.int ((c3 >>> ((8 : Int32) &&& 31)).toInt8.toInt32)), (.int ((c4 >>> ((0 : Int32) &&& 31)).toInt8.toInt32)), (.int ((c4 >>> ((8 : Int32) &&& 31)).toInt8.toInt32))] (.int (0 : Int32)) := by have q := hp3; rw [qb85, qc85] at q; exact q
    refine g_aloadN X0 hx hby d_cha3_0 rfl rfl (rfl : 0 + 1 = 1) ?_
    obtain ⟨cq93, kq93, q93a, q93b, q93c⟩ := isOf hZ e0 hp0
    obtain ⟨_, _, ⟨T93, L93, k93, n93⟩, -, X93, ⟨Lc93, hQ93, l93, y93, z93⟩, st93⟩ := X0.virtualBack hx (y := mN10) (z := mN10) hown (mvT hZ (hw _ (own_M 87 rfl))) (mvT hZ (hw _ (own_M 88 rfl))) (notFace_of_selects (args := #[]) (mvT hZ (hw _ (own_M 90 rfl)))) (mvT hZ (hw _ (own_M 90 rfl))) (mvT hZ (hw _ (own_M 89 rfl))) (by decide) (backOf (W := 0) (rm_isl1 l Z aT hw [] a0 g1 h0 n0 Z0 hp4 r91 hg1) hZ (hw _ (own_M 91 rfl)) (hw _ (own_M 3 rfl)) (by decide) (by decide)) q93a q93c (g := (mkF m 1 #[.val (.ref a0), .val (.int (3 : Int32))] [(.ref a0)])) rfl (by rw [hml]; rfl) (Steps.refl _) (argsL := []) (rest := []) (lenOf pd6 rfl) rfl (by show 2 * 0 + _ ≤ _; exact Nat.le_of_eq rfl) (hb hby d_cha3_1) (fun _ _ => ⟨rfl, e0, (by decide : 0 + 0 ≤ _), (by decide : 0 + 0 ≤ _)⟩)
    dsimp only [Pt.U, Pt.locs, Pt.cells, Pt.slots] at X93 l93 y93 z93 st93 hQ93
    subst l93 y93 z93
    obtain ⟨rfl, N93q, eq93⟩ := hQ93
    have N93 := Fr.app N0 N93q
    refine own_tr st93 ?_
    show own_Got p e below _ T93 (mkF m 4 #[.val (.ref a0), .val (.int (3 : Int32))] [(.int (0 : Int32))])
    refine g_ifT X93 hx hby d_cha3_4 ((if0 _ _).trans (teq (by decide : (0 : Int32) = (0 : Int32))).1) (by decide) (pc' := 16) (by decide) ?_
    refine g_aloadN X93 hx hby d_cha3_16 rfl rfl (rfl : 16 + 1 = 17) ?_
    obtain ⟨T94, X94, e94, st94⟩ := getF X93 hx hZ hown (host := "") (Or.inl (hw _ (own_M 28 rfl))) Via.refl eq93 hp2 (g := (mkF m 17 #[.val (.ref a0), .val (.int (3 : Int32))] [(.ref a0)])) rfl rfl (hb hby d_cha3_17)
    refine own_go st94 ?_
    show own_Got p e below _ T94 (mkF m 20 #[.val (.ref a0), .val (.int (3 : Int32))] [(.ref ob)])
    refine g_iloadN X94 hx hby d_cha3_20 rfl (rfl : 20 + 1 = 21) ?_
    obtain ⟨_, _, ⟨T95, L95, k95, n95⟩, -, X95, ⟨Lc95, hQ95, l95, y95, z95⟩, st95⟩ := Jvm.LawKit.callS X94 hx (y := mN13) hown (mvT hZ (hw _ (own_M 122 rfl))) (mvT hZ (hw _ (own_M 123 rfl))) (mvT hZ (hw _ (own_M 17 rfl))) (mvT hZ (hw _ (own_M 124 rfl))) (by decide) (backOf (W := 0) (rm_uca3 l Z aT hw [] ob kb w1 _ _ _ _ _ h0 n0 Z0 r92 hp6 hp7 hp8 hp5 hr3 hw1) hZ (hw _ (own_M 124 rfl)) (hw _ (own_M 17 rfl)) (by decide) (by decide)) (g := (mkF m 21 #[.val (.ref a0), .val (.int (3 : Int32))] [(.int (3 : Int32)), (.ref ob)])) rfl (by rw [hml]; rfl) (argsL := [(.ref ob), (.int (3 : Int32))]) (rest := []) (lenOf pd4 rfl) rfl (by show 2 * 0 + _ ≤ _; exact Nat.le_of_eq rfl) (hb hby d_cha3_21) (fun _ _ => ⟨rfl, e94, (by decide : 0 + 0 ≤ _), (by decide : 0 + 0 ≤ _)⟩)
    dsimp only [Pt.U, Pt.locs, Pt.cells, Pt.slots] at X95 l95 y95 z95 st95 hQ95
    subst l95 y95 z95
    obtain ⟨rfl, N95q, eq95⟩ := hQ95
    have N95 := Fr.app N93 N95q
    refine own_go st95 ?_
    show own_Got p e below _ T95 (mkF m 24 #[.val (.ref a0), .val (.int (3 : Int32))] [(.int c3)])
    refine own_retN X95 hx hby hlk (t := .char) hrt (by simp) d_cha3_24 (by decide) (by decide) ?_
    show Q_cha3 Z a0 ob kb cd n vs c0 c1 c2 c3 c4 g1 w1 h0 n0 _ T95.heap _
    exact ⟨(congrArg (fun z => some (Value.int z)) (own_cch c3 hr3)), N95, eq95⟩
theorem d_cha4_0 : decode jdk_42_method_56_code 0 = .ok (.aload_n 0, 1) := by decide +kernel
theorem d_cha4_1 : decode jdk_42_method_56_code 1 = .ok (.invokevirtual 492, 3) := by decide +kernel
theorem d_cha4_4 : decode jdk_42_method_56_code 4 = .ok (.ifCond .eq 12, 3) := by decide +kernel
theorem d_cha4_7 : decode jdk_42_method_56_code 7 = .ok (.aload_n 0, 1) := by decide +kernel
theorem d_cha4_8 : decode jdk_42_method_56_code 8 = .ok (.getfield 9, 3) := by decide +kernel
theorem d_cha4_11 : decode jdk_42_method_56_code 11 = .ok (.iload_n 1, 1) := by decide +kernel
theorem d_cha4_12 : decode jdk_42_method_56_code 12 = .ok (.invokestatic 495, 3) := by decide +kernel
theorem d_cha4_15 : decode jdk_42_method_56_code 15 = .ok (.ireturn, 1) := by decide +kernel
theorem d_cha4_16 : decode jdk_42_method_56_code 16 = .ok (.aload_n 0, 1) := by decide +kernel
theorem d_cha4_17 : decode jdk_42_method_56_code 17 = .ok (.getfield 9, 3) := by decide +kernel
theorem d_cha4_20 : decode jdk_42_method_56_code 20 = .ok (.iload_n 1, 1) := by decide +kernel
theorem d_cha4_21 : decode jdk_42_method_56_code 21 = .ok (.invokestatic 498, 3) := by decide +kernel
theorem d_cha4_24 : decode jdk_42_method_56_code 24 = .ok (.ireturn, 1) := by decide +kernel
theorem ef_cha4 (m : MethodId) (a0 : Addr) : entryFrame m #[(.ref a0), (.int (4 : Int32))] 2 = mkF m 0 #[.val (.ref a0), .val (.int (4 : Int32))] [] := by first | (simp [entryFrame, mkF, argsToLocals, Value.category]; done) | rfl
def Q_cha4 (Z : State) (a0 : Addr) (ob : Addr) (kb : ClassId) (cd : Int32) (n : Int32) (vs : List Value) (c0 : Int32) (c1 : Int32) (c2 : Int32) (c3 : Int32) (c4 : Int32) (g1 : Int32) (w1 : Value) (h0 : Heap) (n0 : Nat) (v : Option Value) (h : Heap) (L : List Loc) : Prop := v = some (.int c4) ∧ Fr n0 L ∧ h = h0
set_option maxRecDepth 65536 in
set_option maxHeartbeats 40000000 in
theorem rm_cha4 (l : Launch) (Z : State) (aT : Array Value) (hw : ∀ d ∈ tables_1, d.before aT Z = true) (ws : List Jvm.Cond) (a0 : Addr) (ob : Addr) (kb : ClassId) (cd : Int32) (n : Int32) (vs : List Value) (c0 : Int32) (c1 : Int32) (c2 : Int32) (c3 : Int32) (c4 : Int32) (g1 : Int32) (w1 : Value) (h0 : Heap) (n0 : Nat) (Z0 : n0 ≤ h0.size) (hp0 : Exa Z h0 a0 "java/lang/String") (hp1 : Fld Z h0 a0 "java/lang/String" "coder" "B" (.int cd)) (hp2 : Fld Z h0 a0 "java/lang/String" "value" "[B" (.ref ob)) (hp3 : Arv Z h0 ob kb .byte n vs (.int (0 : Int32))) (hp4 : Sta Z h0 "java/lang/String" "COMPACT_STRINGS" "Z" (.int g1)) (hp5 : Sta Z h0 "jdk/internal/util/Preconditions" "SIOOBE_FORMATTER" "Ljava/util/function/BiFunction;" w1) (hp6 : Sta Z h0 "java/lang/StringUTF16" "$assertionsDisabled" "Z" (.int (1 : Int32))) (hp7 : Sta Z h0 "java/lang/StringUTF16" "HI_BYTE_SHIFT" "I" (.int (0 : Int32))) (hp8 : Sta Z h0 "java/lang/StringUTF16" "LO_BYTE_SHIFT" "I" (.int (8 : Int32))) (hg1 : ¬ (g1 = (0 : Int32))) (hch : own_ch cd n vs c0 c1 c2 c3 c4) (hr4 : own_chr c4) (hw1 : w1.isRef = true) :
    MetFree l mN7 (head1 (Jvm.Cond.code mN7 jdk_42_method_56_code 2 (some .char) :: ws) ({ frames := 4, cells := 0, slots := 0, locals := 53 } : Room)) (fun a U => a = #[(.ref a0), (.int (4 : Int32))] ∧ Z.Warmed39 U.vm ∧ U.heap = h0) (fun _ _ _ _ _ => True) (fun _ U o U' => ∃ v L, o = .returned v ∧ Q_cha4 Z a0 ob kb cd n vs c0 c1 c2 c3 c4 g1 w1 h0 n0 v U'.heap L ∧ FrameEnd U o U' L ({ frames := 4, cells := 0, slots := 0, locals := 53 } : Room).cells ({ frames := 4, cells := 0, slots := 0, locals := 53 } : Room).slots) := by
  refine MetFree.of_bodySF (plainFor_of_name pn0) hisR ?_
  intro p e s m args below meth c s₁ Bd hml0 hP hK
  obtain ⟨rfl, hZ, hh⟩ := hP
  have hx := Bd.exec
  have hby := Bd.bytes
  have hml : c.maxLocals = 2 := hml0
  have hown : s.vm.findClass "java/lang/String" = some m.cls := findClass_of_methodNamed Bd.named
  have hnm := (name_of_methodNamed Bd.named Bd.method).1
  have hlk := Bd.notSynchronized
  have hrt := Bd.returns
  have X0 : Stand p l e ({ frames := 4, cells := 0, slots := 0, locals := 53 } : Room) s m #[(.ref a0), (.int (4 : Int32))] below meth c s₁ [] 0 0 := Stand.of_body Bd
  have e0 : s₁.heap = h0 := by rw [← hh, Bd.state]; rfl
  have N0 := Fr.nil n0
  refine own_cast (P := own_End s (Q_cha4 Z a0 ob kb cd n vs c0 c1 c2 c3 c4 g1 w1 h0 n0) ({ frames := 4, cells := 0, slots := 0, locals := 53 } : Room).cells ({ frames := 4, cells := 0, slots := 0, locals := 53 } : Room).slots) (ef_cha4 m a0) ?_
  rcases hch with ⟨qa96, qb96, qc96, r96_0, r96_1, r96_2, r96_3, r96_4⟩ | ⟨qa96, qb96, qc96⟩
  · have r97 : Fld Z h0 a0 "java/lang/String" "coder" "B" (.int (0 : Int32)) := by have q := hp1; rw [qa96] at q; exact q
    have r98 : Arv Z h0 ob kb .byte (5 : Int32) [(.int (c0.toInt8.toInt32)), (.int (c1.toInt8.toInt32)), (.int (c2.toInt8.toInt32)), (.int (c3.toInt8.toInt32)), (.int (c4.toInt8.toInt32))] (.int (0 : Int32)) := by have q := hp3; rw [qb96, qc96] at q; exact q
    refine g_aloadN X0 hx hby d_cha4_0 rfl rfl (rfl : 0 + 1 = 1) ?_
    obtain ⟨cq99, kq99, q99a, q99b, q99c⟩ := isOf hZ e0 hp0
    obtain ⟨_, _, ⟨T99, L99, k99, n99⟩, -, X99, ⟨Lc99, hQ99, l99, y99, z99⟩, st99⟩ := X0.virtualBack hx (y := mN10) (z := mN10) hown (mvT hZ (hw _ (own_M 87 rfl))) (mvT hZ (hw _ (own_M 88 rfl))) (notFace_of_selects (args := #[]) (mvT hZ (hw _ (own_M 90 rfl)))) (mvT hZ (hw _ (own_M 90 rfl))) (mvT hZ (hw _ (own_M 89 rfl))) (by decide) (backOf (W := 0) (rm_isl0 l Z aT hw [] a0 g1 h0 n0 Z0 hp4 r97 hg1) hZ (hw _ (own_M 91 rfl)) (hw _ (own_M 3 rfl)) (by decide) (by decide)) q99a q99c (g := (mkF m 1 #[.val (.ref a0), .val (.int (4 : Int32))] [(.ref a0)])) rfl (by rw [hml]; rfl) (Steps.refl _) (argsL := []) (rest := []) (lenOf pd6 rfl) rfl (by show 2 * 0 + _ ≤ _; exact Nat.le_of_eq rfl) (hb hby d_cha4_1) (fun _ _ => ⟨rfl, e0, (by decide : 0 + 0 ≤ _), (by decide : 0 + 0 ≤ _)⟩)
    dsimp only [Pt.U, Pt.locs, Pt.cells, Pt.slots] at X99 l99 y99 z99 st99 hQ99
    subst l99 y99 z99
    obtain ⟨rfl, N99q, eq99⟩ := hQ99
    have N99 := Fr.app N0 N99q
    refine own_tr st99 ?_
    show own_Got p e below _ T99 (mkF m 4 #[.val (.ref a0), .val (.int (4 : Int32))] [(.int (1 : Int32))])
    refine g_ifF X99 hx hby d_cha4_4 ((if0 _ _).trans (feq (by decide : ¬ ((1 : Int32) = (0 : Int32)))).1) (rfl : 4 + 3 = 7) ?_
    refine g_aloadN X99 hx hby d_cha4_7 rfl rfl (rfl : 7 + 1 = 8) ?_
    obtain ⟨T100, X100, e100, st100⟩ := getF X99 hx hZ hown (host := "") (Or.inl (hw _ (own_M 28 rfl))) Via.refl eq99 hp2 (g := (mkF m 8 #[.val (.ref a0), .val (.int (4 : Int32))] [(.ref a0)])) rfl rfl (hb hby d_cha4_8)
    refine own_go st100 ?_
    show own_Got p e below _ T100 (mkF m 11 #[.val (.ref a0), .val (.int (4 : Int32))] [(.ref ob)])
    refine g_iloadN X100 hx hby d_cha4_11 rfl (rfl : 11 + 1 = 12) ?_
    obtain ⟨_, _, ⟨T101, L101, k101, n101⟩, -, X101, ⟨Lc101, hQ101, l101, y101, z101⟩, st101⟩ := Jvm.LawKit.callS X100 hx (y := mN12) hown (mvT hZ (hw _ (own_M 92 rfl))) (mvT hZ (hw _ (own_M 93 rfl))) (mvT hZ (hw _ (own_M 94 rfl))) (mvT hZ (hw _ (own_M 95 rfl))) (by decide) (backOf (W := 0) (rm_lca4 l Z aT hw [] ob kb w1 _ _ _ _ _ h0 n0 Z0 r98 hp5 hr4 r96_4 hw1) hZ (hw _ (own_M 95 rfl)) (hw _ (own_M 94 rfl)) (by decide) (by decide)) (g := (mkF m 12 #[.val (.ref a0), .val (.int (4 : Int32))] [(.int (4 : Int32)), (.ref ob)])) rfl (by rw [hml]; rfl) (argsL := [(.ref ob), (.int (4 : Int32))]) (rest := []) (lenOf pd4 rfl) rfl (by show 2 * 0 + _ ≤ _; exact Nat.le_of_eq rfl) (hb hby d_cha4_12) (fun _ _ => ⟨rfl, e100, (by decide : 0 + 0 ≤ _), (by decide : 0 + 0 ≤ _)⟩)
    dsimp only [Pt.U, Pt.locs, Pt.cells, Pt.slots] at X101 l101 y101 z101 st101 hQ101
    subst l101 y101 z101
    obtain ⟨rfl, N101q, eq101⟩ := hQ101
    have N101 := Fr.app N99 N101q
    refine own_go st101 ?_
    show own_Got p e below _ T101 (mkF m 15 #[.val (.ref a0), .val (.int (4 : Int32))] [(.int c4)])
    refine own_retN X101 hx hby hlk (t := .char) hrt (by simp) d_cha4_15 (by decide) (by decide) ?_
    show Q_cha4 Z a0 ob kb cd n vs c0 c1 c2 c3 c4 g1 w1 h0 n0 _ T101.heap _
    exact ⟨(congrArg (fun z => some (Value.int z)) (own_cch c4 hr4)), N101, eq101⟩
  · have r102 : Fld Z h0 a0 "java/lang/String" "coder" "B" (.int (1 : Int32)) := by have q := hp1; rw [qa96] at q; exact q
    have r103 : Arv Z h0 ob kb .byte (10 : Int32) [(.int ((c0 >>> ((0 : Int32) &&& 31)).toInt8.toInt32)), (.int ((c0 >>> ((8 : Int32) &&& 31)).toInt8.toInt32)), (.int ((c1 >>> ((0 : Int32) &&& 31)).toInt8.toInt32)), (.int ((c1 >>> ((8 : Int32) &&& 31)).toInt8.toInt32)), (.int ((c2 >>> ((0 : Int32) &&& 31)).toInt8.toInt32)), (.int ((c2 >>> ((8 : Int32) &&& 31)).toInt8.toInt32)), (.int ((c3 >>> ((0 : Int32) &&& 31)).toInt8.toInt32)), (.int ((c3 >>> ((8 : Int32) &&& 31)).toInt8.toInt32)), (.int ((c4 >>> ((0 : Int32) &&& 31)).toInt8.toInt32)), (.int ((c4 >>> ((8 : Int32) &&& 31)).toInt8.toInt32))] (.int (0 : Int32)) := by have q := hp3; rw [qb96, qc96] at q; exact q
    refine g_aloadN X0 hx hby d_cha4_0 rfl rfl (rfl : 0 + 1 = 1) ?_
    obtain ⟨cq104, kq104, q104a, q104b, q104c⟩ := isOf hZ e0 hp0
    obtain ⟨_, _, ⟨T104, L104, k104, n104⟩, -, X104, ⟨Lc104, hQ104, l104, y104, z104⟩, st104⟩ := X0.virtualBack hx (y := mN10) (z := mN10) hown (mvT hZ (hw _ (own_M 87 rfl))) (mvT hZ (hw _ (own_M 88 rfl))) (notFace_of_selects (args := #[]) (mvT hZ (hw _ (own_M 90 rfl)))) (mvT hZ (hw _ (own_M 90 rfl))) (mvT hZ (hw _ (own_M 89 rfl))) (by decide) (backOf (W := 0) (rm_isl1 l Z aT hw [] a0 g1 h0 n0 Z0 hp4 r102 hg1) hZ (hw _ (own_M 91 rfl)) (hw _ (own_M 3 rfl)) (by decide) (by decide)) q104a q104c (g := (mkF m 1 #[.val (.ref a0), .val (.int (4 : Int32))] [(.ref a0)])) rfl (by rw [hml]; rfl) (Steps.refl _) (argsL := []) (rest := []) (lenOf pd6 rfl) rfl (by show 2 * 0 + _ ≤ _; exact Nat.le_of_eq rfl) (hb hby d_cha4_1) (fun _ _ => ⟨rfl, e0, (by decide : 0 + 0 ≤ _), (by decide : 0 + 0 ≤ _)⟩)
    dsimp only [Pt.U, Pt.locs, Pt.cells, Pt.slots] at X104 l104 y104 z104 st104 hQ104
    subst l104 y104 z104
    obtain ⟨rfl, N104q, eq104⟩ := hQ104
    have N104 := Fr.app N0 N104q
    refine own_tr st104 ?_
    show own_Got p e below _ T104 (mkF m 4 #[.val (.ref a0), .val (.int (4 : Int32))] [(.int (0 : Int32))])
    refine g_ifT X104 hx hby d_cha4_4 ((if0 _ _).trans (teq (by decide : (0 : Int32) = (0 : Int32))).1) (by decide) (pc' := 16) (by decide) ?_
    refine g_aloadN X104 hx hby d_cha4_16 rfl rfl (rfl : 16 + 1 = 17) ?_
    obtain ⟨T105, X105, e105, st105⟩ := getF X104 hx hZ hown (host := "") (Or.inl (hw _ (own_M 28 rfl))) Via.refl eq104 hp2 (g := (mkF m 17 #[.val (.ref a0), .val (.int (4 : Int32))] [(.ref a0)])) rfl rfl (hb hby d_cha4_17)
    refine own_go st105 ?_
    show own_Got p e below _ T105 (mkF m 20 #[.val (.ref a0), .val (.int (4 : Int32))] [(.ref ob)])
    refine g_iloadN X105 hx hby d_cha4_20 rfl (rfl : 20 + 1 = 21) ?_
    obtain ⟨_, _, ⟨T106, L106, k106, n106⟩, -, X106, ⟨Lc106, hQ106, l106, y106, z106⟩, st106⟩ := Jvm.LawKit.callS X105 hx (y := mN13) hown (mvT hZ (hw _ (own_M 122 rfl))) (mvT hZ (hw _ (own_M 123 rfl))) (mvT hZ (hw _ (own_M 17 rfl))) (mvT hZ (hw _ (own_M 124 rfl))) (by decide) (backOf (W := 0) (rm_uca4 l Z aT hw [] ob kb w1 _ _ _ _ _ h0 n0 Z0 r103 hp6 hp7 hp8 hp5 hr4 hw1) hZ (hw _ (own_M 124 rfl)) (hw _ (own_M 17 rfl)) (by decide) (by decide)) (g := (mkF m 21 #[.val (.ref a0), .val (.int (4 : Int32))] [(.int (4 : Int32)), (.ref ob)])) rfl (by rw [hml]; rfl) (argsL := [(.ref ob), (.int (4 : Int32))]) (rest := []) (lenOf pd4 rfl) rfl (by show 2 * 0 + _ ≤ _; exact Nat.le_of_eq rfl) (hb hby d_cha4_21) (fun _ _ => ⟨rfl, e105, (by decide : 0 + 0 ≤ _), (by decide : 0 + 0 ≤ _)⟩)
    dsimp only [Pt.U, Pt.locs, Pt.cells, Pt.slots] at X106 l106 y106 z106 st106 hQ106
    subst l106 y106 z106
    obtain ⟨rfl, N106q, eq106⟩ := hQ106
    have N106 := Fr.app N104 N106q
    refine own_go st106 ?_
    show own_Got p e below _ T106 (mkF m 24 #[.val (.ref a0), .val (.int (4 : Int32))] [(.int c4)])
    refine own_retN X106 hx hby hlk (t := .char) hrt (by simp) d_cha4_24 (by decide) (by decide) ?_
    show Q_cha4 Z a0 ob kb cd n vs c0 c1 c2 c3 c4 g1 w1 h0 n0 _ T106.heap _
    exact ⟨(congrArg (fun z => some (Value.int z)) (own_cch c4 hr4)), N106, eq106⟩
theorem d_cpI_0 : decode jdk_52_method_21_code 0 = .ok (.iconst 0, 1) := by decide +kernel
theorem d_cpI_1 : decode jdk_52_method_21_code 1 = .ok (.istore 5, 2) := by decide +kernel
theorem d_cpI_3 : decode jdk_52_method_21_code 3 = .ok (.iload 5, 2) := by decide +kernel
theorem d_cpI_5 : decode jdk_52_method_21_code 5 = .ok (.iload 4, 2) := by decide +kernel
theorem d_cpI_7 : decode jdk_52_method_21_code 7 = .ok (.if_icmp .ge 37, 3) := by decide +kernel
theorem d_cpI_10 : decode jdk_52_method_21_code 10 = .ok (.aload_n 0, 1) := by decide +kernel
theorem d_cpI_11 : decode jdk_52_method_21_code 11 = .ok (.iload_n 1, 1) := by decide +kernel
theorem d_cpI_12 : decode jdk_52_method_21_code 12 = .ok (.caload, 1) := by decide +kernel
theorem d_cpI_13 : decode jdk_52_method_21_code 13 = .ok (.istore 6, 2) := by decide +kernel
theorem d_cpI_15 : decode jdk_52_method_21_code 15 = .ok (.iload 6, 2) := by decide +kernel
theorem d_cpI_17 : decode jdk_52_method_21_code 17 = .ok (.sipush 255, 3) := by decide +kernel
theorem d_cpI_20 : decode jdk_52_method_21_code 20 = .ok (.if_icmp .le 6, 3) := by decide +kernel
theorem d_cpI_26 : decode jdk_52_method_21_code 26 = .ok (.aload_n 2, 1) := by decide +kernel
theorem d_cpI_27 : decode jdk_52_method_21_code 27 = .ok (.iload_n 3, 1) := by decide +kernel
theorem d_cpI_28 : decode jdk_52_method_21_code 28 = .ok (.iload 6, 2) := by decide +kernel
theorem d_cpI_30 : decode jdk_52_method_21_code 30 = .ok (.i2b, 1) := by decide +kernel
theorem d_cpI_31 : decode jdk_52_method_21_code 31 = .ok (.bastore, 1) := by decide +kernel
theorem d_cpI_32 : decode jdk_52_method_21_code 32 = .ok (.iinc 1 1, 3) := by decide +kernel
theorem d_cpI_35 : decode jdk_52_method_21_code 35 = .ok (.iinc 3 1, 3) := by decide +kernel
theorem d_cpI_38 : decode jdk_52_method_21_code 38 = .ok (.iinc 5 1, 3) := by decide +kernel
theorem d_cpI_41 : decode jdk_52_method_21_code 41 = .ok (.goto (-38), 3) := by decide +kernel
theorem d_cpI_44 : decode jdk_52_method_21_code 44 = .ok (.iload 4, 2) := by decide +kernel
theorem d_cpI_46 : decode jdk_52_method_21_code 46 = .ok (.ireturn, 1) := by decide +kernel
theorem ef_cpI (m : MethodId) (a0 : Addr) (a2 : Addr) : entryFrame m #[(.ref a0), (.int (0 : Int32)), (.ref a2), (.int (0 : Int32)), (.int (5 : Int32))] 7 = mkF m 0 #[.val (.ref a0), .val (.int (0 : Int32)), .val (.ref a2), .val (.int (0 : Int32)), .val (.int (5 : Int32)), .unset, .unset] [] := by first | (simp [entryFrame, mkF, argsToLocals, Value.category]; done) | rfl
def Q_cpI (Z : State) (a0 : Addr) (a2 : Addr) (kc : ClassId) (c0 : Int32) (c1 : Int32) (c2 : Int32) (c3 : Int32) (c4 : Int32) (kb : ClassId) (h0 : Heap) (n0 : Nat) (v : Option Value) (h : Heap) (L : List Loc) : Prop := v = some (.int (5 : Int32)) ∧ Fr n0 L ∧ Keep h0 h [a2] ∧ Exa Z h a2 "[B" ∧ Arv Z h a2 kb .byte (5 : Int32) [(.int (c0.toInt8.toInt32)), (.int (c1.toInt8.toInt32)), (.int (c2.toInt8.toInt32)), (.int (c3.toInt8.toInt32)), (.int (c4.toInt8.toInt32))] (.int (0 : Int32))
set_option maxRecDepth 65536 in
set_option maxHeartbeats 40000000 in
theorem rm_cpI (l : Launch) (Z : State) (aT : Array Value) (hw : ∀ d ∈ tables_1, d.before aT Z = true) (ws : List Jvm.Cond) (a0 : Addr) (a2 : Addr) (kc : ClassId) (c0 : Int32) (c1 : Int32) (c2 : Int32) (c3 : Int32) (c4 : Int32) (kb : ClassId) (h0 : Heap) (n0 : Nat) (Z0 : n0 ≤ h0.size) (hp0 : Arv Z h0 a0 kc .char (5 : Int32) [(.int c0), (.int c1), (.int c2), (.int c3), (.int c4)] (.int (0 : Int32))) (hp1 : Exa Z h0 a2 "[B") (hp2 : Arv Z h0 a2 kb .byte (5 : Int32) [(.int (0 : Int32)), (.int (0 : Int32)), (.int (0 : Int32)), (.int (0 : Int32)), (.int (0 : Int32))] (.int (0 : Int32))) (hp3 : n0 ≤ a2) (hp4 : a0 ≠ a2) (hq0 : ¬ ((255 : Int32) < c0)) (hq1 : ¬ ((255 : Int32) < c1)) (hq2 : ¬ ((255 : Int32) < c2)) (hq3 : ¬ ((255 : Int32) < c3)) (hq4 : ¬ ((255 : Int32) < c4)) :
    MetFree l mN17 (head1 (Jvm.Cond.code mN17 jdk_52_method_21_code 7 (some .int) :: ws) ({ frames := 0, cells := 0, slots := 0, locals := 0 } : Room)) (fun a U => a = #[(.ref a0), (.int (0 : Int32)), (.ref a2), (.int (0 : Int32)), (.int (5 : Int32))] ∧ Z.Warmed39 U.vm ∧ U.heap = h0) (fun _ _ _ _ _ => True) (fun _ U o U' => ∃ v L, o = .returned v ∧ Q_cpI Z a0 a2 kc c0 c1 c2 c3 c4 kb h0 n0 v U'.heap L ∧ FrameEnd U o U' L ({ frames := 0, cells := 0, slots := 0, locals := 0 } : Room).cells ({ frames := 0, cells := 0, slots := 0, locals := 0 } : Room).slots) := by
  refine MetFree.of_bodySF (plainFor_of_name pn2) hisR ?_
  intro p e s m args below meth c s₁ Bd hml0 hP hK
  obtain ⟨rfl, hZ, hh⟩ := hP
  have hx := Bd.exec
  have hby := Bd.bytes
  have hml : c.maxLocals = 7 := hml0
  have hown : s.vm.findClass "java/lang/StringUTF16" = some m.cls := findClass_of_methodNamed Bd.named
  have hnm := (name_of_methodNamed Bd.named Bd.method).1
  have hlk := Bd.notSynchronized
  have hrt := Bd.returns
  have X0 : Stand p l e ({ frames := 0, cells := 0, slots := 0, locals := 0 } : Room) s m #[(.ref a0), (.int (0 : Int32)), (.ref a2), (.int (0 : Int32)), (.int (5 : Int32))] below meth c s₁ [] 0 0 := Stand.of_body Bd
  have e0 : s₁.heap = h0 := by rw [← hh, Bd.state]; rfl
  have N0 := Fr.nil n0
  refine own_cast (P := own_End s (Q_cpI Z a0 a2 kc c0 c1 c2 c3 c4 kb h0 n0) ({ frames := 0, cells := 0, slots := 0, locals := 0 } : Room).cells ({ frames := 0, cells := 0, slots := 0, locals := 0 } : Room).slots) (ef_cpI m a0 a2) ?_
  refine g_iconst X0 hx hby (0 : Int32) d_cpI_0 (by decide) (rfl : 0 + 1 = 1) ?_
  refine g_istore X0 hx hby #[.val (.ref a0), .val (.int (0 : Int32)), .val (.ref a2), .val (.int (0 : Int32)), .val (.int (5 : Int32)), .val (.int (0 : Int32)), .unset] d_cpI_1 rfl (rfl : 1 + 2 = 3) ?_
  refine g_iload X0 hx hby d_cpI_3 rfl (rfl : 3 + 2 = 5) ?_
  refine g_iload X0 hx hby d_cpI_5 rfl (rfl : 5 + 2 = 7) ?_
  refine g_icF X0 hx hby d_cpI_7 (tlt (by decide : (0 : Int32) < (5 : Int32))).2.1 (rfl : 7 + 3 = 10) ?_
  refine g_aloadN X0 hx hby d_cpI_10 rfl rfl (rfl : 10 + 1 = 11) ?_
  refine g_iloadN X0 hx hby d_cpI_11 rfl (rfl : 11 + 1 = 12) ?_
  refine g_caload X0 hx hby hZ e0 (v := (.int c0)) hp0 ⟨by decide, by decide⟩ rfl d_cpI_12 (rfl : 12 + 1 = 13) ?_
  refine g_istore X0 hx hby #[.val (.ref a0), .val (.int (0 : Int32)), .val (.ref a2), .val (.int (0 : Int32)), .val (.int (5 : Int32)), .val (.int (0 : Int32)), .val (.int c0)] d_cpI_13 rfl (rfl : 13 + 2 = 15) ?_
  refine g_iload X0 hx hby d_cpI_15 rfl (rfl : 15 + 2 = 17) ?_
  refine g_sipush X0 hx hby (255 : Int32) d_cpI_17 (by decide) (rfl : 17 + 3 = 20) ?_
  refine g_icT X0 hx hby d_cpI_20 (flt hq0).2.2.2 (by decide) (pc' := 26) (by decide) ?_
  refine g_aloadN X0 hx hby d_cpI_26 rfl rfl (rfl : 26 + 1 = 27) ?_
  refine g_iloadN X0 hx hby d_cpI_27 rfl (rfl : 27 + 1 = 28) ?_
  refine g_iload X0 hx hby d_cpI_28 rfl (rfl : 28 + 2 = 30) ?_
  refine g_i2b X0 hx hby d_cpI_30 (rfl : 30 + 1 = 31) ?_
  obtain ⟨T107, h107, X107, e107, W107, V107, st107⟩ := a_bastore X0 hx hby hZ e0 (ls := #[.val (.ref a0), .val (.int (0 : Int32)), .val (.ref a2), .val (.int (0 : Int32)), .val (.int (5 : Int32)), .val (.int (0 : Int32)), .val (.int c0)]) (st := []) (j := (0 : Int32)) (c0.toInt8.toInt32) 0 hp2 ⟨by decide, by decide⟩ (by decide) (Nat.le_of_ble_eq_true rfl) d_cpI_31
  have Z107 : n0 ≤ h107.size := Nat.le_trans Z0 (Keep.of_wr W107).1
  have N107 := Fr.snoc X107 N0 hp3
  have K107 : Keep h0 h107 [a2] := (Keep.refl h0 [a2]).wr W107 (Or.inl (List.mem_of_getElem? (i := 0) rfl))
  have V107' : Arv Z h107 a2 kb .byte (5 : Int32) [(.int (c0.toInt8.toInt32)), (.int (0 : Int32)), (.int (0 : Int32)), (.int (0 : Int32)), (.int (0 : Int32))] (.int (0 : Int32)) := by have q := V107; rw [own_nb] at q; exact q
  refine own_go st107 ?_
  show own_Got p e below _ T107 (mkF m 32 #[.val (.ref a0), .val (.int (0 : Int32)), .val (.ref a2), .val (.int (0 : Int32)), .val (.int (5 : Int32)), .val (.int (0 : Int32)), .val (.int c0)] [])
  refine g_iinc X107 hx hby #[.val (.ref a0), .val (.int ((0 : Int32) + (1 : Int32))), .val (.ref a2), .val (.int (0 : Int32)), .val (.int (5 : Int32)), .val (.int (0 : Int32)), .val (.int c0)] d_cpI_32 rfl rfl (rfl : 32 + 3 = 35) ?_
  rw [(by decide : ((0 : Int32) + (1 : Int32)) = (1 : Int32))]
  refine g_iinc X107 hx hby #[.val (.ref a0), .val (.int (1 : Int32)), .val (.ref a2), .val (.int ((0 : Int32) + (1 : Int32))), .val (.int (5 : Int32)), .val (.int (0 : Int32)), .val (.int c0)] d_cpI_35 rfl rfl (rfl : 35 + 3 = 38) ?_
  rw [(by decide : ((0 : Int32) + (1 : Int32)) = (1 : Int32))]
  refine g_iinc X107 hx hby #[.val (.ref a0), .val (.int (1 : Int32)), .val (.ref a2), .val (.int (1 : Int32)), .val (.int (5 : Int32)), .val (.int ((0 : Int32) + (1 : Int32))), .val (.int c0)] d_cpI_38 rfl rfl (rfl : 38 + 3 = 41) ?_
  rw [(by decide : ((0 : Int32) + (1 : Int32)) = (1 : Int32))]
  refine g_goto X107 hx hby d_cpI_41 (by decide) (pc' := 3) (by decide) ?_
  refine g_iload X107 hx hby d_cpI_3 rfl (rfl : 3 + 2 = 5) ?_
  refine g_iload X107 hx hby d_cpI_5 rfl (rfl : 5 + 2 = 7) ?_
  refine g_icF X107 hx hby d_cpI_7 (tlt (by decide : (1 : Int32) < (5 : Int32))).2.1 (rfl : 7 + 3 = 10) ?_
  refine g_aloadN X107 hx hby d_cpI_10 rfl rfl (rfl : 10 + 1 = 11) ?_
  refine g_iloadN X107 hx hby d_cpI_11 rfl (rfl : 11 + 1 = 12) ?_
  have f108 : Arv Z h107 a0 kc .char (5 : Int32) [(.int c0), (.int c1), (.int c2), (.int c3), (.int c4)] (.int (0 : Int32)) := (Arv.other hp0 W107 hp4)
  refine g_caload X107 hx hby hZ e107 (v := (.int c1)) f108 ⟨by decide, by decide⟩ rfl d_cpI_12 (rfl : 12 + 1 = 13) ?_
  refine g_istore X107 hx hby #[.val (.ref a0), .val (.int (1 : Int32)), .val (.ref a2), .val (.int (1 : Int32)), .val (.int (5 : Int32)), .val (.int (1 : Int32)), .val (.int c1)] d_cpI_13 rfl (rfl : 13 + 2 = 15) ?_
  refine g_iload X107 hx hby d_cpI_15 rfl (rfl : 15 + 2 = 17) ?_
  refine g_sipush X107 hx hby (255 : Int32) d_cpI_17 (by decide) (rfl : 17 + 3 = 20) ?_
  refine g_icT X107 hx hby d_cpI_20 (flt hq1).2.2.2 (by decide) (pc' := 26) (by decide) ?_
  refine g_aloadN X107 hx hby d_cpI_26 rfl rfl (rfl : 26 + 1 = 27) ?_
  refine g_iloadN X107 hx hby d_cpI_27 rfl (rfl : 27 + 1 = 28) ?_
  refine g_iload X107 hx hby d_cpI_28 rfl (rfl : 28 + 2 = 30) ?_
  refine g_i2b X107 hx hby d_cpI_30 (rfl : 30 + 1 = 31) ?_
  obtain ⟨T109, h109, X109, e109, W109, V109, st109⟩ := a_bastore X107 hx hby hZ e107 (ls := #[.val (.ref a0), .val (.int (1 : Int32)), .val (.ref a2), .val (.int (1 : Int32)), .val (.int (5 : Int32)), .val (.int (1 : Int32)), .val (.int c1)]) (st := []) (j := (1 : Int32)) (c1.toInt8.toInt32) 1 V107' ⟨by decide, by decide⟩ (by decide) (Nat.le_of_ble_eq_true rfl) d_cpI_31
  have Z109 : n0 ≤ h109.size := Nat.le_trans Z107 (Keep.of_wr W109).1
  have N109 := Fr.snoc X109 N107 hp3
  have K109 : Keep h0 h109 [a2] := K107.wr W109 (Or.inl (List.mem_of_getElem? (i := 0) rfl))
  have V109' : Arv Z h109 a2 kb .byte (5 : Int32) [(.int (c0.toInt8.toInt32)), (.int (c1.toInt8.toInt32)), (.int (0 : Int32)), (.int (0 : Int32)), (.int (0 : Int32))] (.int (0 : Int32)) := by have q := V109; rw [own_nb] at q; exact q
  refine own_go st109 ?_
  show own_Got p e below _ T109 (mkF m 32 #[.val (.ref a0), .val (.int (1 : Int32)), .val (.ref a2), .val (.int (1 : Int32)), .val (.int (5 : Int32)), .val (.int (1 : Int32)), .val (.int c1)] [])
  refine g_iinc X109 hx hby #[.val (.ref a0), .val (.int ((1 : Int32) + (1 : Int32))), .val (.ref a2), .val (.int (1 : Int32)), .val (.int (5 : Int32)), .val (.int (1 : Int32)), .val (.int c1)] d_cpI_32 rfl rfl (rfl : 32 + 3 = 35) ?_
  rw [(by decide : ((1 : Int32) + (1 : Int32)) = (2 : Int32))]
  refine g_iinc X109 hx hby #[.val (.ref a0), .val (.int (2 : Int32)), .val (.ref a2), .val (.int ((1 : Int32) + (1 : Int32))), .val (.int (5 : Int32)), .val (.int (1 : Int32)), .val (.int c1)] d_cpI_35 rfl rfl (rfl : 35 + 3 = 38) ?_
  rw [(by decide : ((1 : Int32) + (1 : Int32)) = (2 : Int32))]
  refine g_iinc X109 hx hby #[.val (.ref a0), .val (.int (2 : Int32)), .val (.ref a2), .val (.int (2 : Int32)), .val (.int (5 : Int32)), .val (.int ((1 : Int32) + (1 : Int32))), .val (.int c1)] d_cpI_38 rfl rfl (rfl : 38 + 3 = 41) ?_
  rw [(by decide : ((1 : Int32) + (1 : Int32)) = (2 : Int32))]
  refine g_goto X109 hx hby d_cpI_41 (by decide) (pc' := 3) (by decide) ?_
  refine g_iload X109 hx hby d_cpI_3 rfl (rfl : 3 + 2 = 5) ?_
  refine g_iload X109 hx hby d_cpI_5 rfl (rfl : 5 + 2 = 7) ?_
  refine g_icF X109 hx hby d_cpI_7 (tlt (by decide : (2 : Int32) < (5 : Int32))).2.1 (rfl : 7 + 3 = 10) ?_
  refine g_aloadN X109 hx hby d_cpI_10 rfl rfl (rfl : 10 + 1 = 11) ?_
  refine g_iloadN X109 hx hby d_cpI_11 rfl (rfl : 11 + 1 = 12) ?_
  have f110 : Arv Z h109 a0 kc .char (5 : Int32) [(.int c0), (.int c1), (.int c2), (.int c3), (.int c4)] (.int (0 : Int32)) := (Arv.other f108 W109 hp4)
  refine g_caload X109 hx hby hZ e109 (v := (.int c2)) f110 ⟨by decide, by decide⟩ rfl d_cpI_12 (rfl : 12 + 1 = 13) ?_
  refine g_istore X109 hx hby #[.val (.ref a0), .val (.int (2 : Int32)), .val (.ref a2), .val (.int (2 : Int32)), .val (.int (5 : Int32)), .val (.int (2 : Int32)), .val (.int c2)] d_cpI_13 rfl (rfl : 13 + 2 = 15) ?_
  refine g_iload X109 hx hby d_cpI_15 rfl (rfl : 15 + 2 = 17) ?_
  refine g_sipush X109 hx hby (255 : Int32) d_cpI_17 (by decide) (rfl : 17 + 3 = 20) ?_
  refine g_icT X109 hx hby d_cpI_20 (flt hq2).2.2.2 (by decide) (pc' := 26) (by decide) ?_
  refine g_aloadN X109 hx hby d_cpI_26 rfl rfl (rfl : 26 + 1 = 27) ?_
  refine g_iloadN X109 hx hby d_cpI_27 rfl (rfl : 27 + 1 = 28) ?_
  refine g_iload X109 hx hby d_cpI_28 rfl (rfl : 28 + 2 = 30) ?_
  refine g_i2b X109 hx hby d_cpI_30 (rfl : 30 + 1 = 31) ?_
  obtain ⟨T111, h111, X111, e111, W111, V111, st111⟩ := a_bastore X109 hx hby hZ e109 (ls := #[.val (.ref a0), .val (.int (2 : Int32)), .val (.ref a2), .val (.int (2 : Int32)), .val (.int (5 : Int32)), .val (.int (2 : Int32)), .val (.int c2)]) (st := []) (j := (2 : Int32)) (c2.toInt8.toInt32) 2 V109' ⟨by decide, by decide⟩ (by decide) (Nat.le_of_ble_eq_true rfl) d_cpI_31
  have Z111 : n0 ≤ h111.size := Nat.le_trans Z109 (Keep.of_wr W111).1
  have N111 := Fr.snoc X111 N109 hp3
  have K111 : Keep h0 h111 [a2] := K109.wr W111 (Or.inl (List.mem_of_getElem? (i := 0) rfl))
  have V111' : Arv Z h111 a2 kb .byte (5 : Int32) [(.int (c0.toInt8.toInt32)), (.int (c1.toInt8.toInt32)), (.int (c2.toInt8.toInt32)), (.int (0 : Int32)), (.int (0 : Int32))] (.int (0 : Int32)) := by have q := V111; rw [own_nb] at q; exact q
  refine own_go st111 ?_
  show own_Got p e below _ T111 (mkF m 32 #[.val (.ref a0), .val (.int (2 : Int32)), .val (.ref a2), .val (.int (2 : Int32)), .val (.int (5 : Int32)), .val (.int (2 : Int32)), .val (.int c2)] [])
  refine g_iinc X111 hx hby #[.val (.ref a0), .val (.int ((2 : Int32) + (1 : Int32))), .val (.ref a2), .val (.int (2 : Int32)), .val (.int (5 : Int32)), .val (.int (2 : Int32)), .val (.int c2)] d_cpI_32 rfl rfl (rfl : 32 + 3 = 35) ?_
  rw [(by decide : ((2 : Int32) + (1 : Int32)) = (3 : Int32))]
  refine g_iinc X111 hx hby #[.val (.ref a0), .val (.int (3 : Int32)), .val (.ref a2), .val (.int ((2 : Int32) + (1 : Int32))), .val (.int (5 : Int32)), .val (.int (2 : Int32)), .val (.int c2)] d_cpI_35 rfl rfl (rfl : 35 + 3 = 38) ?_
  rw [(by decide : ((2 : Int32) + (1 : Int32)) = (3 : Int32))]
  refine g_iinc X111 hx hby #[.val (.ref a0), .val (.int (3 : Int32)), .val (.ref a2), .val (.int (3 : Int32)), .val (.int (5 : Int32)), .val (.int ((2 : Int32) + (1 : Int32))), .val (.int c2)] d_cpI_38 rfl rfl (rfl : 38 + 3 = 41) ?_
  rw [(by decide : ((2 : Int32) + (1 : Int32)) = (3 : Int32))]
  refine g_goto X111 hx hby d_cpI_41 (by decide) (pc' := 3) (by decide) ?_
  refine g_iload X111 hx hby d_cpI_3 rfl (rfl : 3 + 2 = 5) ?_
  refine g_iload X111 hx hby d_cpI_5 rfl (rfl : 5 + 2 = 7) ?_
  refine g_icF X111 hx hby d_cpI_7 (tlt (by decide : (3 : Int32) < (5 : Int32))).2.1 (rfl : 7 + 3 = 10) ?_
  refine g_aloadN X111 hx hby d_cpI_10 rfl rfl (rfl : 10 + 1 = 11) ?_
  refine g_iloadN X111 hx hby d_cpI_11 rfl (rfl : 11 + 1 = 12) ?_
  have f112 : Arv Z h111 a0 kc .char (5 : Int32) [(.int c0), (.int c1), (.int c2), (.int c3), (.int c4)] (.int (0 : Int32)) := (Arv.other f110 W111 hp4)
  refine g_caload X111 hx hby hZ e111 (v := (.int c3)) f112 ⟨by decide, by decide⟩ rfl d_cpI_12 (rfl : 12 + 1 = 13) ?_
  refine g_istore X111 hx hby #[.val (.ref a0), .val (.int (3 : Int32)), .val (.ref a2), .val (.int (3 : Int32)), .val (.int (5 : Int32)), .val (.int (3 : Int32)), .val (.int c3)] d_cpI_13 rfl (rfl : 13 + 2 = 15) ?_
  refine g_iload X111 hx hby d_cpI_15 rfl (rfl : 15 + 2 = 17) ?_
  refine g_sipush X111 hx hby (255 : Int32) d_cpI_17 (by decide) (rfl : 17 + 3 = 20) ?_
  refine g_icT X111 hx hby d_cpI_20 (flt hq3).2.2.2 (by decide) (pc' := 26) (by decide) ?_
  refine g_aloadN X111 hx hby d_cpI_26 rfl rfl (rfl : 26 + 1 = 27) ?_
  refine g_iloadN X111 hx hby d_cpI_27 rfl (rfl : 27 + 1 = 28) ?_
  refine g_iload X111 hx hby d_cpI_28 rfl (rfl : 28 + 2 = 30) ?_
  refine g_i2b X111 hx hby d_cpI_30 (rfl : 30 + 1 = 31) ?_
  obtain ⟨T113, h113, X113, e113, W113, V113, st113⟩ := a_bastore X111 hx hby hZ e111 (ls := #[.val (.ref a0), .val (.int (3 : Int32)), .val (.ref a2), .val (.int (3 : Int32)), .val (.int (5 : Int32)), .val (.int (3 : Int32)), .val (.int c3)]) (st := []) (j := (3 : Int32)) (c3.toInt8.toInt32) 3 V111' ⟨by decide, by decide⟩ (by decide) (Nat.le_of_ble_eq_true rfl) d_cpI_31
  have Z113 : n0 ≤ h113.size := Nat.le_trans Z111 (Keep.of_wr W113).1
  have N113 := Fr.snoc X113 N111 hp3
  have K113 : Keep h0 h113 [a2] := K111.wr W113 (Or.inl (List.mem_of_getElem? (i := 0) rfl))
  have V113' : Arv Z h113 a2 kb .byte (5 : Int32) [(.int (c0.toInt8.toInt32)), (.int (c1.toInt8.toInt32)), (.int (c2.toInt8.toInt32)), (.int (c3.toInt8.toInt32)), (.int (0 : Int32))] (.int (0 : Int32)) := by have q := V113; rw [own_nb] at q; exact q
  refine own_go st113 ?_
  show own_Got p e below _ T113 (mkF m 32 #[.val (.ref a0), .val (.int (3 : Int32)), .val (.ref a2), .val (.int (3 : Int32)), .val (.int (5 : Int32)), .val (.int (3 : Int32)), .val (.int c3)] [])
  refine g_iinc X113 hx hby #[.val (.ref a0), .val (.int ((3 : Int32) + (1 : Int32))), .val (.ref a2), .val (.int (3 : Int32)), .val (.int (5 : Int32)), .val (.int (3 : Int32)), .val (.int c3)] d_cpI_32 rfl rfl (rfl : 32 + 3 = 35) ?_
  rw [(by decide : ((3 : Int32) + (1 : Int32)) = (4 : Int32))]
  refine g_iinc X113 hx hby #[.val (.ref a0), .val (.int (4 : Int32)), .val (.ref a2), .val (.int ((3 : Int32) + (1 : Int32))), .val (.int (5 : Int32)), .val (.int (3 : Int32)), .val (.int c3)] d_cpI_35 rfl rfl (rfl : 35 + 3 = 38) ?_
  rw [(by decide : ((3 : Int32) + (1 : Int32)) = (4 : Int32))]
  refine g_iinc X113 hx hby #[.val (.ref a0), .val (.int (4 : Int32)), .val (.ref a2), .val (.int (4 : Int32)), .val (.int (5 : Int32)), .val (.int ((3 : Int32) + (1 : Int32))), .val (.int c3)] d_cpI_38 rfl rfl (rfl : 38 + 3 = 41) ?_
  rw [(by decide : ((3 : Int32) + (1 : Int32)) = (4 : Int32))]
  refine g_goto X113 hx hby d_cpI_41 (by decide) (pc' := 3) (by decide) ?_
  refine g_iload X113 hx hby d_cpI_3 rfl (rfl : 3 + 2 = 5) ?_
  refine g_iload X113 hx hby d_cpI_5 rfl (rfl : 5 + 2 = 7) ?_
  refine g_icF X113 hx hby d_cpI_7 (tlt (by decide : (4 : Int32) < (5 : Int32))).2.1 (rfl : 7 + 3 = 10) ?_
  refine g_aloadN X113 hx hby d_cpI_10 rfl rfl (rfl : 10 + 1 = 11) ?_
  refine g_iloadN X113 hx hby d_cpI_11 rfl (rfl : 11 + 1 = 12) ?_
  have f114 : Arv Z h113 a0 kc .char (5 : Int32) [(.int c0), (.int c1), (.int c2), (.int c3), (.int c4)] (.int (0 : Int32)) := (Arv.other f112 W113 hp4)
  refine g_caload X113 hx hby hZ e113 (v := (.int c4)) f114 ⟨by decide, by decide⟩ rfl d_cpI_12 (rfl : 12 + 1 = 13) ?_
  refine g_istore X113 hx hby #[.val (.ref a0), .val (.int (4 : Int32)), .val (.ref a2), .val (.int (4 : Int32)), .val (.int (5 : Int32)), .val (.int (4 : Int32)), .val (.int c4)] d_cpI_13 rfl (rfl : 13 + 2 = 15) ?_
  refine g_iload X113 hx hby d_cpI_15 rfl (rfl : 15 + 2 = 17) ?_
  refine g_sipush X113 hx hby (255 : Int32) d_cpI_17 (by decide) (rfl : 17 + 3 = 20) ?_
  refine g_icT X113 hx hby d_cpI_20 (flt hq4).2.2.2 (by decide) (pc' := 26) (by decide) ?_
  refine g_aloadN X113 hx hby d_cpI_26 rfl rfl (rfl : 26 + 1 = 27) ?_
  refine g_iloadN X113 hx hby d_cpI_27 rfl (rfl : 27 + 1 = 28) ?_
  refine g_iload X113 hx hby d_cpI_28 rfl (rfl : 28 + 2 = 30) ?_
  refine g_i2b X113 hx hby d_cpI_30 (rfl : 30 + 1 = 31) ?_
  obtain ⟨T115, h115, X115, e115, W115, V115, st115⟩ := a_bastore X113 hx hby hZ e113 (ls := #[.val (.ref a0), .val (.int (4 : Int32)), .val (.ref a2), .val (.int (4 : Int32)), .val (.int (5 : Int32)), .val (.int (4 : Int32)), .val (.int c4)]) (st := []) (j := (4 : Int32)) (c4.toInt8.toInt32) 4 V113' ⟨by decide, by decide⟩ (by decide) (Nat.le_of_ble_eq_true rfl) d_cpI_31
  have Z115 : n0 ≤ h115.size := Nat.le_trans Z113 (Keep.of_wr W115).1
  have N115 := Fr.snoc X115 N113 hp3
  have K115 : Keep h0 h115 [a2] := K113.wr W115 (Or.inl (List.mem_of_getElem? (i := 0) rfl))
  have V115' : Arv Z h115 a2 kb .byte (5 : Int32) [(.int (c0.toInt8.toInt32)), (.int (c1.toInt8.toInt32)), (.int (c2.toInt8.toInt32)), (.int (c3.toInt8.toInt32)), (.int (c4.toInt8.toInt32))] (.int (0 : Int32)) := by have q := V115; rw [own_nb] at q; exact q
  refine own_go st115 ?_
  show own_Got p e below _ T115 (mkF m 32 #[.val (.ref a0), .val (.int (4 : Int32)), .val (.ref a2), .val (.int (4 : Int32)), .val (.int (5 : Int32)), .val (.int (4 : Int32)), .val (.int c4)] [])
  refine g_iinc X115 hx hby #[.val (.ref a0), .val (.int ((4 : Int32) + (1 : Int32))), .val (.ref a2), .val (.int (4 : Int32)), .val (.int (5 : Int32)), .val (.int (4 : Int32)), .val (.int c4)] d_cpI_32 rfl rfl (rfl : 32 + 3 = 35) ?_
  rw [(by decide : ((4 : Int32) + (1 : Int32)) = (5 : Int32))]
  refine g_iinc X115 hx hby #[.val (.ref a0), .val (.int (5 : Int32)), .val (.ref a2), .val (.int ((4 : Int32) + (1 : Int32))), .val (.int (5 : Int32)), .val (.int (4 : Int32)), .val (.int c4)] d_cpI_35 rfl rfl (rfl : 35 + 3 = 38) ?_
  rw [(by decide : ((4 : Int32) + (1 : Int32)) = (5 : Int32))]
  refine g_iinc X115 hx hby #[.val (.ref a0), .val (.int (5 : Int32)), .val (.ref a2), .val (.int (5 : Int32)), .val (.int (5 : Int32)), .val (.int ((4 : Int32) + (1 : Int32))), .val (.int c4)] d_cpI_38 rfl rfl (rfl : 38 + 3 = 41) ?_
  rw [(by decide : ((4 : Int32) + (1 : Int32)) = (5 : Int32))]
  refine g_goto X115 hx hby d_cpI_41 (by decide) (pc' := 3) (by decide) ?_
  refine g_iload X115 hx hby d_cpI_3 rfl (rfl : 3 + 2 = 5) ?_
  refine g_iload X115 hx hby d_cpI_5 rfl (rfl : 5 + 2 = 7) ?_
  refine g_icT X115 hx hby d_cpI_7 (flt (by decide : ¬ ((5 : Int32) < (5 : Int32)))).2.1 (by decide) (pc' := 44) (by decide) ?_
  refine g_iload X115 hx hby d_cpI_44 rfl (rfl : 44 + 2 = 46) ?_
  have f116 : Exa Z h115 a2 "[B" := (Exa.wr W115 (Exa.wr W113 (Exa.wr W111 (Exa.wr W109 (Exa.wr W107 hp1)))))
  refine own_retI X115 hx hby hlk hrt d_cpI_46 (by decide) (by decide) ?_
  show Q_cpI Z a0 a2 kc c0 c1 c2 c3 c4 kb h0 n0 _ T115.heap _
  rw [e115]
  exact ⟨rfl, N115, K115, f116, V115'⟩
theorem d_cpI0_0 : decode jdk_52_method_21_code 0 = .ok (.iconst 0, 1) := by decide +kernel
theorem d_cpI0_1 : decode jdk_52_method_21_code 1 = .ok (.istore 5, 2) := by decide +kernel
theorem d_cpI0_3 : decode jdk_52_method_21_code 3 = .ok (.iload 5, 2) := by decide +kernel
theorem d_cpI0_5 : decode jdk_52_method_21_code 5 = .ok (.iload 4, 2) := by decide +kernel
theorem d_cpI0_7 : decode jdk_52_method_21_code 7 = .ok (.if_icmp .ge 37, 3) := by decide +kernel
theorem d_cpI0_10 : decode jdk_52_method_21_code 10 = .ok (.aload_n 0, 1) := by decide +kernel
theorem d_cpI0_11 : decode jdk_52_method_21_code 11 = .ok (.iload_n 1, 1) := by decide +kernel
theorem d_cpI0_12 : decode jdk_52_method_21_code 12 = .ok (.caload, 1) := by decide +kernel
theorem d_cpI0_13 : decode jdk_52_method_21_code 13 = .ok (.istore 6, 2) := by decide +kernel
theorem d_cpI0_15 : decode jdk_52_method_21_code 15 = .ok (.iload 6, 2) := by decide +kernel
theorem d_cpI0_17 : decode jdk_52_method_21_code 17 = .ok (.sipush 255, 3) := by decide +kernel
theorem d_cpI0_20 : decode jdk_52_method_21_code 20 = .ok (.if_icmp .le 6, 3) := by decide +kernel
theorem d_cpI0_23 : decode jdk_52_method_21_code 23 = .ok (.iload 5, 2) := by decide +kernel
theorem d_cpI0_25 : decode jdk_52_method_21_code 25 = .ok (.ireturn, 1) := by decide +kernel
theorem ef_cpI0 (m : MethodId) (a0 : Addr) (a2 : Addr) : entryFrame m #[(.ref a0), (.int (0 : Int32)), (.ref a2), (.int (0 : Int32)), (.int (5 : Int32))] 7 = mkF m 0 #[.val (.ref a0), .val (.int (0 : Int32)), .val (.ref a2), .val (.int (0 : Int32)), .val (.int (5 : Int32)), .unset, .unset] [] := by first | (simp [entryFrame, mkF, argsToLocals, Value.category]; done) | rfl
def Q_cpI0 (Z : State) (a0 : Addr) (a2 : Addr) (kc : ClassId) (c0 : Int32) (c1 : Int32) (c2 : Int32) (c3 : Int32) (c4 : Int32) (kb : ClassId) (h0 : Heap) (n0 : Nat) (v : Option Value) (h : Heap) (L : List Loc) : Prop := v = some (.int (0 : Int32)) ∧ Fr n0 L ∧ Keep h0 h [a2] ∧ Exa Z h a2 "[B"
set_option maxRecDepth 65536 in
set_option maxHeartbeats 40000000 in
theorem rm_cpI0 (l : Launch) (Z : State) (aT : Array Value) (hw : ∀ d ∈ tables_1, d.before aT Z = true) (ws : List Jvm.Cond) (a0 : Addr) (a2 : Addr) (kc : ClassId) (c0 : Int32) (c1 : Int32) (c2 : Int32) (c3 : Int32) (c4 : Int32) (kb : ClassId) (h0 : Heap) (n0 : Nat) (Z0 : n0 ≤ h0.size) (hp0 : Arv Z h0 a0 kc .char (5 : Int32) [(.int c0), (.int c1), (.int c2), (.int c3), (.int c4)] (.int (0 : Int32))) (hp1 : Exa Z h0 a2 "[B") (hp2 : Arv Z h0 a2 kb .byte (5 : Int32) [(.int (0 : Int32)), (.int (0 : Int32)), (.int (0 : Int32)), (.int (0 : Int32)), (.int (0 : Int32))] (.int (0 : Int32))) (hp3 : n0 ≤ a2) (hp4 : a0 ≠ a2) (hq0 : (255 : Int32) < c0) :
    MetFree l mN17 (head1 (Jvm.Cond.code mN17 jdk_52_method_21_code 7 (some .int) :: ws) ({ frames := 0, cells := 0, slots := 0, locals := 0 } : Room)) (fun a U => a = #[(.ref a0), (.int (0 : Int32)), (.ref a2), (.int (0 : Int32)), (.int (5 : Int32))] ∧ Z.Warmed39 U.vm ∧ U.heap = h0) (fun _ _ _ _ _ => True) (fun _ U o U' => ∃ v L, o = .returned v ∧ Q_cpI0 Z a0 a2 kc c0 c1 c2 c3 c4 kb h0 n0 v U'.heap L ∧ FrameEnd U o U' L ({ frames := 0, cells := 0, slots := 0, locals := 0 } : Room).cells ({ frames := 0, cells := 0, slots := 0, locals := 0 } : Room).slots) := by
  refine MetFree.of_bodySF (plainFor_of_name pn2) hisR ?_
  intro p e s m args below meth c s₁ Bd hml0 hP hK
  obtain ⟨rfl, hZ, hh⟩ := hP
  have hx := Bd.exec
  have hby := Bd.bytes
  have hml : c.maxLocals = 7 := hml0
  have hown : s.vm.findClass "java/lang/StringUTF16" = some m.cls := findClass_of_methodNamed Bd.named
  have hnm := (name_of_methodNamed Bd.named Bd.method).1
  have hlk := Bd.notSynchronized
  have hrt := Bd.returns
  have X0 : Stand p l e ({ frames := 0, cells := 0, slots := 0, locals := 0 } : Room) s m #[(.ref a0), (.int (0 : Int32)), (.ref a2), (.int (0 : Int32)), (.int (5 : Int32))] below meth c s₁ [] 0 0 := Stand.of_body Bd
  have e0 : s₁.heap = h0 := by rw [← hh, Bd.state]; rfl
  have N0 := Fr.nil n0
  refine own_cast (P := own_End s (Q_cpI0 Z a0 a2 kc c0 c1 c2 c3 c4 kb h0 n0) ({ frames := 0, cells := 0, slots := 0, locals := 0 } : Room).cells ({ frames := 0, cells := 0, slots := 0, locals := 0 } : Room).slots) (ef_cpI0 m a0 a2) ?_
  refine g_iconst X0 hx hby (0 : Int32) d_cpI0_0 (by decide) (rfl : 0 + 1 = 1) ?_
  refine g_istore X0 hx hby #[.val (.ref a0), .val (.int (0 : Int32)), .val (.ref a2), .val (.int (0 : Int32)), .val (.int (5 : Int32)), .val (.int (0 : Int32)), .unset] d_cpI0_1 rfl (rfl : 1 + 2 = 3) ?_
  refine g_iload X0 hx hby d_cpI0_3 rfl (rfl : 3 + 2 = 5) ?_
  refine g_iload X0 hx hby d_cpI0_5 rfl (rfl : 5 + 2 = 7) ?_
  refine g_icF X0 hx hby d_cpI0_7 (tlt (by decide : (0 : Int32) < (5 : Int32))).2.1 (rfl : 7 + 3 = 10) ?_
  refine g_aloadN X0 hx hby d_cpI0_10 rfl rfl (rfl : 10 + 1 = 11) ?_
  refine g_iloadN X0 hx hby d_cpI0_11 rfl (rfl : 11 + 1 = 12) ?_
  refine g_caload X0 hx hby hZ e0 (v := (.int c0)) hp0 ⟨by decide, by decide⟩ rfl d_cpI0_12 (rfl : 12 + 1 = 13) ?_
  refine g_istore X0 hx hby #[.val (.ref a0), .val (.int (0 : Int32)), .val (.ref a2), .val (.int (0 : Int32)), .val (.int (5 : Int32)), .val (.int (0 : Int32)), .val (.int c0)] d_cpI0_13 rfl (rfl : 13 + 2 = 15) ?_
  refine g_iload X0 hx hby d_cpI0_15 rfl (rfl : 15 + 2 = 17) ?_
  refine g_sipush X0 hx hby (255 : Int32) d_cpI0_17 (by decide) (rfl : 17 + 3 = 20) ?_
  refine g_icF X0 hx hby d_cpI0_20 (tlt hq0).2.2.2 (rfl : 20 + 3 = 23) ?_
  refine g_iload X0 hx hby d_cpI0_23 rfl (rfl : 23 + 2 = 25) ?_
  refine own_retI X0 hx hby hlk hrt d_cpI0_25 (by decide) (by decide) ?_
  show Q_cpI0 Z a0 a2 kc c0 c1 c2 c3 c4 kb h0 n0 _ s₁.heap _
  rw [e0]
  exact ⟨rfl, N0, (Keep.refl h0 [a2]), hp1⟩
theorem d_cpI1_0 : decode jdk_52_method_21_code 0 = .ok (.iconst 0, 1) := by decide +kernel
theorem d_cpI1_1 : decode jdk_52_method_21_code 1 = .ok (.istore 5, 2) := by decide +kernel
theorem d_cpI1_3 : decode jdk_52_method_21_code 3 = .ok (.iload 5, 2) := by decide +kernel
theorem d_cpI1_5 : decode jdk_52_method_21_code 5 = .ok (.iload 4, 2) := by decide +kernel
theorem d_cpI1_7 : decode jdk_52_method_21_code 7 = .ok (.if_icmp .ge 37, 3) := by decide +kernel
theorem d_cpI1_10 : decode jdk_52_method_21_code 10 = .ok (.aload_n 0, 1) := by decide +kernel
theorem d_cpI1_11 : decode jdk_52_method_21_code 11 = .ok (.iload_n 1, 1) := by decide +kernel
theorem d_cpI1_12 : decode jdk_52_method_21_code 12 = .ok (.caload, 1) := by decide +kernel
theorem d_cpI1_13 : decode jdk_52_method_21_code 13 = .ok (.istore 6, 2) := by decide +kernel
theorem d_cpI1_15 : decode jdk_52_method_21_code 15 = .ok (.iload 6, 2) := by decide +kernel
theorem d_cpI1_17 : decode jdk_52_method_21_code 17 = .ok (.sipush 255, 3) := by decide +kernel
theorem d_cpI1_20 : decode jdk_52_method_21_code 20 = .ok (.if_icmp .le 6, 3) := by decide +kernel
theorem d_cpI1_23 : decode jdk_52_method_21_code 23 = .ok (.iload 5, 2) := by decide +kernel
theorem d_cpI1_25 : decode jdk_52_method_21_code 25 = .ok (.ireturn, 1) := by decide +kernel
theorem d_cpI1_26 : decode jdk_52_method_21_code 26 = .ok (.aload_n 2, 1) := by decide +kernel
theorem d_cpI1_27 : decode jdk_52_method_21_code 27 = .ok (.iload_n 3, 1) := by decide +kernel
theorem d_cpI1_28 : decode jdk_52_method_21_code 28 = .ok (.iload 6, 2) := by decide +kernel
theorem d_cpI1_30 : decode jdk_52_method_21_code 30 = .ok (.i2b, 1) := by decide +kernel
theorem d_cpI1_31 : decode jdk_52_method_21_code 31 = .ok (.bastore, 1) := by decide +kernel
theorem d_cpI1_32 : decode jdk_52_method_21_code 32 = .ok (.iinc 1 1, 3) := by decide +kernel
theorem d_cpI1_35 : decode jdk_52_method_21_code 35 = .ok (.iinc 3 1, 3) := by decide +kernel
theorem d_cpI1_38 : decode jdk_52_method_21_code 38 = .ok (.iinc 5 1, 3) := by decide +kernel
theorem d_cpI1_41 : decode jdk_52_method_21_code 41 = .ok (.goto (-38), 3) := by decide +kernel
theorem ef_cpI1 (m : MethodId) (a0 : Addr) (a2 : Addr) : entryFrame m #[(.ref a0), (.int (0 : Int32)), (.ref a2), (.int (0 : Int32)), (.int (5 : Int32))] 7 = mkF m 0 #[.val (.ref a0), .val (.int (0 : Int32)), .val (.ref a2), .val (.int (0 : Int32)), .val (.int (5 : Int32)), .unset, .unset] [] := by first | (simp [entryFrame, mkF, argsToLocals, Value.category]; done) | rfl
def Q_cpI1 (Z : State) (a0 : Addr) (a2 : Addr) (kc : ClassId) (c0 : Int32) (c1 : Int32) (c2 : Int32) (c3 : Int32) (c4 : Int32) (kb : ClassId) (h0 : Heap) (n0 : Nat) (v : Option Value) (h : Heap) (L : List Loc) : Prop := v = some (.int (1 : Int32)) ∧ Fr n0 L ∧ Keep h0 h [a2] ∧ Exa Z h a2 "[B"
set_option maxRecDepth 65536 in
set_option maxHeartbeats 40000000 in
theorem rm_cpI1 (l : Launch) (Z : State) (aT : Array Value) (hw : ∀ d ∈ tables_1, d.before aT Z = true) (ws : List Jvm.Cond) (a0 : Addr) (a2 : Addr) (kc : ClassId) (c0 : Int32) (c1 : Int32) (c2 : Int32) (c3 : Int32) (c4 : Int32) (kb : ClassId) (h0 : Heap) (n0 : Nat) (Z0 : n0 ≤ h0.size) (hp0 : Arv Z h0 a0 kc .char (5 : Int32) [(.int c0), (.int c1), (.int c2), (.int c3), (.int c4)] (.int (0 : Int32))) (hp1 : Exa Z h0 a2 "[B") (hp2 : Arv Z h0 a2 kb .byte (5 : Int32) [(.int (0 : Int32)), (.int (0 : Int32)), (.int (0 : Int32)), (.int (0 : Int32)), (.int (0 : Int32))] (.int (0 : Int32))) (hp3 : n0 ≤ a2) (hp4 : a0 ≠ a2) (hq0 : ¬ ((255 : Int32) < c0)) (hq1 : (255 : Int32) < c1) :
    MetFree l mN17 (head1 (Jvm.Cond.code mN17 jdk_52_method_21_code 7 (some .int) :: ws) ({ frames := 0, cells := 0, slots := 0, locals := 0 } : Room)) (fun a U => a = #[(.ref a0), (.int (0 : Int32)), (.ref a2), (.int (0 : Int32)), (.int (5 : Int32))] ∧ Z.Warmed39 U.vm ∧ U.heap = h0) (fun _ _ _ _ _ => True) (fun _ U o U' => ∃ v L, o = .returned v ∧ Q_cpI1 Z a0 a2 kc c0 c1 c2 c3 c4 kb h0 n0 v U'.heap L ∧ FrameEnd U o U' L ({ frames := 0, cells := 0, slots := 0, locals := 0 } : Room).cells ({ frames := 0, cells := 0, slots := 0, locals := 0 } : Room).slots) := by
  refine MetFree.of_bodySF (plainFor_of_name pn2) hisR ?_
  intro p e s m args below meth c s₁ Bd hml0 hP hK
  obtain ⟨rfl, hZ, hh⟩ := hP
  have hx := Bd.exec
  have hby := Bd.bytes
  have hml : c.maxLocals = 7 := hml0
  have hown : s.vm.findClass "java/lang/StringUTF16" = some m.cls := findClass_of_methodNamed Bd.named
  have hnm := (name_of_methodNamed Bd.named Bd.method).1
  have hlk := Bd.notSynchronized
  have hrt := Bd.returns
  have X0 : Stand p l e ({ frames := 0, cells := 0, slots := 0, locals := 0 } : Room) s m #[(.ref a0), (.int (0 : Int32)), (.ref a2), (.int (0 : Int32)), (.int (5 : Int32))] below meth c s₁ [] 0 0 := Stand.of_body Bd
  have e0 : s₁.heap = h0 := by rw [← hh, Bd.state]; rfl
  have N0 := Fr.nil n0
  refine own_cast (P := own_End s (Q_cpI1 Z a0 a2 kc c0 c1 c2 c3 c4 kb h0 n0) ({ frames := 0, cells := 0, slots := 0, locals := 0 } : Room).cells ({ frames := 0, cells := 0, slots := 0, locals := 0 } : Room).slots) (ef_cpI1 m a0 a2) ?_
  refine g_iconst X0 hx hby (0 : Int32) d_cpI1_0 (by decide) (rfl : 0 + 1 = 1) ?_
  refine g_istore X0 hx hby #[.val (.ref a0), .val (.int (0 : Int32)), .val (.ref a2), .val (.int (0 : Int32)), .val (.int (5 : Int32)), .val (.int (0 : Int32)), .unset] d_cpI1_1 rfl (rfl : 1 + 2 = 3) ?_
  refine g_iload X0 hx hby d_cpI1_3 rfl (rfl : 3 + 2 = 5) ?_
  refine g_iload X0 hx hby d_cpI1_5 rfl (rfl : 5 + 2 = 7) ?_
  refine g_icF X0 hx hby d_cpI1_7 (tlt (by decide : (0 : Int32) < (5 : Int32))).2.1 (rfl : 7 + 3 = 10) ?_
  refine g_aloadN X0 hx hby d_cpI1_10 rfl rfl (rfl : 10 + 1 = 11) ?_
  refine g_iloadN X0 hx hby d_cpI1_11 rfl (rfl : 11 + 1 = 12) ?_
  refine g_caload X0 hx hby hZ e0 (v := (.int c0)) hp0 ⟨by decide, by decide⟩ rfl d_cpI1_12 (rfl : 12 + 1 = 13) ?_
  refine g_istore X0 hx hby #[.val (.ref a0), .val (.int (0 : Int32)), .val (.ref a2), .val (.int (0 : Int32)), .val (.int (5 : Int32)), .val (.int (0 : Int32)), .val (.int c0)] d_cpI1_13 rfl (rfl : 13 + 2 = 15) ?_
  refine g_iload X0 hx hby d_cpI1_15 rfl (rfl : 15 + 2 = 17) ?_
  refine g_sipush X0 hx hby (255 : Int32) d_cpI1_17 (by decide) (rfl : 17 + 3 = 20) ?_
  refine g_icT X0 hx hby d_cpI1_20 (flt hq0).2.2.2 (by decide) (pc' := 26) (by decide) ?_
  refine g_aloadN X0 hx hby d_cpI1_26 rfl rfl (rfl : 26 + 1 = 27) ?_
  refine g_iloadN X0 hx hby d_cpI1_27 rfl (rfl : 27 + 1 = 28) ?_
  refine g_iload X0 hx hby d_cpI1_28 rfl (rfl : 28 + 2 = 30) ?_
  refine g_i2b X0 hx hby d_cpI1_30 (rfl : 30 + 1 = 31) ?_
  obtain ⟨T117, h117, X117, e117, W117, V117, st117⟩ := a_bastore X0 hx hby hZ e0 (ls := #[.val (.ref a0), .val (.int (0 : Int32)), .val (.ref a2), .val (.int (0 : Int32)), .val (.int (5 : Int32)), .val (.int (0 : Int32)), .val (.int c0)]) (st := []) (j := (0 : Int32)) (c0.toInt8.toInt32) 0 hp2 ⟨by decide, by decide⟩ (by decide) (Nat.le_of_ble_eq_true rfl) d_cpI1_31
  have Z117 : n0 ≤ h117.size := Nat.le_trans Z0 (Keep.of_wr W117).1
  have N117 := Fr.snoc X117 N0 hp3
  have K117 : Keep h0 h117 [a2] := (Keep.refl h0 [a2]).wr W117 (Or.inl (List.mem_of_getElem? (i := 0) rfl))
  have V117' : Arv Z h117 a2 kb .byte (5 : Int32) [(.int (c0.toInt8.toInt32)), (.int (0 : Int32)), (.int (0 : Int32)), (.int (0 : Int32)), (.int (0 : Int32))] (.int (0 : Int32)) := by have q := V117; rw [own_nb] at q; exact q
  refine own_go st117 ?_
  show own_Got p e below _ T117 (mkF m 32 #[.val (.ref a0), .val (.int (0 : Int32)), .val (.ref a2), .val (.int (0 : Int32)), .val (.int (5 : Int32)), .val (.int (0 : Int32)), .val (.int c0)] [])
  refine g_iinc X117 hx hby #[.val (.ref a0), .val (.int ((0 : Int32) + (1 : Int32))), .val (.ref a2), .val (.int (0 : Int32)), .val (.int (5 : Int32)), .val (.int (0 : Int32)), .val (.int c0)] d_cpI1_32 rfl rfl (rfl : 32 + 3 = 35) ?_
  rw [(by decide : ((0 : Int32) + (1 : Int32)) = (1 : Int32))]
  refine g_iinc X117 hx hby #[.val (.ref a0), .val (.int (1 : Int32)), .val (.ref a2), .val (.int ((0 : Int32) + (1 : Int32))), .val (.int (5 : Int32)), .val (.int (0 : Int32)), .val (.int c0)] d_cpI1_35 rfl rfl (rfl : 35 + 3 = 38) ?_
  rw [(by decide : ((0 : Int32) + (1 : Int32)) = (1 : Int32))]
  refine g_iinc X117 hx hby #[.val (.ref a0), .val (.int (1 : Int32)), .val (.ref a2), .val (.int (1 : Int32)), .val (.int (5 : Int32)), .val (.int ((0 : Int32) + (1 : Int32))), .val (.int c0)] d_cpI1_38 rfl rfl (rfl : 38 + 3 = 41) ?_
  rw [(by decide : ((0 : Int32) + (1 : Int32)) = (1 : Int32))]
  refine g_goto X117 hx hby d_cpI1_41 (by decide) (pc' := 3) (by decide) ?_
  refine g_iload X117 hx hby d_cpI1_3 rfl (rfl : 3 + 2 = 5) ?_
  refine g_iload X117 hx hby d_cpI1_5 rfl (rfl : 5 + 2 = 7) ?_
  refine g_icF X117 hx hby d_cpI1_7 (tlt (by decide : (1 : Int32) < (5 : Int32))).2.1 (rfl : 7 + 3 = 10) ?_
  refine g_aloadN X117 hx hby d_cpI1_10 rfl rfl (rfl : 10 + 1 = 11) ?_
  refine g_iloadN X117 hx hby d_cpI1_11 rfl (rfl : 11 + 1 = 12) ?_
  have f118 : Arv Z h117 a0 kc .char (5 : Int32) [(.int c0), (.int c1), (.int c2), (.int c3), (.int c4)] (.int (0 : Int32)) := (Arv.other hp0 W117 hp4)
  refine g_caload X117 hx hby hZ e117 (v := (.int c1)) f118 ⟨by decide, by decide⟩ rfl d_cpI1_12 (rfl : 12 + 1 = 13) ?_
  refine g_istore X117 hx hby #[.val (.ref a0), .val (.int (1 : Int32)), .val (.ref a2), .val (.int (1 : Int32)), .val (.int (5 : Int32)), .val (.int (1 : Int32)), .val (.int c1)] d_cpI1_13 rfl (rfl : 13 + 2 = 15) ?_
  refine g_iload X117 hx hby d_cpI1_15 rfl (rfl : 15 + 2 = 17) ?_
  refine g_sipush X117 hx hby (255 : Int32) d_cpI1_17 (by decide) (rfl : 17 + 3 = 20) ?_
  refine g_icF X117 hx hby d_cpI1_20 (tlt hq1).2.2.2 (rfl : 20 + 3 = 23) ?_
  refine g_iload X117 hx hby d_cpI1_23 rfl (rfl : 23 + 2 = 25) ?_
  have f119 : Exa Z h117 a2 "[B" := (Exa.wr W117 hp1)
  refine own_retI X117 hx hby hlk hrt d_cpI1_25 (by decide) (by decide) ?_
  show Q_cpI1 Z a0 a2 kc c0 c1 c2 c3 c4 kb h0 n0 _ T117.heap _
  rw [e117]
  exact ⟨rfl, N117, K117, f119⟩
theorem d_cpI2_0 : decode jdk_52_method_21_code 0 = .ok (.iconst 0, 1) := by decide +kernel
theorem d_cpI2_1 : decode jdk_52_method_21_code 1 = .ok (.istore 5, 2) := by decide +kernel
theorem d_cpI2_3 : decode jdk_52_method_21_code 3 = .ok (.iload 5, 2) := by decide +kernel
theorem d_cpI2_5 : decode jdk_52_method_21_code 5 = .ok (.iload 4, 2) := by decide +kernel
theorem d_cpI2_7 : decode jdk_52_method_21_code 7 = .ok (.if_icmp .ge 37, 3) := by decide +kernel
theorem d_cpI2_10 : decode jdk_52_method_21_code 10 = .ok (.aload_n 0, 1) := by decide +kernel
theorem d_cpI2_11 : decode jdk_52_method_21_code 11 = .ok (.iload_n 1, 1) := by decide +kernel
theorem d_cpI2_12 : decode jdk_52_method_21_code 12 = .ok (.caload, 1) := by decide +kernel
theorem d_cpI2_13 : decode jdk_52_method_21_code 13 = .ok (.istore 6, 2) := by decide +kernel
theorem d_cpI2_15 : decode jdk_52_method_21_code 15 = .ok (.iload 6, 2) := by decide +kernel
theorem d_cpI2_17 : decode jdk_52_method_21_code 17 = .ok (.sipush 255, 3) := by decide +kernel
theorem d_cpI2_20 : decode jdk_52_method_21_code 20 = .ok (.if_icmp .le 6, 3) := by decide +kernel
theorem d_cpI2_23 : decode jdk_52_method_21_code 23 = .ok (.iload 5, 2) := by decide +kernel
theorem d_cpI2_25 : decode jdk_52_method_21_code 25 = .ok (.ireturn, 1) := by decide +kernel
theorem d_cpI2_26 : decode jdk_52_method_21_code 26 = .ok (.aload_n 2, 1) := by decide +kernel
theorem d_cpI2_27 : decode jdk_52_method_21_code 27 = .ok (.iload_n 3, 1) := by decide +kernel
theorem d_cpI2_28 : decode jdk_52_method_21_code 28 = .ok (.iload 6, 2) := by decide +kernel
theorem d_cpI2_30 : decode jdk_52_method_21_code 30 = .ok (.i2b, 1) := by decide +kernel
theorem d_cpI2_31 : decode jdk_52_method_21_code 31 = .ok (.bastore, 1) := by decide +kernel
theorem d_cpI2_32 : decode jdk_52_method_21_code 32 = .ok (.iinc 1 1, 3) := by decide +kernel
theorem d_cpI2_35 : decode jdk_52_method_21_code 35 = .ok (.iinc 3 1, 3) := by decide +kernel
theorem d_cpI2_38 : decode jdk_52_method_21_code 38 = .ok (.iinc 5 1, 3) := by decide +kernel
theorem d_cpI2_41 : decode jdk_52_method_21_code 41 = .ok (.goto (-38), 3) := by decide +kernel
theorem ef_cpI2 (m : MethodId) (a0 : Addr) (a2 : Addr) : entryFrame m #[(.ref a0), (.int (0 : Int32)), (.ref a2), (.int (0 : Int32)), (.int (5 : Int32))] 7 = mkF m 0 #[.val (.ref a0), .val (.int (0 : Int32)), .val (.ref a2), .val (.int (0 : Int32)), .val (.int (5 : Int32)), .unset, .unset] [] := by first | (simp [entryFrame, mkF, argsToLocals, Value.category]; done) | rfl
def Q_cpI2 (Z : State) (a0 : Addr) (a2 : Addr) (kc : ClassId) (c0 : Int32) (c1 : Int32) (c2 : Int32) (c3 : Int32) (c4 : Int32) (kb : ClassId) (h0 : Heap) (n0 : Nat) (v : Option Value) (h : Heap) (L : List Loc) : Prop := v = some (.int (2 : Int32)) ∧ Fr n0 L ∧ Keep h0 h [a2] ∧ Exa Z h a2 "[B"
set_option maxRecDepth 65536 in
set_option maxHeartbeats 40000000 in
theorem rm_cpI2 (l : Launch) (Z : State) (aT : Array Value) (hw : ∀ d ∈ tables_1, d.before aT Z = true) (ws : List Jvm.Cond) (a0 : Addr) (a2 : Addr) (kc : ClassId) (c0 : Int32) (c1 : Int32) (c2 : Int32) (c3 : Int32) (c4 : Int32) (kb : ClassId) (h0 : Heap) (n0 : Nat) (Z0 : n0 ≤ h0.size) (hp0 : Arv Z h0 a0 kc .char (5 : Int32) [(.int c0), (.int c1), (.int c2), (.int c3), (.int c4)] (.int (0 : Int32))) (hp1 : Exa Z h0 a2 "[B") (hp2 : Arv Z h0 a2 kb .byte (5 : Int32) [(.int (0 : Int32)), (.int (0 : Int32)), (.int (0 : Int32)), (.int (0 : Int32)), (.int (0 : Int32))] (.int (0 : Int32))) (hp3 : n0 ≤ a2) (hp4 : a0 ≠ a2) (hq0 : ¬ ((255 : Int32) < c0)) (hq1 : ¬ ((255 : Int32) < c1)) (hq2 : (255 : Int32) < c2) :
    MetFree l mN17 (head1 (Jvm.Cond.code mN17 jdk_52_method_21_code 7 (some .int) :: ws) ({ frames := 0, cells := 0, slots := 0, locals := 0 } : Room)) (fun a U => a = #[(.ref a0), (.int (0 : Int32)), (.ref a2), (.int (0 : Int32)), (.int (5 : Int32))] ∧ Z.Warmed39 U.vm ∧ U.heap = h0) (fun _ _ _ _ _ => True) (fun _ U o U' => ∃ v L, o = .returned v ∧ Q_cpI2 Z a0 a2 kc c0 c1 c2 c3 c4 kb h0 n0 v U'.heap L ∧ FrameEnd U o U' L ({ frames := 0, cells := 0, slots := 0, locals := 0 } : Room).cells ({ frames := 0, cells := 0, slots := 0, locals := 0 } : Room).slots) := by
  refine MetFree.of_bodySF (plainFor_of_name pn2) hisR ?_
  intro p e s m args below meth c s₁ Bd hml0 hP hK
  obtain ⟨rfl, hZ, hh⟩ := hP
  have hx := Bd.exec
  have hby := Bd.bytes
  have hml : c.maxLocals = 7 := hml0
  have hown : s.vm.findClass "java/lang/StringUTF16" = some m.cls := findClass_of_methodNamed Bd.named
  have hnm := (name_of_methodNamed Bd.named Bd.method).1
  have hlk := Bd.notSynchronized
  have hrt := Bd.returns
  have X0 : Stand p l e ({ frames := 0, cells := 0, slots := 0, locals := 0 } : Room) s m #[(.ref a0), (.int (0 : Int32)), (.ref a2), (.int (0 : Int32)), (.int (5 : Int32))] below meth c s₁ [] 0 0 := Stand.of_body Bd
  have e0 : s₁.heap = h0 := by rw [← hh, Bd.state]; rfl
  have N0 := Fr.nil n0
  refine own_cast (P := own_End s (Q_cpI2 Z a0 a2 kc c0 c1 c2 c3 c4 kb h0 n0) ({ frames := 0, cells := 0, slots := 0, locals := 0 } : Room).cells ({ frames := 0, cells := 0, slots := 0, locals := 0 } : Room).slots) (ef_cpI2 m a0 a2) ?_
  refine g_iconst X0 hx hby (0 : Int32) d_cpI2_0 (by decide) (rfl : 0 + 1 = 1) ?_
  refine g_istore X0 hx hby #[.val (.ref a0), .val (.int (0 : Int32)), .val (.ref a2), .val (.int (0 : Int32)), .val (.int (5 : Int32)), .val (.int (0 : Int32)), .unset] d_cpI2_1 rfl (rfl : 1 + 2 = 3) ?_
  refine g_iload X0 hx hby d_cpI2_3 rfl (rfl : 3 + 2 = 5) ?_
  refine g_iload X0 hx hby d_cpI2_5 rfl (rfl : 5 + 2 = 7) ?_
  refine g_icF X0 hx hby d_cpI2_7 (tlt (by decide : (0 : Int32) < (5 : Int32))).2.1 (rfl : 7 + 3 = 10) ?_
  refine g_aloadN X0 hx hby d_cpI2_10 rfl rfl (rfl : 10 + 1 = 11) ?_
  refine g_iloadN X0 hx hby d_cpI2_11 rfl (rfl : 11 + 1 = 12) ?_
  refine g_caload X0 hx hby hZ e0 (v := (.int c0)) hp0 ⟨by decide, by decide⟩ rfl d_cpI2_12 (rfl : 12 + 1 = 13) ?_
  refine g_istore X0 hx hby #[.val (.ref a0), .val (.int (0 : Int32)), .val (.ref a2), .val (.int (0 : Int32)), .val (.int (5 : Int32)), .val (.int (0 : Int32)), .val (.int c0)] d_cpI2_13 rfl (rfl : 13 + 2 = 15) ?_
  refine g_iload X0 hx hby d_cpI2_15 rfl (rfl : 15 + 2 = 17) ?_
  refine g_sipush X0 hx hby (255 : Int32) d_cpI2_17 (by decide) (rfl : 17 + 3 = 20) ?_
  refine g_icT X0 hx hby d_cpI2_20 (flt hq0).2.2.2 (by decide) (pc' := 26) (by decide) ?_
  refine g_aloadN X0 hx hby d_cpI2_26 rfl rfl (rfl : 26 + 1 = 27) ?_
  refine g_iloadN X0 hx hby d_cpI2_27 rfl (rfl : 27 + 1 = 28) ?_
  refine g_iload X0 hx hby d_cpI2_28 rfl (rfl : 28 + 2 = 30) ?_
  refine g_i2b X0 hx hby d_cpI2_30 (rfl : 30 + 1 = 31) ?_
  obtain ⟨T120, h120, X120, e120, W120, V120, st120⟩ := a_bastore X0 hx hby hZ e0 (ls := #[.val (.ref a0), .val (.int (0 : Int32)), .val (.ref a2), .val (.int (0 : Int32)), .val (.int (5 : Int32)), .val (.int (0 : Int32)), .val (.int c0)]) (st := []) (j := (0 : Int32)) (c0.toInt8.toInt32) 0 hp2 ⟨by decide, by decide⟩ (by decide) (Nat.le_of_ble_eq_true rfl) d_cpI2_31
  have Z120 : n0 ≤ h120.size := Nat.le_trans Z0 (Keep.of_wr W120).1
  have N120 := Fr.snoc X120 N0 hp3
  have K120 : Keep h0 h120 [a2] := (Keep.refl h0 [a2]).wr W120 (Or.inl (List.mem_of_getElem? (i := 0) rfl))
  have V120' : Arv Z h120 a2 kb .byte (5 : Int32) [(.int (c0.toInt8.toInt32)), (.int (0 : Int32)), (.int (0 : Int32)), (.int (0 : Int32)), (.int (0 : Int32))] (.int (0 : Int32)) := by have q := V120; rw [own_nb] at q; exact q
  refine own_go st120 ?_
  show own_Got p e below _ T120 (mkF m 32 #[.val (.ref a0), .val (.int (0 : Int32)), .val (.ref a2), .val (.int (0 : Int32)), .val (.int (5 : Int32)), .val (.int (0 : Int32)), .val (.int c0)] [])
  refine g_iinc X120 hx hby #[.val (.ref a0), .val (.int ((0 : Int32) + (1 : Int32))), .val (.ref a2), .val (.int (0 : Int32)), .val (.int (5 : Int32)), .val (.int (0 : Int32)), .val (.int c0)] d_cpI2_32 rfl rfl (rfl : 32 + 3 = 35) ?_
  rw [(by decide : ((0 : Int32) + (1 : Int32)) = (1 : Int32))]
  refine g_iinc X120 hx hby #[.val (.ref a0), .val (.int (1 : Int32)), .val (.ref a2), .val (.int ((0 : Int32) + (1 : Int32))), .val (.int (5 : Int32)), .val (.int (0 : Int32)), .val (.int c0)] d_cpI2_35 rfl rfl (rfl : 35 + 3 = 38) ?_
  rw [(by decide : ((0 : Int32) + (1 : Int32)) = (1 : Int32))]
  refine g_iinc X120 hx hby #[.val (.ref a0), .val (.int (1 : Int32)), .val (.ref a2), .val (.int (1 : Int32)), .val (.int (5 : Int32)), .val (.int ((0 : Int32) + (1 : Int32))), .val (.int c0)] d_cpI2_38 rfl rfl (rfl : 38 + 3 = 41) ?_
  rw [(by decide : ((0 : Int32) + (1 : Int32)) = (1 : Int32))]
  refine g_goto X120 hx hby d_cpI2_41 (by decide) (pc' := 3) (by decide) ?_
  refine g_iload X120 hx hby d_cpI2_3 rfl (rfl : 3 + 2 = 5) ?_
  refine g_iload X120 hx hby d_cpI2_5 rfl (rfl : 5 + 2 = 7) ?_
  refine g_icF X120 hx hby d_cpI2_7 (tlt (by decide : (1 : Int32) < (5 : Int32))).2.1 (rfl : 7 + 3 = 10) ?_
  refine g_aloadN X120 hx hby d_cpI2_10 rfl rfl (rfl : 10 + 1 = 11) ?_
  refine g_iloadN X120 hx hby d_cpI2_11 rfl (rfl : 11 + 1 = 12) ?_
  have f121 : Arv Z h120 a0 kc .char (5 : Int32) [(.int c0), (.int c1), (.int c2), (.int c3), (.int c4)] (.int (0 : Int32)) := (Arv.other hp0 W120 hp4)
  refine g_caload X120 hx hby hZ e120 (v := (.int c1)) f121 ⟨by decide, by decide⟩ rfl d_cpI2_12 (rfl : 12 + 1 = 13) ?_
  refine g_istore X120 hx hby #[.val (.ref a0), .val (.int (1 : Int32)), .val (.ref a2), .val (.int (1 : Int32)), .val (.int (5 : Int32)), .val (.int (1 : Int32)), .val (.int c1)] d_cpI2_13 rfl (rfl : 13 + 2 = 15) ?_
  refine g_iload X120 hx hby d_cpI2_15 rfl (rfl : 15 + 2 = 17) ?_
  refine g_sipush X120 hx hby (255 : Int32) d_cpI2_17 (by decide) (rfl : 17 + 3 = 20) ?_
  refine g_icT X120 hx hby d_cpI2_20 (flt hq1).2.2.2 (by decide) (pc' := 26) (by decide) ?_
  refine g_aloadN X120 hx hby d_cpI2_26 rfl rfl (rfl : 26 + 1 = 27) ?_
  refine g_iloadN X120 hx hby d_cpI2_27 rfl (rfl : 27 + 1 = 28) ?_
  refine g_iload X120 hx hby d_cpI2_28 rfl (rfl : 28 + 2 = 30) ?_
  refine g_i2b X120 hx hby d_cpI2_30 (rfl : 30 + 1 = 31) ?_
  obtain ⟨T122, h122, X122, e122, W122, V122, st122⟩ := a_bastore X120 hx hby hZ e120 (ls := #[.val (.ref a0), .val (.int (1 : Int32)), .val (.ref a2), .val (.int (1 : Int32)), .val (.int (5 : Int32)), .val (.int (1 : Int32)), .val (.int c1)]) (st := []) (j := (1 : Int32)) (c1.toInt8.toInt32) 1 V120' ⟨by decide, by decide⟩ (by decide) (Nat.le_of_ble_eq_true rfl) d_cpI2_31
  have Z122 : n0 ≤ h122.size := Nat.le_trans Z120 (Keep.of_wr W122).1
  have N122 := Fr.snoc X122 N120 hp3
  have K122 : Keep h0 h122 [a2] := K120.wr W122 (Or.inl (List.mem_of_getElem? (i := 0) rfl))
  have V122' : Arv Z h122 a2 kb .byte (5 : Int32) [(.int (c0.toInt8.toInt32)), (.int (c1.toInt8.toInt32)), (.int (0 : Int32)), (.int (0 : Int32)), (.int (0 : Int32))] (.int (0 : Int32)) := by have q := V122; rw [own_nb] at q; exact q
  refine own_go st122 ?_
  show own_Got p e below _ T122 (mkF m 32 #[.val (.ref a0), .val (.int (1 : Int32)), .val (.ref a2), .val (.int (1 : Int32)), .val (.int (5 : Int32)), .val (.int (1 : Int32)), .val (.int c1)] [])
  refine g_iinc X122 hx hby #[.val (.ref a0), .val (.int ((1 : Int32) + (1 : Int32))), .val (.ref a2), .val (.int (1 : Int32)), .val (.int (5 : Int32)), .val (.int (1 : Int32)), .val (.int c1)] d_cpI2_32 rfl rfl (rfl : 32 + 3 = 35) ?_
  rw [(by decide : ((1 : Int32) + (1 : Int32)) = (2 : Int32))]
  refine g_iinc X122 hx hby #[.val (.ref a0), .val (.int (2 : Int32)), .val (.ref a2), .val (.int ((1 : Int32) + (1 : Int32))), .val (.int (5 : Int32)), .val (.int (1 : Int32)), .val (.int c1)] d_cpI2_35 rfl rfl (rfl : 35 + 3 = 38) ?_
  rw [(by decide : ((1 : Int32) + (1 : Int32)) = (2 : Int32))]
  refine g_iinc X122 hx hby #[.val (.ref a0), .val (.int (2 : Int32)), .val (.ref a2), .val (.int (2 : Int32)), .val (.int (5 : Int32)), .val (.int ((1 : Int32) + (1 : Int32))), .val (.int c1)] d_cpI2_38 rfl rfl (rfl : 38 + 3 = 41) ?_
  rw [(by decide : ((1 : Int32) + (1 : Int32)) = (2 : Int32))]
  refine g_goto X122 hx hby d_cpI2_41 (by decide) (pc' := 3) (by decide) ?_
  refine g_iload X122 hx hby d_cpI2_3 rfl (rfl : 3 + 2 = 5) ?_
  refine g_iload X122 hx hby d_cpI2_5 rfl (rfl : 5 + 2 = 7) ?_
  refine g_icF X122 hx hby d_cpI2_7 (tlt (by decide : (2 : Int32) < (5 : Int32))).2.1 (rfl : 7 + 3 = 10) ?_
  refine g_aloadN X122 hx hby d_cpI2_10 rfl rfl (rfl : 10 + 1 = 11) ?_
  refine g_iloadN X122 hx hby d_cpI2_11 rfl (rfl : 11 + 1 = 12) ?_
  have f123 : Arv Z h122 a0 kc .char (5 : Int32) [(.int c0), (.int c1), (.int c2), (.int c3), (.int c4)] (.int (0 : Int32)) := (Arv.other f121 W122 hp4)
  refine g_caload X122 hx hby hZ e122 (v := (.int c2)) f123 ⟨by decide, by decide⟩ rfl d_cpI2_12 (rfl : 12 + 1 = 13) ?_
  refine g_istore X122 hx hby #[.val (.ref a0), .val (.int (2 : Int32)), .val (.ref a2), .val (.int (2 : Int32)), .val (.int (5 : Int32)), .val (.int (2 : Int32)), .val (.int c2)] d_cpI2_13 rfl (rfl : 13 + 2 = 15) ?_
  refine g_iload X122 hx hby d_cpI2_15 rfl (rfl : 15 + 2 = 17) ?_
  refine g_sipush X122 hx hby (255 : Int32) d_cpI2_17 (by decide) (rfl : 17 + 3 = 20) ?_
  refine g_icF X122 hx hby d_cpI2_20 (tlt hq2).2.2.2 (rfl : 20 + 3 = 23) ?_
  refine g_iload X122 hx hby d_cpI2_23 rfl (rfl : 23 + 2 = 25) ?_
  have f124 : Exa Z h122 a2 "[B" := (Exa.wr W122 (Exa.wr W120 hp1))
  refine own_retI X122 hx hby hlk hrt d_cpI2_25 (by decide) (by decide) ?_
  show Q_cpI2 Z a0 a2 kc c0 c1 c2 c3 c4 kb h0 n0 _ T122.heap _
  rw [e122]
  exact ⟨rfl, N122, K122, f124⟩
theorem d_cpI3_0 : decode jdk_52_method_21_code 0 = .ok (.iconst 0, 1) := by decide +kernel
theorem d_cpI3_1 : decode jdk_52_method_21_code 1 = .ok (.istore 5, 2) := by decide +kernel
theorem d_cpI3_3 : decode jdk_52_method_21_code 3 = .ok (.iload 5, 2) := by decide +kernel
theorem d_cpI3_5 : decode jdk_52_method_21_code 5 = .ok (.iload 4, 2) := by decide +kernel
theorem d_cpI3_7 : decode jdk_52_method_21_code 7 = .ok (.if_icmp .ge 37, 3) := by decide +kernel
theorem d_cpI3_10 : decode jdk_52_method_21_code 10 = .ok (.aload_n 0, 1) := by decide +kernel
theorem d_cpI3_11 : decode jdk_52_method_21_code 11 = .ok (.iload_n 1, 1) := by decide +kernel
theorem d_cpI3_12 : decode jdk_52_method_21_code 12 = .ok (.caload, 1) := by decide +kernel
theorem d_cpI3_13 : decode jdk_52_method_21_code 13 = .ok (.istore 6, 2) := by decide +kernel
theorem d_cpI3_15 : decode jdk_52_method_21_code 15 = .ok (.iload 6, 2) := by decide +kernel
theorem d_cpI3_17 : decode jdk_52_method_21_code 17 = .ok (.sipush 255, 3) := by decide +kernel
theorem d_cpI3_20 : decode jdk_52_method_21_code 20 = .ok (.if_icmp .le 6, 3) := by decide +kernel
theorem d_cpI3_23 : decode jdk_52_method_21_code 23 = .ok (.iload 5, 2) := by decide +kernel
theorem d_cpI3_25 : decode jdk_52_method_21_code 25 = .ok (.ireturn, 1) := by decide +kernel
theorem d_cpI3_26 : decode jdk_52_method_21_code 26 = .ok (.aload_n 2, 1) := by decide +kernel
theorem d_cpI3_27 : decode jdk_52_method_21_code 27 = .ok (.iload_n 3, 1) := by decide +kernel
theorem d_cpI3_28 : decode jdk_52_method_21_code 28 = .ok (.iload 6, 2) := by decide +kernel
theorem d_cpI3_30 : decode jdk_52_method_21_code 30 = .ok (.i2b, 1) := by decide +kernel
theorem d_cpI3_31 : decode jdk_52_method_21_code 31 = .ok (.bastore, 1) := by decide +kernel
theorem d_cpI3_32 : decode jdk_52_method_21_code 32 = .ok (.iinc 1 1, 3) := by decide +kernel
theorem d_cpI3_35 : decode jdk_52_method_21_code 35 = .ok (.iinc 3 1, 3) := by decide +kernel
theorem d_cpI3_38 : decode jdk_52_method_21_code 38 = .ok (.iinc 5 1, 3) := by decide +kernel
theorem d_cpI3_41 : decode jdk_52_method_21_code 41 = .ok (.goto (-38), 3) := by decide +kernel
theorem ef_cpI3 (m : MethodId) (a0 : Addr) (a2 : Addr) : entryFrame m #[(.ref a0), (.int (0 : Int32)), (.ref a2), (.int (0 : Int32)), (.int (5 : Int32))] 7 = mkF m 0 #[.val (.ref a0), .val (.int (0 : Int32)), .val (.ref a2), .val (.int (0 : Int32)), .val (.int (5 : Int32)), .unset, .unset] [] := by first | (simp [entryFrame, mkF, argsToLocals, Value.category]; done) | rfl
def Q_cpI3 (Z : State) (a0 : Addr) (a2 : Addr) (kc : ClassId) (c0 : Int32) (c1 : Int32) (c2 : Int32) (c3 : Int32) (c4 : Int32) (kb : ClassId) (h0 : Heap) (n0 : Nat) (v : Option Value) (h : Heap) (L : List Loc) : Prop := v = some (.int (3 : Int32)) ∧ Fr n0 L ∧ Keep h0 h [a2] ∧ Exa Z h a2 "[B"
set_option maxRecDepth 65536 in
set_option maxHeartbeats 40000000 in
theorem rm_cpI3 (l : Launch) (Z : State) (aT : Array Value) (hw : ∀ d ∈ tables_1, d.before aT Z = true) (ws : List Jvm.Cond) (a0 : Addr) (a2 : Addr) (kc : ClassId) (c0 : Int32) (c1 : Int32) (c2 : Int32) (c3 : Int32) (c4 : Int32) (kb : ClassId) (h0 : Heap) (n0 : Nat) (Z0 : n0 ≤ h0.size) (hp0 : Arv Z h0 a0 kc .char (5 : Int32) [(.int c0), (.int c1), (.int c2), (.int c3), (.int c4)] (.int (0 : Int32))) (hp1 : Exa Z h0 a2 "[B") (hp2 : Arv Z h0 a2 kb .byte (5 : Int32) [(.int (0 : Int32)), (.int (0 : Int32)), (.int (0 : Int32)), (.int (0 : Int32)), (.int (0 : Int32))] (.int (0 : Int32))) (hp3 : n0 ≤ a2) (hp4 : a0 ≠ a2) (hq0 : ¬ ((255 : Int32) < c0)) (hq1 : ¬ ((255 : Int32) < c1)) (hq2 : ¬ ((255 : Int32) < c2)) (hq3 : (255 : Int32) < c3) :
    MetFree l mN17 (head1 (Jvm.Cond.code mN17 jdk_52_method_21_code 7 (some .int) :: ws) ({ frames := 0, cells := 0, slots := 0, locals := 0 } : Room)) (fun a U => a = #[(.ref a0), (.int (0 : Int32)), (.ref a2), (.int (0 : Int32)), (.int (5 : Int32))] ∧ Z.Warmed39 U.vm ∧ U.heap = h0) (fun _ _ _ _ _ => True) (fun _ U o U' => ∃ v L, o = .returned v ∧ Q_cpI3 Z a0 a2 kc c0 c1 c2 c3 c4 kb h0 n0 v U'.heap L ∧ FrameEnd U o U' L ({ frames := 0, cells := 0, slots := 0, locals := 0 } : Room).cells ({ frames := 0, cells := 0, slots := 0, locals := 0 } : Room).slots) := by
  refine MetFree.of_bodySF (plainFor_of_name pn2) hisR ?_
  intro p e s m args below meth c s₁ Bd hml0 hP hK
  obtain ⟨rfl, hZ, hh⟩ := hP
  have hx := Bd.exec
  have hby := Bd.bytes
  have hml : c.maxLocals = 7 := hml0
  have hown : s.vm.findClass "java/lang/StringUTF16" = some m.cls := findClass_of_methodNamed Bd.named
  have hnm := (name_of_methodNamed Bd.named Bd.method).1
  have hlk := Bd.notSynchronized
  have hrt := Bd.returns
  have X0 : Stand p l e ({ frames := 0, cells := 0, slots := 0, locals := 0 } : Room) s m #[(.ref a0), (.int (0 : Int32)), (.ref a2), (.int (0 : Int32)), (.int (5 : Int32))] below meth c s₁ [] 0 0 := Stand.of_body Bd
  have e0 : s₁.heap = h0 := by rw [← hh, Bd.state]; rfl
  have N0 := Fr.nil n0
  refine own_cast (P := own_End s (Q_cpI3 Z a0 a2 kc c0 c1 c2 c3 c4 kb h0 n0) ({ frames := 0, cells := 0, slots := 0, locals := 0 } : Room).cells ({ frames := 0, cells := 0, slots := 0, locals := 0 } : Room).slots) (ef_cpI3 m a0 a2) ?_
  refine g_iconst X0 hx hby (0 : Int32) d_cpI3_0 (by decide) (rfl : 0 + 1 = 1) ?_
  refine g_istore X0 hx hby #[.val (.ref a0), .val (.int (0 : Int32)), .val (.ref a2), .val (.int (0 : Int32)), .val (.int (5 : Int32)), .val (.int (0 : Int32)), .unset] d_cpI3_1 rfl (rfl : 1 + 2 = 3) ?_
  refine g_iload X0 hx hby d_cpI3_3 rfl (rfl : 3 + 2 = 5) ?_
  refine g_iload X0 hx hby d_cpI3_5 rfl (rfl : 5 + 2 = 7) ?_
  refine g_icF X0 hx hby d_cpI3_7 (tlt (by decide : (0 : Int32) < (5 : Int32))).2.1 (rfl : 7 + 3 = 10) ?_
  refine g_aloadN X0 hx hby d_cpI3_10 rfl rfl (rfl : 10 + 1 = 11) ?_
  refine g_iloadN X0 hx hby d_cpI3_11 rfl (rfl : 11 + 1 = 12) ?_
  refine g_caload X0 hx hby hZ e0 (v := (.int c0)) hp0 ⟨by decide, by decide⟩ rfl d_cpI3_12 (rfl : 12 + 1 = 13) ?_
  refine g_istore X0 hx hby #[.val (.ref a0), .val (.int (0 : Int32)), .val (.ref a2), .val (.int (0 : Int32)), .val (.int (5 : Int32)), .val (.int (0 : Int32)), .val (.int c0)] d_cpI3_13 rfl (rfl : 13 + 2 = 15) ?_
  refine g_iload X0 hx hby d_cpI3_15 rfl (rfl : 15 + 2 = 17) ?_
  refine g_sipush X0 hx hby (255 : Int32) d_cpI3_17 (by decide) (rfl : 17 + 3 = 20) ?_
  refine g_icT X0 hx hby d_cpI3_20 (flt hq0).2.2.2 (by decide) (pc' := 26) (by decide) ?_
  refine g_aloadN X0 hx hby d_cpI3_26 rfl rfl (rfl : 26 + 1 = 27) ?_
  refine g_iloadN X0 hx hby d_cpI3_27 rfl (rfl : 27 + 1 = 28) ?_
  refine g_iload X0 hx hby d_cpI3_28 rfl (rfl : 28 + 2 = 30) ?_
  refine g_i2b X0 hx hby d_cpI3_30 (rfl : 30 + 1 = 31) ?_
  obtain ⟨T125, h125, X125, e125, W125, V125, st125⟩ := a_bastore X0 hx hby hZ e0 (ls := #[.val (.ref a0), .val (.int (0 : Int32)), .val (.ref a2), .val (.int (0 : Int32)), .val (.int (5 : Int32)), .val (.int (0 : Int32)), .val (.int c0)]) (st := []) (j := (0 : Int32)) (c0.toInt8.toInt32) 0 hp2 ⟨by decide, by decide⟩ (by decide) (Nat.le_of_ble_eq_true rfl) d_cpI3_31
  have Z125 : n0 ≤ h125.size := Nat.le_trans Z0 (Keep.of_wr W125).1
  have N125 := Fr.snoc X125 N0 hp3
  have K125 : Keep h0 h125 [a2] := (Keep.refl h0 [a2]).wr W125 (Or.inl (List.mem_of_getElem? (i := 0) rfl))
  have V125' : Arv Z h125 a2 kb .byte (5 : Int32) [(.int (c0.toInt8.toInt32)), (.int (0 : Int32)), (.int (0 : Int32)), (.int (0 : Int32)), (.int (0 : Int32))] (.int (0 : Int32)) := by have q := V125; rw [own_nb] at q; exact q
  refine own_go st125 ?_
  show own_Got p e below _ T125 (mkF m 32 #[.val (.ref a0), .val (.int (0 : Int32)), .val (.ref a2), .val (.int (0 : Int32)), .val (.int (5 : Int32)), .val (.int (0 : Int32)), .val (.int c0)] [])
  refine g_iinc X125 hx hby #[.val (.ref a0), .val (.int ((0 : Int32) + (1 : Int32))), .val (.ref a2), .val (.int (0 : Int32)), .val (.int (5 : Int32)), .val (.int (0 : Int32)), .val (.int c0)] d_cpI3_32 rfl rfl (rfl : 32 + 3 = 35) ?_
  rw [(by decide : ((0 : Int32) + (1 : Int32)) = (1 : Int32))]
  refine g_iinc X125 hx hby #[.val (.ref a0), .val (.int (1 : Int32)), .val (.ref a2), .val (.int ((0 : Int32) + (1 : Int32))), .val (.int (5 : Int32)), .val (.int (0 : Int32)), .val (.int c0)] d_cpI3_35 rfl rfl (rfl : 35 + 3 = 38) ?_
  rw [(by decide : ((0 : Int32) + (1 : Int32)) = (1 : Int32))]
  refine g_iinc X125 hx hby #[.val (.ref a0), .val (.int (1 : Int32)), .val (.ref a2), .val (.int (1 : Int32)), .val (.int (5 : Int32)), .val (.int ((0 : Int32) + (1 : Int32))), .val (.int c0)] d_cpI3_38 rfl rfl (rfl : 38 + 3 = 41) ?_
  rw [(by decide : ((0 : Int32) + (1 : Int32)) = (1 : Int32))]
  refine g_goto X125 hx hby d_cpI3_41 (by decide) (pc' := 3) (by decide) ?_
  refine g_iload X125 hx hby d_cpI3_3 rfl (rfl : 3 + 2 = 5) ?_
  refine g_iload X125 hx hby d_cpI3_5 rfl (rfl : 5 + 2 = 7) ?_
  refine g_icF X125 hx hby d_cpI3_7 (tlt (by decide : (1 : Int32) < (5 : Int32))).2.1 (rfl : 7 + 3 = 10) ?_
  refine g_aloadN X125 hx hby d_cpI3_10 rfl rfl (rfl : 10 + 1 = 11) ?_
  refine g_iloadN X125 hx hby d_cpI3_11 rfl (rfl : 11 + 1 = 12) ?_
  have f126 : Arv Z h125 a0 kc .char (5 : Int32) [(.int c0), (.int c1), (.int c2), (.int c3), (.int c4)] (.int (0 : Int32)) := (Arv.other hp0 W125 hp4)
  refine g_caload X125 hx hby hZ e125 (v := (.int c1)) f126 ⟨by decide, by decide⟩ rfl d_cpI3_12 (rfl : 12 + 1 = 13) ?_
  refine g_istore X125 hx hby #[.val (.ref a0), .val (.int (1 : Int32)), .val (.ref a2), .val (.int (1 : Int32)), .val (.int (5 : Int32)), .val (.int (1 : Int32)), .val (.int c1)] d_cpI3_13 rfl (rfl : 13 + 2 = 15) ?_
  refine g_iload X125 hx hby d_cpI3_15 rfl (rfl : 15 + 2 = 17) ?_
  refine g_sipush X125 hx hby (255 : Int32) d_cpI3_17 (by decide) (rfl : 17 + 3 = 20) ?_
  refine g_icT X125 hx hby d_cpI3_20 (flt hq1).2.2.2 (by decide) (pc' := 26) (by decide) ?_
  refine g_aloadN X125 hx hby d_cpI3_26 rfl rfl (rfl : 26 + 1 = 27) ?_
  refine g_iloadN X125 hx hby d_cpI3_27 rfl (rfl : 27 + 1 = 28) ?_
  refine g_iload X125 hx hby d_cpI3_28 rfl (rfl : 28 + 2 = 30) ?_
  refine g_i2b X125 hx hby d_cpI3_30 (rfl : 30 + 1 = 31) ?_
  obtain ⟨T127, h127, X127, e127, W127, V127, st127⟩ := a_bastore X125 hx hby hZ e125 (ls := #[.val (.ref a0), .val (.int (1 : Int32)), .val (.ref a2), .val (.int (1 : Int32)), .val (.int (5 : Int32)), .val (.int (1 : Int32)), .val (.int c1)]) (st := []) (j := (1 : Int32)) (c1.toInt8.toInt32) 1 V125' ⟨by decide, by decide⟩ (by decide) (Nat.le_of_ble_eq_true rfl) d_cpI3_31
  have Z127 : n0 ≤ h127.size := Nat.le_trans Z125 (Keep.of_wr W127).1
  have N127 := Fr.snoc X127 N125 hp3
  have K127 : Keep h0 h127 [a2] := K125.wr W127 (Or.inl (List.mem_of_getElem? (i := 0) rfl))
  have V127' : Arv Z h127 a2 kb .byte (5 : Int32) [(.int (c0.toInt8.toInt32)), (.int (c1.toInt8.toInt32)), (.int (0 : Int32)), (.int (0 : Int32)), (.int (0 : Int32))] (.int (0 : Int32)) := by have q := V127; rw [own_nb] at q; exact q
  refine own_go st127 ?_
  show own_Got p e below _ T127 (mkF m 32 #[.val (.ref a0), .val (.int (1 : Int32)), .val (.ref a2), .val (.int (1 : Int32)), .val (.int (5 : Int32)), .val (.int (1 : Int32)), .val (.int c1)] [])
  refine g_iinc X127 hx hby #[.val (.ref a0), .val (.int ((1 : Int32) + (1 : Int32))), .val (.ref a2), .val (.int (1 : Int32)), .val (.int (5 : Int32)), .val (.int (1 : Int32)), .val (.int c1)] d_cpI3_32 rfl rfl (rfl : 32 + 3 = 35) ?_
  rw [(by decide : ((1 : Int32) + (1 : Int32)) = (2 : Int32))]
  refine g_iinc X127 hx hby #[.val (.ref a0), .val (.int (2 : Int32)), .val (.ref a2), .val (.int ((1 : Int32) + (1 : Int32))), .val (.int (5 : Int32)), .val (.int (1 : Int32)), .val (.int c1)] d_cpI3_35 rfl rfl (rfl : 35 + 3 = 38) ?_
  rw [(by decide : ((1 : Int32) + (1 : Int32)) = (2 : Int32))]
  refine g_iinc X127 hx hby #[.val (.ref a0), .val (.int (2 : Int32)), .val (.ref a2), .val (.int (2 : Int32)), .val (.int (5 : Int32)), .val (.int ((1 : Int32) + (1 : Int32))), .val (.int c1)] d_cpI3_38 rfl rfl (rfl : 38 + 3 = 41) ?_
  rw [(by decide : ((1 : Int32) + (1 : Int32)) = (2 : Int32))]
  refine g_goto X127 hx hby d_cpI3_41 (by decide) (pc' := 3) (by decide) ?_
  refine g_iload X127 hx hby d_cpI3_3 rfl (rfl : 3 + 2 = 5) ?_
  refine g_iload X127 hx hby d_cpI3_5 rfl (rfl : 5 + 2 = 7) ?_
  refine g_icF X127 hx hby d_cpI3_7 (tlt (by decide : (2 : Int32) < (5 : Int32))).2.1 (rfl : 7 + 3 = 10) ?_
  refine g_aloadN X127 hx hby d_cpI3_10 rfl rfl (rfl : 10 + 1 = 11) ?_
  refine g_iloadN X127 hx hby d_cpI3_11 rfl (rfl : 11 + 1 = 12) ?_
  have f128 : Arv Z h127 a0 kc .char (5 : Int32) [(.int c0), (.int c1), (.int c2), (.int c3), (.int c4)] (.int (0 : Int32)) := (Arv.other f126 W127 hp4)
  refine g_caload X127 hx hby hZ e127 (v := (.int c2)) f128 ⟨by decide, by decide⟩ rfl d_cpI3_12 (rfl : 12 + 1 = 13) ?_
  refine g_istore X127 hx hby #[.val (.ref a0), .val (.int (2 : Int32)), .val (.ref a2), .val (.int (2 : Int32)), .val (.int (5 : Int32)), .val (.int (2 : Int32)), .val (.int c2)] d_cpI3_13 rfl (rfl : 13 + 2 = 15) ?_
  refine g_iload X127 hx hby d_cpI3_15 rfl (rfl : 15 + 2 = 17) ?_
  refine g_sipush X127 hx hby (255 : Int32) d_cpI3_17 (by decide) (rfl : 17 + 3 = 20) ?_
  refine g_icT X127 hx hby d_cpI3_20 (flt hq2).2.2.2 (by decide) (pc' := 26) (by decide) ?_
  refine g_aloadN X127 hx hby d_cpI3_26 rfl rfl (rfl : 26 + 1 = 27) ?_
  refine g_iloadN X127 hx hby d_cpI3_27 rfl (rfl : 27 + 1 = 28) ?_
  refine g_iload X127 hx hby d_cpI3_28 rfl (rfl : 28 + 2 = 30) ?_
  refine g_i2b X127 hx hby d_cpI3_30 (rfl : 30 + 1 = 31) ?_
  obtain ⟨T129, h129, X129, e129, W129, V129, st129⟩ := a_bastore X127 hx hby hZ e127 (ls := #[.val (.ref a0), .val (.int (2 : Int32)), .val (.ref a2), .val (.int (2 : Int32)), .val (.int (5 : Int32)), .val (.int (2 : Int32)), .val (.int c2)]) (st := []) (j := (2 : Int32)) (c2.toInt8.toInt32) 2 V127' ⟨by decide, by decide⟩ (by decide) (Nat.le_of_ble_eq_true rfl) d_cpI3_31
  have Z129 : n0 ≤ h129.size := Nat.le_trans Z127 (Keep.of_wr W129).1
  have N129 := Fr.snoc X129 N127 hp3
  have K129 : Keep h0 h129 [a2] := K127.wr W129 (Or.inl (List.mem_of_getElem? (i := 0) rfl))
  have V129' : Arv Z h129 a2 kb .byte (5 : Int32) [(.int (c0.toInt8.toInt32)), (.int (c1.toInt8.toInt32)), (.int (c2.toInt8.toInt32)), (.int (0 : Int32)), (.int (0 : Int32))] (.int (0 : Int32)) := by have q := V129; rw [own_nb] at q; exact q
  refine own_go st129 ?_
  show own_Got p e below _ T129 (mkF m 32 #[.val (.ref a0), .val (.int (2 : Int32)), .val (.ref a2), .val (.int (2 : Int32)), .val (.int (5 : Int32)), .val (.int (2 : Int32)), .val (.int c2)] [])
  refine g_iinc X129 hx hby #[.val (.ref a0), .val (.int ((2 : Int32) + (1 : Int32))), .val (.ref a2), .val (.int (2 : Int32)), .val (.int (5 : Int32)), .val (.int (2 : Int32)), .val (.int c2)] d_cpI3_32 rfl rfl (rfl : 32 + 3 = 35) ?_
  rw [(by decide : ((2 : Int32) + (1 : Int32)) = (3 : Int32))]
  refine g_iinc X129 hx hby #[.val (.ref a0), .val (.int (3 : Int32)), .val (.ref a2), .val (.int ((2 : Int32) + (1 : Int32))), .val (.int (5 : Int32)), .val (.int (2 : Int32)), .val (.int c2)] d_cpI3_35 rfl rfl (rfl : 35 + 3 = 38) ?_
  rw [(by decide : ((2 : Int32) + (1 : Int32)) = (3 : Int32))]
  refine g_iinc X129 hx hby #[.val (.ref a0), .val (.int (3 : Int32)), .val (.ref a2), .val (.int (3 : Int32)), .val (.int (5 : Int32)), .val (.int ((2 : Int32) + (1 : Int32))), .val (.int c2)] d_cpI3_38 rfl rfl (rfl : 38 + 3 = 41) ?_
  rw [(by decide : ((2 : Int32) + (1 : Int32)) = (3 : Int32))]
  refine g_goto X129 hx hby d_cpI3_41 (by decide) (pc' := 3) (by decide) ?_
  refine g_iload X129 hx hby d_cpI3_3 rfl (rfl : 3 + 2 = 5) ?_
  refine g_iload X129 hx hby d_cpI3_5 rfl (rfl : 5 + 2 = 7) ?_
  refine g_icF X129 hx hby d_cpI3_7 (tlt (by decide : (3 : Int32) < (5 : Int32))).2.1 (rfl : 7 + 3 = 10) ?_
  refine g_aloadN X129 hx hby d_cpI3_10 rfl rfl (rfl : 10 + 1 = 11) ?_
  refine g_iloadN X129 hx hby d_cpI3_11 rfl (rfl : 11 + 1 = 12) ?_
  have f130 : Arv Z h129 a0 kc .char (5 : Int32) [(.int c0), (.int c1), (.int c2), (.int c3), (.int c4)] (.int (0 : Int32)) := (Arv.other f128 W129 hp4)
  refine g_caload X129 hx hby hZ e129 (v := (.int c3)) f130 ⟨by decide, by decide⟩ rfl d_cpI3_12 (rfl : 12 + 1 = 13) ?_
  refine g_istore X129 hx hby #[.val (.ref a0), .val (.int (3 : Int32)), .val (.ref a2), .val (.int (3 : Int32)), .val (.int (5 : Int32)), .val (.int (3 : Int32)), .val (.int c3)] d_cpI3_13 rfl (rfl : 13 + 2 = 15) ?_
  refine g_iload X129 hx hby d_cpI3_15 rfl (rfl : 15 + 2 = 17) ?_
  refine g_sipush X129 hx hby (255 : Int32) d_cpI3_17 (by decide) (rfl : 17 + 3 = 20) ?_
  refine g_icF X129 hx hby d_cpI3_20 (tlt hq3).2.2.2 (rfl : 20 + 3 = 23) ?_
  refine g_iload X129 hx hby d_cpI3_23 rfl (rfl : 23 + 2 = 25) ?_
  have f131 : Exa Z h129 a2 "[B" := (Exa.wr W129 (Exa.wr W127 (Exa.wr W125 hp1)))
  refine own_retI X129 hx hby hlk hrt d_cpI3_25 (by decide) (by decide) ?_
  show Q_cpI3 Z a0 a2 kc c0 c1 c2 c3 c4 kb h0 n0 _ T129.heap _
  rw [e129]
  exact ⟨rfl, N129, K129, f131⟩
theorem d_cpI4_0 : decode jdk_52_method_21_code 0 = .ok (.iconst 0, 1) := by decide +kernel
theorem d_cpI4_1 : decode jdk_52_method_21_code 1 = .ok (.istore 5, 2) := by decide +kernel
theorem d_cpI4_3 : decode jdk_52_method_21_code 3 = .ok (.iload 5, 2) := by decide +kernel
theorem d_cpI4_5 : decode jdk_52_method_21_code 5 = .ok (.iload 4, 2) := by decide +kernel
theorem d_cpI4_7 : decode jdk_52_method_21_code 7 = .ok (.if_icmp .ge 37, 3) := by decide +kernel
theorem d_cpI4_10 : decode jdk_52_method_21_code 10 = .ok (.aload_n 0, 1) := by decide +kernel
theorem d_cpI4_11 : decode jdk_52_method_21_code 11 = .ok (.iload_n 1, 1) := by decide +kernel
theorem d_cpI4_12 : decode jdk_52_method_21_code 12 = .ok (.caload, 1) := by decide +kernel
theorem d_cpI4_13 : decode jdk_52_method_21_code 13 = .ok (.istore 6, 2) := by decide +kernel
theorem d_cpI4_15 : decode jdk_52_method_21_code 15 = .ok (.iload 6, 2) := by decide +kernel
theorem d_cpI4_17 : decode jdk_52_method_21_code 17 = .ok (.sipush 255, 3) := by decide +kernel
theorem d_cpI4_20 : decode jdk_52_method_21_code 20 = .ok (.if_icmp .le 6, 3) := by decide +kernel
theorem d_cpI4_23 : decode jdk_52_method_21_code 23 = .ok (.iload 5, 2) := by decide +kernel
theorem d_cpI4_25 : decode jdk_52_method_21_code 25 = .ok (.ireturn, 1) := by decide +kernel
theorem d_cpI4_26 : decode jdk_52_method_21_code 26 = .ok (.aload_n 2, 1) := by decide +kernel
theorem d_cpI4_27 : decode jdk_52_method_21_code 27 = .ok (.iload_n 3, 1) := by decide +kernel
theorem d_cpI4_28 : decode jdk_52_method_21_code 28 = .ok (.iload 6, 2) := by decide +kernel
theorem d_cpI4_30 : decode jdk_52_method_21_code 30 = .ok (.i2b, 1) := by decide +kernel
theorem d_cpI4_31 : decode jdk_52_method_21_code 31 = .ok (.bastore, 1) := by decide +kernel
theorem d_cpI4_32 : decode jdk_52_method_21_code 32 = .ok (.iinc 1 1, 3) := by decide +kernel
theorem d_cpI4_35 : decode jdk_52_method_21_code 35 = .ok (.iinc 3 1, 3) := by decide +kernel
theorem d_cpI4_38 : decode jdk_52_method_21_code 38 = .ok (.iinc 5 1, 3) := by decide +kernel
theorem d_cpI4_41 : decode jdk_52_method_21_code 41 = .ok (.goto (-38), 3) := by decide +kernel
theorem ef_cpI4 (m : MethodId) (a0 : Addr) (a2 : Addr) : entryFrame m #[(.ref a0), (.int (0 : Int32)), (.ref a2), (.int (0 : Int32)), (.int (5 : Int32))] 7 = mkF m 0 #[.val (.ref a0), .val (.int (0 : Int32)), .val (.ref a2), .val (.int (0 : Int32)), .val (.int (5 : Int32)), .unset, .unset] [] := by first | (simp [entryFrame, mkF, argsToLocals, Value.category]; done) | rfl
def Q_cpI4 (Z : State) (a0 : Addr) (a2 : Addr) (kc : ClassId) (c0 : Int32) (c1 : Int32) (c2 : Int32) (c3 : Int32) (c4 : Int32) (kb : ClassId) (h0 : Heap) (n0 : Nat) (v : Option Value) (h : Heap) (L : List Loc) : Prop := v = some (.int (4 : Int32)) ∧ Fr n0 L ∧ Keep h0 h [a2] ∧ Exa Z h a2 "[B"
set_option maxRecDepth 65536 in
set_option maxHeartbeats 40000000 in
theorem rm_cpI4 (l : Launch) (Z : State) (aT : Array Value) (hw : ∀ d ∈ tables_1, d.before aT Z = true) (ws : List Jvm.Cond) (a0 : Addr) (a2 : Addr) (kc : ClassId) (c0 : Int32) (c1 : Int32) (c2 : Int32) (c3 : Int32) (c4 : Int32) (kb : ClassId) (h0 : Heap) (n0 : Nat) (Z0 : n0 ≤ h0.size) (hp0 : Arv Z h0 a0 kc .char (5 : Int32) [(.int c0), (.int c1), (.int c2), (.int c3), (.int c4)] (.int (0 : Int32))) (hp1 : Exa Z h0 a2 "[B") (hp2 : Arv Z h0 a2 kb .byte (5 : Int32) [(.int (0 : Int32)), (.int (0 : Int32)), (.int (0 : Int32)), (.int (0 : Int32)), (.int (0 : Int32))] (.int (0 : Int32))) (hp3 : n0 ≤ a2) (hp4 : a0 ≠ a2) (hq0 : ¬ ((255 : Int32) < c0)) (hq1 : ¬ ((255 : Int32) < c1)) (hq2 : ¬ ((255 : Int32) < c2)) (hq3 : ¬ ((255 : Int32) < c3)) (hq4 : (255 : Int32) < c4) :
    MetFree l mN17 (head1 (Jvm.Cond.code mN17 jdk_52_method_21_code 7 (some .int) :: ws) ({ frames := 0, cells := 0, slots := 0, locals := 0 } : Room)) (fun a U => a = #[(.ref a0), (.int (0 : Int32)), (.ref a2), (.int (0 : Int32)), (.int (5 : Int32))] ∧ Z.Warmed39 U.vm ∧ U.heap = h0) (fun _ _ _ _ _ => True) (fun _ U o U' => ∃ v L, o = .returned v ∧ Q_cpI4 Z a0 a2 kc c0 c1 c2 c3 c4 kb h0 n0 v U'.heap L ∧ FrameEnd U o U' L ({ frames := 0, cells := 0, slots := 0, locals := 0 } : Room).cells ({ frames := 0, cells := 0, slots := 0, locals := 0 } : Room).slots) := by
  refine MetFree.of_bodySF (plainFor_of_name pn2) hisR ?_
  intro p e s m args below meth c s₁ Bd hml0 hP hK
  obtain ⟨rfl, hZ, hh⟩ := hP
  have hx := Bd.exec
  have hby := Bd.bytes
  have hml : c.maxLocals = 7 := hml0
  have hown : s.vm.findClass "java/lang/StringUTF16" = some m.cls := findClass_of_methodNamed Bd.named
  have hnm := (name_of_methodNamed Bd.named Bd.method).1
  have hlk := Bd.notSynchronized
  have hrt := Bd.returns
  have X0 : Stand p l e ({ frames := 0, cells := 0, slots := 0, locals := 0 } : Room) s m #[(.ref a0), (.int (0 : Int32)), (.ref a2), (.int (0 : Int32)), (.int (5 : Int32))] below meth c s₁ [] 0 0 := Stand.of_body Bd
  have e0 : s₁.heap = h0 := by rw [← hh, Bd.state]; rfl
  have N0 := Fr.nil n0
  refine own_cast (P := own_End s (Q_cpI4 Z a0 a2 kc c0 c1 c2 c3 c4 kb h0 n0) ({ frames := 0, cells := 0, slots := 0, locals := 0 } : Room).cells ({ frames := 0, cells := 0, slots := 0, locals := 0 } : Room).slots) (ef_cpI4 m a0 a2) ?_
  refine g_iconst X0 hx hby (0 : Int32) d_cpI4_0 (by decide) (rfl : 0 + 1 = 1) ?_
  refine g_istore X0 hx hby #[.val (.ref a0), .val (.int (0 : Int32)), .val (.ref a2), .val (.int (0 : Int32)), .val (.int (5 : Int32)), .val (.int (0 : Int32)), .unset] d_cpI4_1 rfl (rfl : 1 + 2 = 3) ?_
  refine g_iload X0 hx hby d_cpI4_3 rfl (rfl : 3 + 2 = 5) ?_
  refine g_iload X0 hx hby d_cpI4_5 rfl (rfl : 5 + 2 = 7) ?_
  refine g_icF X0 hx hby d_cpI4_7 (tlt (by decide : (0 : Int32) < (5 : Int32))).2.1 (rfl : 7 + 3 = 10) ?_
  refine g_aloadN X0 hx hby d_cpI4_10 rfl rfl (rfl : 10 + 1 = 11) ?_
  refine g_iloadN X0 hx hby d_cpI4_11 rfl (rfl : 11 + 1 = 12) ?_
  refine g_caload X0 hx hby hZ e0 (v := (.int c0)) hp0 ⟨by decide, by decide⟩ rfl d_cpI4_12 (rfl : 12 + 1 = 13) ?_
  refine g_istore X0 hx hby #[.val (.ref a0), .val (.int (0 : Int32)), .val (.ref a2), .val (.int (0 : Int32)), .val (.int (5 : Int32)), .val (.int (0 : Int32)), .val (.int c0)] d_cpI4_13 rfl (rfl : 13 + 2 = 15) ?_
  refine g_iload X0 hx hby d_cpI4_15 rfl (rfl : 15 + 2 = 17) ?_
  refine g_sipush X0 hx hby (255 : Int32) d_cpI4_17 (by decide) (rfl : 17 + 3 = 20) ?_
  refine g_icT X0 hx hby d_cpI4_20 (flt hq0).2.2.2 (by decide) (pc' := 26) (by decide) ?_
  refine g_aloadN X0 hx hby d_cpI4_26 rfl rfl (rfl : 26 + 1 = 27) ?_
  refine g_iloadN X0 hx hby d_cpI4_27 rfl (rfl : 27 + 1 = 28) ?_
  refine g_iload X0 hx hby d_cpI4_28 rfl (rfl : 28 + 2 = 30) ?_
  refine g_i2b X0 hx hby d_cpI4_30 (rfl : 30 + 1 = 31) ?_
  obtain ⟨T132, h132, X132, e132, W132, V132, st132⟩ := a_bastore X0 hx hby hZ e0 (ls := #[.val (.ref a0), .val (.int (0 : Int32)), .val (.ref a2), .val (.int (0 : Int32)), .val (.int (5 : Int32)), .val (.int (0 : Int32)), .val (.int c0)]) (st := []) (j := (0 : Int32)) (c0.toInt8.toInt32) 0 hp2 ⟨by decide, by decide⟩ (by decide) (Nat.le_of_ble_eq_true rfl) d_cpI4_31
  have Z132 : n0 ≤ h132.size := Nat.le_trans Z0 (Keep.of_wr W132).1
  have N132 := Fr.snoc X132 N0 hp3
  have K132 : Keep h0 h132 [a2] := (Keep.refl h0 [a2]).wr W132 (Or.inl (List.mem_of_getElem? (i := 0) rfl))
  have V132' : Arv Z h132 a2 kb .byte (5 : Int32) [(.int (c0.toInt8.toInt32)), (.int (0 : Int32)), (.int (0 : Int32)), (.int (0 : Int32)), (.int (0 : Int32))] (.int (0 : Int32)) := by have q := V132; rw [own_nb] at q; exact q
  refine own_go st132 ?_
  show own_Got p e below _ T132 (mkF m 32 #[.val (.ref a0), .val (.int (0 : Int32)), .val (.ref a2), .val (.int (0 : Int32)), .val (.int (5 : Int32)), .val (.int (0 : Int32)), .val (.int c0)] [])
  refine g_iinc X132 hx hby #[.val (.ref a0), .val (.int ((0 : Int32) + (1 : Int32))), .val (.ref a2), .val (.int (0 : Int32)), .val (.int (5 : Int32)), .val (.int (0 : Int32)), .val (.int c0)] d_cpI4_32 rfl rfl (rfl : 32 + 3 = 35) ?_
  rw [(by decide : ((0 : Int32) + (1 : Int32)) = (1 : Int32))]
  refine g_iinc X132 hx hby #[.val (.ref a0), .val (.int (1 : Int32)), .val (.ref a2), .val (.int ((0 : Int32) + (1 : Int32))), .val (.int (5 : Int32)), .val (.int (0 : Int32)), .val (.int c0)] d_cpI4_35 rfl rfl (rfl : 35 + 3 = 38) ?_
  rw [(by decide : ((0 : Int32) + (1 : Int32)) = (1 : Int32))]
  refine g_iinc X132 hx hby #[.val (.ref a0), .val (.int (1 : Int32)), .val (.ref a2), .val (.int (1 : Int32)), .val (.int (5 : Int32)), .val (.int ((0 : Int32) + (1 : Int32))), .val (.int c0)] d_cpI4_38 rfl rfl (rfl : 38 + 3 = 41) ?_
  rw [(by decide : ((0 : Int32) + (1 : Int32)) = (1 : Int32))]
  refine g_goto X132 hx hby d_cpI4_41 (by decide) (pc' := 3) (by decide) ?_
  refine g_iload X132 hx hby d_cpI4_3 rfl (rfl : 3 + 2 = 5) ?_
  refine g_iload X132 hx hby d_cpI4_5 rfl (rfl : 5 + 2 = 7) ?_
  refine g_icF X132 hx hby d_cpI4_7 (tlt (by decide : (1 : Int32) < (5 : Int32))).2.1 (rfl : 7 + 3 = 10) ?_
  refine g_aloadN X132 hx hby d_cpI4_10 rfl rfl (rfl : 10 + 1 = 11) ?_
  refine g_iloadN X132 hx hby d_cpI4_11 rfl (rfl : 11 + 1 = 12) ?_
  have f133 : Arv Z h132 a0 kc .char (5 : Int32) [(.int c0), (.int c1), (.int c2), (.int c3), (.int c4)] (.int (0 : Int32)) := (Arv.other hp0 W132 hp4)
  refine g_caload X132 hx hby hZ e132 (v := (.int c1)) f133 ⟨by decide, by decide⟩ rfl d_cpI4_12 (rfl : 12 + 1 = 13) ?_
  refine g_istore X132 hx hby #[.val (.ref a0), .val (.int (1 : Int32)), .val (.ref a2), .val (.int (1 : Int32)), .val (.int (5 : Int32)), .val (.int (1 : Int32)), .val (.int c1)] d_cpI4_13 rfl (rfl : 13 + 2 = 15) ?_
  refine g_iload X132 hx hby d_cpI4_15 rfl (rfl : 15 + 2 = 17) ?_
  refine g_sipush X132 hx hby (255 : Int32) d_cpI4_17 (by decide) (rfl : 17 + 3 = 20) ?_
  refine g_icT X132 hx hby d_cpI4_20 (flt hq1).2.2.2 (by decide) (pc' := 26) (by decide) ?_
  refine g_aloadN X132 hx hby d_cpI4_26 rfl rfl (rfl : 26 + 1 = 27) ?_
  refine g_iloadN X132 hx hby d_cpI4_27 rfl (rfl : 27 + 1 = 28) ?_
  refine g_iload X132 hx hby d_cpI4_28 rfl (rfl : 28 + 2 = 30) ?_
  refine g_i2b X132 hx hby d_cpI4_30 (rfl : 30 + 1 = 31) ?_
  obtain ⟨T134, h134, X134, e134, W134, V134, st134⟩ := a_bastore X132 hx hby hZ e132 (ls := #[.val (.ref a0), .val (.int (1 : Int32)), .val (.ref a2), .val (.int (1 : Int32)), .val (.int (5 : Int32)), .val (.int (1 : Int32)), .val (.int c1)]) (st := []) (j := (1 : Int32)) (c1.toInt8.toInt32) 1 V132' ⟨by decide, by decide⟩ (by decide) (Nat.le_of_ble_eq_true rfl) d_cpI4_31
  have Z134 : n0 ≤ h134.size := Nat.le_trans Z132 (Keep.of_wr W134).1
  have N134 := Fr.snoc X134 N132 hp3
  have K134 : Keep h0 h134 [a2] := K132.wr W134 (Or.inl (List.mem_of_getElem? (i := 0) rfl))
  have V134' : Arv Z h134 a2 kb .byte (5 : Int32) [(.int (c0.toInt8.toInt32)), (.int (c1.toInt8.toInt32)), (.int (0 : Int32)), (.int (0 : Int32)), (.int (0 : Int32))] (.int (0 : Int32)) := by have q := V134; rw [own_nb] at q; exact q
  refine own_go st134 ?_
  show own_Got p e below _ T134 (mkF m 32 #[.val (.ref a0), .val (.int (1 : Int32)), .val (.ref a2), .val (.int (1 : Int32)), .val (.int (5 : Int32)), .val (.int (1 : Int32)), .val (.int c1)] [])
  refine g_iinc X134 hx hby #[.val (.ref a0), .val (.int ((1 : Int32) + (1 : Int32))), .val (.ref a2), .val (.int (1 : Int32)), .val (.int (5 : Int32)), .val (.int (1 : Int32)), .val (.int c1)] d_cpI4_32 rfl rfl (rfl : 32 + 3 = 35) ?_
  rw [(by decide : ((1 : Int32) + (1 : Int32)) = (2 : Int32))]
  refine g_iinc X134 hx hby #[.val (.ref a0), .val (.int (2 : Int32)), .val (.ref a2), .val (.int ((1 : Int32) + (1 : Int32))), .val (.int (5 : Int32)), .val (.int (1 : Int32)), .val (.int c1)] d_cpI4_35 rfl rfl (rfl : 35 + 3 = 38) ?_
  rw [(by decide : ((1 : Int32) + (1 : Int32)) = (2 : Int32))]
  refine g_iinc X134 hx hby #[.val (.ref a0), .val (.int (2 : Int32)), .val (.ref a2), .val (.int (2 : Int32)), .val (.int (5 : Int32)), .val (.int ((1 : Int32) + (1 : Int32))), .val (.int c1)] d_cpI4_38 rfl rfl (rfl : 38 + 3 = 41) ?_
  rw [(by decide : ((1 : Int32) + (1 : Int32)) = (2 : Int32))]
  refine g_goto X134 hx hby d_cpI4_41 (by decide) (pc' := 3) (by decide) ?_
  refine g_iload X134 hx hby d_cpI4_3 rfl (rfl : 3 + 2 = 5) ?_
  refine g_iload X134 hx hby d_cpI4_5 rfl (rfl : 5 + 2 = 7) ?_
  refine g_icF X134 hx hby d_cpI4_7 (tlt (by decide : (2 : Int32) < (5 : Int32))).2.1 (rfl : 7 + 3 = 10) ?_
  refine g_aloadN X134 hx hby d_cpI4_10 rfl rfl (rfl : 10 + 1 = 11) ?_
  refine g_iloadN X134 hx hby d_cpI4_11 rfl (rfl : 11 + 1 = 12) ?_
  have f135 : Arv Z h134 a0 kc .char (5 : Int32) [(.int c0), (.int c1), (.int c2), (.int c3), (.int c4)] (.int (0 : Int32)) := (Arv.other f133 W134 hp4)
  refine g_caload X134 hx hby hZ e134 (v := (.int c2)) f135 ⟨by decide, by decide⟩ rfl d_cpI4_12 (rfl : 12 + 1 = 13) ?_
  refine g_istore X134 hx hby #[.val (.ref a0), .val (.int (2 : Int32)), .val (.ref a2), .val (.int (2 : Int32)), .val (.int (5 : Int32)), .val (.int (2 : Int32)), .val (.int c2)] d_cpI4_13 rfl (rfl : 13 + 2 = 15) ?_
  refine g_iload X134 hx hby d_cpI4_15 rfl (rfl : 15 + 2 = 17) ?_
  refine g_sipush X134 hx hby (255 : Int32) d_cpI4_17 (by decide) (rfl : 17 + 3 = 20) ?_
  refine g_icT X134 hx hby d_cpI4_20 (flt hq2).2.2.2 (by decide) (pc' := 26) (by decide) ?_
  refine g_aloadN X134 hx hby d_cpI4_26 rfl rfl (rfl : 26 + 1 = 27) ?_
  refine g_iloadN X134 hx hby d_cpI4_27 rfl (rfl : 27 + 1 = 28) ?_
  refine g_iload X134 hx hby d_cpI4_28 rfl (rfl : 28 + 2 = 30) ?_
  refine g_i2b X134 hx hby d_cpI4_30 (rfl : 30 + 1 = 31) ?_
  obtain ⟨T136, h136, X136, e136, W136, V136, st136⟩ := a_bastore X134 hx hby hZ e134 (ls := #[.val (.ref a0), .val (.int (2 : Int32)), .val (.ref a2), .val (.int (2 : Int32)), .val (.int (5 : Int32)), .val (.int (2 : Int32)), .val (.int c2)]) (st := []) (j := (2 : Int32)) (c2.toInt8.toInt32) 2 V134' ⟨by decide, by decide⟩ (by decide) (Nat.le_of_ble_eq_true rfl) d_cpI4_31
  have Z136 : n0 ≤ h136.size := Nat.le_trans Z134 (Keep.of_wr W136).1
  have N136 := Fr.snoc X136 N134 hp3
  have K136 : Keep h0 h136 [a2] := K134.wr W136 (Or.inl (List.mem_of_getElem? (i := 0) rfl))
  have V136' : Arv Z h136 a2 kb .byte (5 : Int32) [(.int (c0.toInt8.toInt32)), (.int (c1.toInt8.toInt32)), (.int (c2.toInt8.toInt32)), (.int (0 : Int32)), (.int (0 : Int32))] (.int (0 : Int32)) := by have q := V136; rw [own_nb] at q; exact q
  refine own_go st136 ?_
  show own_Got p e below _ T136 (mkF m 32 #[.val (.ref a0), .val (.int (2 : Int32)), .val (.ref a2), .val (.int (2 : Int32)), .val (.int (5 : Int32)), .val (.int (2 : Int32)), .val (.int c2)] [])
  refine g_iinc X136 hx hby #[.val (.ref a0), .val (.int ((2 : Int32) + (1 : Int32))), .val (.ref a2), .val (.int (2 : Int32)), .val (.int (5 : Int32)), .val (.int (2 : Int32)), .val (.int c2)] d_cpI4_32 rfl rfl (rfl : 32 + 3 = 35) ?_
  rw [(by decide : ((2 : Int32) + (1 : Int32)) = (3 : Int32))]
  refine g_iinc X136 hx hby #[.val (.ref a0), .val (.int (3 : Int32)), .val (.ref a2), .val (.int ((2 : Int32) + (1 : Int32))), .val (.int (5 : Int32)), .val (.int (2 : Int32)), .val (.int c2)] d_cpI4_35 rfl rfl (rfl : 35 + 3 = 38) ?_
  rw [(by decide : ((2 : Int32) + (1 : Int32)) = (3 : Int32))]
  refine g_iinc X136 hx hby #[.val (.ref a0), .val (.int (3 : Int32)), .val (.ref a2), .val (.int (3 : Int32)), .val (.int (5 : Int32)), .val (.int ((2 : Int32) + (1 : Int32))), .val (.int c2)] d_cpI4_38 rfl rfl (rfl : 38 + 3 = 41) ?_
  rw [(by decide : ((2 : Int32) + (1 : Int32)) = (3 : Int32))]
  refine g_goto X136 hx hby d_cpI4_41 (by decide) (pc' := 3) (by decide) ?_
  refine g_iload X136 hx hby d_cpI4_3 rfl (rfl : 3 + 2 = 5) ?_
  refine g_iload X136 hx hby d_cpI4_5 rfl (rfl : 5 + 2 = 7) ?_
  refine g_icF X136 hx hby d_cpI4_7 (tlt (by decide : (3 : Int32) < (5 : Int32))).2.1 (rfl : 7 + 3 = 10) ?_
  refine g_aloadN X136 hx hby d_cpI4_10 rfl rfl (rfl : 10 + 1 = 11) ?_
  refine g_iloadN X136 hx hby d_cpI4_11 rfl (rfl : 11 + 1 = 12) ?_
  have f137 : Arv Z h136 a0 kc .char (5 : Int32) [(.int c0), (.int c1), (.int c2), (.int c3), (.int c4)] (.int (0 : Int32)) := (Arv.other f135 W136 hp4)
  refine g_caload X136 hx hby hZ e136 (v := (.int c3)) f137 ⟨by decide, by decide⟩ rfl d_cpI4_12 (rfl : 12 + 1 = 13) ?_
  refine g_istore X136 hx hby #[.val (.ref a0), .val (.int (3 : Int32)), .val (.ref a2), .val (.int (3 : Int32)), .val (.int (5 : Int32)), .val (.int (3 : Int32)), .val (.int c3)] d_cpI4_13 rfl (rfl : 13 + 2 = 15) ?_
  refine g_iload X136 hx hby d_cpI4_15 rfl (rfl : 15 + 2 = 17) ?_
  refine g_sipush X136 hx hby (255 : Int32) d_cpI4_17 (by decide) (rfl : 17 + 3 = 20) ?_
  refine g_icT X136 hx hby d_cpI4_20 (flt hq3).2.2.2 (by decide) (pc' := 26) (by decide) ?_
  refine g_aloadN X136 hx hby d_cpI4_26 rfl rfl (rfl : 26 + 1 = 27) ?_
  refine g_iloadN X136 hx hby d_cpI4_27 rfl (rfl : 27 + 1 = 28) ?_
  refine g_iload X136 hx hby d_cpI4_28 rfl (rfl : 28 + 2 = 30) ?_
  refine g_i2b X136 hx hby d_cpI4_30 (rfl : 30 + 1 = 31) ?_
  obtain ⟨T138, h138, X138, e138, W138, V138, st138⟩ := a_bastore X136 hx hby hZ e136 (ls := #[.val (.ref a0), .val (.int (3 : Int32)), .val (.ref a2), .val (.int (3 : Int32)), .val (.int (5 : Int32)), .val (.int (3 : Int32)), .val (.int c3)]) (st := []) (j := (3 : Int32)) (c3.toInt8.toInt32) 3 V136' ⟨by decide, by decide⟩ (by decide) (Nat.le_of_ble_eq_true rfl) d_cpI4_31
  have Z138 : n0 ≤ h138.size := Nat.le_trans Z136 (Keep.of_wr W138).1
  have N138 := Fr.snoc X138 N136 hp3
  have K138 : Keep h0 h138 [a2] := K136.wr W138 (Or.inl (List.mem_of_getElem? (i := 0) rfl))
  have V138' : Arv Z h138 a2 kb .byte (5 : Int32) [(.int (c0.toInt8.toInt32)), (.int (c1.toInt8.toInt32)), (.int (c2.toInt8.toInt32)), (.int (c3.toInt8.toInt32)), (.int (0 : Int32))] (.int (0 : Int32)) := by have q := V138; rw [own_nb] at q; exact q
  refine own_go st138 ?_
  show own_Got p e below _ T138 (mkF m 32 #[.val (.ref a0), .val (.int (3 : Int32)), .val (.ref a2), .val (.int (3 : Int32)), .val (.int (5 : Int32)), .val (.int (3 : Int32)), .val (.int c3)] [])
  refine g_iinc X138 hx hby #[.val (.ref a0), .val (.int ((3 : Int32) + (1 : Int32))), .val (.ref a2), .val (.int (3 : Int32)), .val (.int (5 : Int32)), .val (.int (3 : Int32)), .val (.int c3)] d_cpI4_32 rfl rfl (rfl : 32 + 3 = 35) ?_
  rw [(by decide : ((3 : Int32) + (1 : Int32)) = (4 : Int32))]
  refine g_iinc X138 hx hby #[.val (.ref a0), .val (.int (4 : Int32)), .val (.ref a2), .val (.int ((3 : Int32) + (1 : Int32))), .val (.int (5 : Int32)), .val (.int (3 : Int32)), .val (.int c3)] d_cpI4_35 rfl rfl (rfl : 35 + 3 = 38) ?_
  rw [(by decide : ((3 : Int32) + (1 : Int32)) = (4 : Int32))]
  refine g_iinc X138 hx hby #[.val (.ref a0), .val (.int (4 : Int32)), .val (.ref a2), .val (.int (4 : Int32)), .val (.int (5 : Int32)), .val (.int ((3 : Int32) + (1 : Int32))), .val (.int c3)] d_cpI4_38 rfl rfl (rfl : 38 + 3 = 41) ?_
  rw [(by decide : ((3 : Int32) + (1 : Int32)) = (4 : Int32))]
  refine g_goto X138 hx hby d_cpI4_41 (by decide) (pc' := 3) (by decide) ?_
  refine g_iload X138 hx hby d_cpI4_3 rfl (rfl : 3 + 2 = 5) ?_
  refine g_iload X138 hx hby d_cpI4_5 rfl (rfl : 5 + 2 = 7) ?_
  refine g_icF X138 hx hby d_cpI4_7 (tlt (by decide : (4 : Int32) < (5 : Int32))).2.1 (rfl : 7 + 3 = 10) ?_
  refine g_aloadN X138 hx hby d_cpI4_10 rfl rfl (rfl : 10 + 1 = 11) ?_
  refine g_iloadN X138 hx hby d_cpI4_11 rfl (rfl : 11 + 1 = 12) ?_
  have f139 : Arv Z h138 a0 kc .char (5 : Int32) [(.int c0), (.int c1), (.int c2), (.int c3), (.int c4)] (.int (0 : Int32)) := (Arv.other f137 W138 hp4)
  refine g_caload X138 hx hby hZ e138 (v := (.int c4)) f139 ⟨by decide, by decide⟩ rfl d_cpI4_12 (rfl : 12 + 1 = 13) ?_
  refine g_istore X138 hx hby #[.val (.ref a0), .val (.int (4 : Int32)), .val (.ref a2), .val (.int (4 : Int32)), .val (.int (5 : Int32)), .val (.int (4 : Int32)), .val (.int c4)] d_cpI4_13 rfl (rfl : 13 + 2 = 15) ?_
  refine g_iload X138 hx hby d_cpI4_15 rfl (rfl : 15 + 2 = 17) ?_
  refine g_sipush X138 hx hby (255 : Int32) d_cpI4_17 (by decide) (rfl : 17 + 3 = 20) ?_
  refine g_icF X138 hx hby d_cpI4_20 (tlt hq4).2.2.2 (rfl : 20 + 3 = 23) ?_
  refine g_iload X138 hx hby d_cpI4_23 rfl (rfl : 23 + 2 = 25) ?_
  have f140 : Exa Z h138 a2 "[B" := (Exa.wr W138 (Exa.wr W136 (Exa.wr W134 (Exa.wr W132 hp1))))
  refine own_retI X138 hx hby hlk hrt d_cpI4_25 (by decide) (by decide) ?_
  show Q_cpI4 Z a0 a2 kc c0 c1 c2 c3 c4 kb h0 n0 _ T138.heap _
  rw [e138]
  exact ⟨rfl, N138, K138, f140⟩
theorem d_nbl_0 : decode jdk_52_method_3_code 0 = .ok (.iload_n 0, 1) := by decide +kernel
theorem d_nbl_1 : decode jdk_52_method_3_code 1 = .ok (.ifCond .ge 11, 3) := by decide +kernel
theorem d_nbl_12 : decode jdk_52_method_3_code 12 = .ok (.iload_n 0, 1) := by decide +kernel
theorem d_nbl_13 : decode jdk_52_method_3_code 13 = .ok (.ldc 20, 2) := by decide +kernel
theorem d_nbl_15 : decode jdk_52_method_3_code 15 = .ok (.if_icmp .lt 40, 3) := by decide +kernel
theorem d_nbl_55 : decode jdk_52_method_3_code 55 = .ok (.iload_n 0, 1) := by decide +kernel
theorem d_nbl_56 : decode jdk_52_method_3_code 56 = .ok (.iconst 1, 1) := by decide +kernel
theorem d_nbl_57 : decode jdk_52_method_3_code 57 = .ok (.ishl, 1) := by decide +kernel
theorem d_nbl_58 : decode jdk_52_method_3_code 58 = .ok (.ireturn, 1) := by decide +kernel
theorem ef_nbl (m : MethodId)  : entryFrame m #[(.int (5 : Int32))] 1 = mkF m 0 #[.val (.int (5 : Int32))] [] := by first | (simp [entryFrame, mkF, argsToLocals, Value.category]; done) | rfl
def Q_nbl (Z : State)  (h0 : Heap) (n0 : Nat) (v : Option Value) (h : Heap) (L : List Loc) : Prop := v = some (.int (10 : Int32)) ∧ Fr n0 L ∧ h = h0
set_option maxRecDepth 65536 in
set_option maxHeartbeats 40000000 in
theorem rm_nbl (l : Launch) (Z : State) (aT : Array Value) (hw : ∀ d ∈ tables_1, d.before aT Z = true) (ws : List Jvm.Cond)  (h0 : Heap) (n0 : Nat) (Z0 : n0 ≤ h0.size) :
    MetFree l mN21 (head1 (Jvm.Cond.code mN21 jdk_52_method_3_code 1 (some .int) :: ws) ({ frames := 0, cells := 0, slots := 0, locals := 0 } : Room)) (fun a U => a = #[(.int (5 : Int32))] ∧ Z.Warmed39 U.vm ∧ U.heap = h0) (fun _ _ _ _ _ => True) (fun _ U o U' => ∃ v L, o = .returned v ∧ Q_nbl Z  h0 n0 v U'.heap L ∧ FrameEnd U o U' L ({ frames := 0, cells := 0, slots := 0, locals := 0 } : Room).cells ({ frames := 0, cells := 0, slots := 0, locals := 0 } : Room).slots) := by
  refine MetFree.of_bodySF (plainFor_of_name pn2) hisR ?_
  intro p e s m args below meth c s₁ Bd hml0 hP hK
  obtain ⟨rfl, hZ, hh⟩ := hP
  have hx := Bd.exec
  have hby := Bd.bytes
  have hml : c.maxLocals = 1 := hml0
  have hown : s.vm.findClass "java/lang/StringUTF16" = some m.cls := findClass_of_methodNamed Bd.named
  have hnm := (name_of_methodNamed Bd.named Bd.method).1
  have hlk := Bd.notSynchronized
  have hrt := Bd.returns
  have X0 : Stand p l e ({ frames := 0, cells := 0, slots := 0, locals := 0 } : Room) s m #[(.int (5 : Int32))] below meth c s₁ [] 0 0 := Stand.of_body Bd
  have e0 : s₁.heap = h0 := by rw [← hh, Bd.state]; rfl
  have N0 := Fr.nil n0
  refine own_cast (P := own_End s (Q_nbl Z  h0 n0) ({ frames := 0, cells := 0, slots := 0, locals := 0 } : Room).cells ({ frames := 0, cells := 0, slots := 0, locals := 0 } : Room).slots) (ef_nbl m ) ?_
  refine g_iloadN X0 hx hby d_nbl_0 rfl (rfl : 0 + 1 = 1) ?_
  refine g_ifT X0 hx hby d_nbl_1 ((if0 _ _).trans (flt (by decide : ¬ ((5 : Int32) < (0 : Int32)))).2.1) (by decide) (pc' := 12) (by decide) ?_
  refine g_iloadN X0 hx hby d_nbl_12 rfl (rfl : 12 + 1 = 13) ?_
  refine g_ldcI X0 hx hby hZ hown (hw _ (own_M 112 rfl)) d_nbl_13 (rfl : 13 + 2 = 15) ?_
  refine g_icT X0 hx hby d_nbl_15 (tlt (by decide : (5 : Int32) < (1073741823 : Int32))).1 (by decide) (pc' := 55) (by decide) ?_
  refine g_iloadN X0 hx hby d_nbl_55 rfl (rfl : 55 + 1 = 56) ?_
  refine g_iconst X0 hx hby (1 : Int32) d_nbl_56 (by decide) (rfl : 56 + 1 = 57) ?_
  refine g_ishl X0 hx hby d_nbl_57 (rfl : 57 + 1 = 58) ?_
  rw [(by decide : ((5 : Int32) <<< ((1 : Int32) &&& 31)) = (10 : Int32))]
  refine own_retI X0 hx hby hlk hrt d_nbl_58 (by decide) (by decide) ?_
  show Q_nbl Z  h0 n0 _ s₁.heap _
  exact ⟨rfl, N0, e0⟩
theorem d_nbf_0 : decode jdk_52_method_2_code 0 = .ok (.iload_n 0, 1) := by decide +kernel
theorem d_nbf_1 : decode jdk_52_method_2_code 1 = .ok (.invokestatic 11, 3) := by decide +kernel
theorem d_nbf_4 : decode jdk_52_method_2_code 4 = .ok (.newarray .byte, 2) := by decide +kernel
theorem d_nbf_6 : decode jdk_52_method_2_code 6 = .ok (.areturn, 1) := by decide +kernel
theorem pd7 : parseMethodDescriptor "(I)I" = some ⟨[.int], some .int⟩ := by decide +kernel
theorem ef_nbf (m : MethodId)  : entryFrame m #[(.int (5 : Int32))] 1 = mkF m 0 #[.val (.int (5 : Int32))] [] := by first | (simp [entryFrame, mkF, argsToLocals, Value.category]; done) | rfl
def Q_nbf (Z : State)  (h0 : Heap) (n0 : Nat) (v : Option Value) (h : Heap) (L : List Loc) : Prop := ∃ (ob : Addr), ∃ (kb : ClassId), v = some (.ref ob) ∧ Fr n0 L ∧ Keep h0 h [] ∧ h0.size ≤ ob ∧ Exa Z h ob "[B" ∧ Arv Z h ob kb .byte (10 : Int32) [(.int (0 : Int32)), (.int (0 : Int32)), (.int (0 : Int32)), (.int (0 : Int32)), (.int (0 : Int32)), (.int (0 : Int32)), (.int (0 : Int32)), (.int (0 : Int32)), (.int (0 : Int32)), (.int (0 : Int32))] (.int (0 : Int32))
set_option maxRecDepth 65536 in
set_option maxHeartbeats 40000000 in
theorem rm_nbf (l : Launch) (Z : State) (aT : Array Value) (hw : ∀ d ∈ tables_1, d.before aT Z = true) (ws : List Jvm.Cond)  (h0 : Heap) (n0 : Nat) (Z0 : n0 ≤ h0.size) :
    MetFree l mN20 (head1 (Jvm.Cond.code mN20 jdk_52_method_2_code 1 (some (.array .byte)) :: ws) ({ frames := 1, cells := 1, slots := 10, locals := 12 } : Room)) (fun a U => a = #[(.int (5 : Int32))] ∧ Z.Warmed39 U.vm ∧ U.heap = h0) (fun _ _ _ _ _ => True) (fun _ U o U' => ∃ v L, o = .returned v ∧ Q_nbf Z  h0 n0 v U'.heap L ∧ FrameEnd U o U' L ({ frames := 1, cells := 1, slots := 10, locals := 12 } : Room).cells ({ frames := 1, cells := 1, slots := 10, locals := 12 } : Room).slots) := by
  refine MetFree.of_bodySF (plainFor_of_name pn2) hisR ?_
  intro p e s m args below meth c s₁ Bd hml0 hP hK
  obtain ⟨rfl, hZ, hh⟩ := hP
  have hx := Bd.exec
  have hby := Bd.bytes
  have hml : c.maxLocals = 1 := hml0
  have hown : s.vm.findClass "java/lang/StringUTF16" = some m.cls := findClass_of_methodNamed Bd.named
  have hnm := (name_of_methodNamed Bd.named Bd.method).1
  have hlk := Bd.notSynchronized
  have hrt := Bd.returns
  have X0 : Stand p l e ({ frames := 1, cells := 1, slots := 10, locals := 12 } : Room) s m #[(.int (5 : Int32))] below meth c s₁ [] 0 0 := Stand.of_body Bd
  have e0 : s₁.heap = h0 := by rw [← hh, Bd.state]; rfl
  have N0 := Fr.nil n0
  refine own_cast (P := own_End s (Q_nbf Z  h0 n0) ({ frames := 1, cells := 1, slots := 10, locals := 12 } : Room).cells ({ frames := 1, cells := 1, slots := 10, locals := 12 } : Room).slots) (ef_nbf m ) ?_
  refine g_iloadN X0 hx hby d_nbf_0 rfl (rfl : 0 + 1 = 1) ?_
  obtain ⟨_, _, ⟨T141, L141, k141, n141⟩, -, X141, ⟨Lc141, hQ141, l141, y141, z141⟩, st141⟩ := Jvm.LawKit.callS X0 hx (y := mN21) hown (mvT hZ (hw _ (own_M 109 rfl))) (mvT hZ (hw _ (own_M 110 rfl))) (mvT hZ (hw _ (own_M 17 rfl))) (mvT hZ (hw _ (own_M 111 rfl))) (by decide) (backOf (W := 0) (rm_nbl l Z aT hw []  h0 n0 Z0) hZ (hw _ (own_M 111 rfl)) (hw _ (own_M 17 rfl)) (by decide) (by decide)) (g := (mkF m 1 #[.val (.int (5 : Int32))] [(.int (5 : Int32))])) rfl (by rw [hml]; rfl) (argsL := [(.int (5 : Int32))]) (rest := []) (lenOf pd7 rfl) rfl (by show 2 * 0 + _ ≤ _; exact Nat.le_of_eq rfl) (hb hby d_nbf_1) (fun _ _ => ⟨rfl, e0, (by decide : 0 + 0 ≤ _), (by decide : 0 + 0 ≤ _)⟩)
  dsimp only [Pt.U, Pt.locs, Pt.cells, Pt.slots] at X141 l141 y141 z141 st141 hQ141
  subst l141 y141 z141
  obtain ⟨rfl, N141q, eq141⟩ := hQ141
  have N141 := Fr.app N0 N141q
  refine own_go st141 ?_
  show own_Got p e below _ T141 (mkF m 4 #[.val (.int (5 : Int32))] [(.int (10 : Int32))])
  obtain ⟨T142, h142, k142, X142, e142, E142, A142, B142, st142⟩ := newPE X141 hx hZ (hw _ (own_M 19 rfl)) eq141 (g := (mkF m 4 #[.val (.int (5 : Int32))] [(.int (10 : Int32))])) rfl (hb hby d_nbf_4) rfl (by decide) (cap := 10) (by decide) (by decide) (by decide) (by decide) (ad := "[B") (by decide +kernel)
  obtain ⟨b142, g142⟩ : ∃ z, z = h0.size := ⟨_, rfl⟩
  rw [← g142] at A142 B142 st142
  have Z142 : n0 ≤ h142.size := Nat.le_trans Z0 E142.1
  have K142 : Keep h0 h142 [] := (Keep.refl h0 []).ext E142
  have ge142 : n0 ≤ b142 := Nat.le_trans Z0 (Nat.le_of_eq g142.symm)
  have sz142 : h0.size ≤ b142 := Nat.le_trans (Keep.refl h0 []).1 (Nat.le_of_eq g142.symm)
  have V142 : Arv Z h142 b142 k142 .byte (10 : Int32) [(.int (0 : Int32)), (.int (0 : Int32)), (.int (0 : Int32)), (.int (0 : Int32)), (.int (0 : Int32)), (.int (0 : Int32)), (.int (0 : Int32)), (.int (0 : Int32)), (.int (0 : Int32)), (.int (0 : Int32))] (.int (0 : Int32)) := (Arv.new A142 (by decide)).pad (pad_rep [] _ 10)
  refine own_go st142 ?_
  show own_Got p e below _ T142 (mkF m 6 #[.val (.int (5 : Int32))] [(.ref b142)])
  refine own_retR X142 hx hby hlk hrt rfl d_nbf_6 (by decide) (by decide) rfl ?_
  show Q_nbf Z  h0 n0 _ T142.heap _
  rw [e142]
  exact ⟨b142, k142, rfl, N141, K142, sz142, B142, V142⟩
theorem d_put0_0 : decode jdk_52_method_4_code 0 = .ok (.getstatic 44, 3) := by decide +kernel
theorem d_put0_3 : decode jdk_52_method_4_code 3 = .ok (.ifCond .ne 25, 3) := by decide +kernel
theorem d_put0_28 : decode jdk_52_method_4_code 28 = .ok (.iload_n 1, 1) := by decide +kernel
theorem d_put0_29 : decode jdk_52_method_4_code 29 = .ok (.iconst 1, 1) := by decide +kernel
theorem d_put0_30 : decode jdk_52_method_4_code 30 = .ok (.ishl, 1) := by decide +kernel
theorem d_put0_31 : decode jdk_52_method_4_code 31 = .ok (.istore_n 1, 1) := by decide +kernel
theorem d_put0_32 : decode jdk_52_method_4_code 32 = .ok (.aload_n 0, 1) := by decide +kernel
theorem d_put0_33 : decode jdk_52_method_4_code 33 = .ok (.iload_n 1, 1) := by decide +kernel
theorem d_put0_34 : decode jdk_52_method_4_code 34 = .ok (.iinc 1 1, 3) := by decide +kernel
theorem d_put0_37 : decode jdk_52_method_4_code 37 = .ok (.iload_n 2, 1) := by decide +kernel
theorem d_put0_38 : decode jdk_52_method_4_code 38 = .ok (.getstatic 59, 3) := by decide +kernel
theorem d_put0_41 : decode jdk_52_method_4_code 41 = .ok (.ishr, 1) := by decide +kernel
theorem d_put0_42 : decode jdk_52_method_4_code 42 = .ok (.i2b, 1) := by decide +kernel
theorem d_put0_43 : decode jdk_52_method_4_code 43 = .ok (.bastore, 1) := by decide +kernel
theorem d_put0_44 : decode jdk_52_method_4_code 44 = .ok (.aload_n 0, 1) := by decide +kernel
theorem d_put0_45 : decode jdk_52_method_4_code 45 = .ok (.iload_n 1, 1) := by decide +kernel
theorem d_put0_46 : decode jdk_52_method_4_code 46 = .ok (.iload_n 2, 1) := by decide +kernel
theorem d_put0_47 : decode jdk_52_method_4_code 47 = .ok (.getstatic 63, 3) := by decide +kernel
theorem d_put0_50 : decode jdk_52_method_4_code 50 = .ok (.ishr, 1) := by decide +kernel
theorem d_put0_51 : decode jdk_52_method_4_code 51 = .ok (.i2b, 1) := by decide +kernel
theorem d_put0_52 : decode jdk_52_method_4_code 52 = .ok (.bastore, 1) := by decide +kernel
theorem d_put0_53 : decode jdk_52_method_4_code 53 = .ok (.return_, 1) := by decide +kernel
theorem ef_put0 (m : MethodId) (a0 : Addr) (x : Int32) : entryFrame m #[(.ref a0), (.int (0 : Int32)), (.int x)] 3 = mkF m 0 #[.val (.ref a0), .val (.int (0 : Int32)), .val (.int x)] [] := by first | (simp [entryFrame, mkF, argsToLocals, Value.category]; done) | rfl
def Q_put0 (Z : State) (a0 : Addr) (x : Int32) (kb : ClassId) (v0 : Int32) (v1 : Int32) (v2 : Int32) (v3 : Int32) (v4 : Int32) (v5 : Int32) (v6 : Int32) (v7 : Int32) (v8 : Int32) (v9 : Int32) (h0 : Heap) (n0 : Nat) (v : Option Value) (h : Heap) (L : List Loc) : Prop := v = none ∧ Fr n0 L ∧ Keep h0 h [a0] ∧ Exa Z h a0 "[B" ∧ Arv Z h a0 kb .byte (10 : Int32) [(.int ((x >>> ((0 : Int32) &&& 31)).toInt8.toInt32)), (.int ((x >>> ((8 : Int32) &&& 31)).toInt8.toInt32)), (.int v2), (.int v3), (.int v4), (.int v5), (.int v6), (.int v7), (.int v8), (.int v9)] (.int (0 : Int32))
set_option maxRecDepth 65536 in
set_option maxHeartbeats 40000000 in
theorem rm_put0 (l : Launch) (Z : State) (aT : Array Value) (hw : ∀ d ∈ tables_1, d.before aT Z = true) (ws : List Jvm.Cond) (a0 : Addr) (x : Int32) (kb : ClassId) (v0 : Int32) (v1 : Int32) (v2 : Int32) (v3 : Int32) (v4 : Int32) (v5 : Int32) (v6 : Int32) (v7 : Int32) (v8 : Int32) (v9 : Int32) (h0 : Heap) (n0 : Nat) (Z0 : n0 ≤ h0.size) (hp0 : Exa Z h0 a0 "[B") (hp1 : Arv Z h0 a0 kb .byte (10 : Int32) [(.int v0), (.int v1), (.int v2), (.int v3), (.int v4), (.int v5), (.int v6), (.int v7), (.int v8), (.int v9)] (.int (0 : Int32))) (hp2 : n0 ≤ a0) (hp3 : Sta Z h0 "java/lang/StringUTF16" "$assertionsDisabled" "Z" (.int (1 : Int32))) (hp4 : Sta Z h0 "java/lang/StringUTF16" "HI_BYTE_SHIFT" "I" (.int (0 : Int32))) (hp5 : Sta Z h0 "java/lang/StringUTF16" "LO_BYTE_SHIFT" "I" (.int (8 : Int32))) :
    MetFree l mN22 (head1 (Jvm.Cond.code mN22 jdk_52_method_4_code 3 none :: ws) ({ frames := 0, cells := 0, slots := 0, locals := 0 } : Room)) (fun a U => a = #[(.ref a0), (.int (0 : Int32)), (.int x)] ∧ Z.Warmed39 U.vm ∧ U.heap = h0) (fun _ _ _ _ _ => True) (fun _ U o U' => ∃ v L, o = .returned v ∧ Q_put0 Z a0 x kb v0 v1 v2 v3 v4 v5 v6 v7 v8 v9 h0 n0 v U'.heap L ∧ FrameEnd U o U' L ({ frames := 0, cells := 0, slots := 0, locals := 0 } : Room).cells ({ frames := 0, cells := 0, slots := 0, locals := 0 } : Room).slots) := by
  refine MetFree.of_bodySF (plainFor_of_name pn2) hisR ?_
  intro p e s m args below meth c s₁ Bd hml0 hP hK
  obtain ⟨rfl, hZ, hh⟩ := hP
  have hx := Bd.exec
  have hby := Bd.bytes
  have hml : c.maxLocals = 3 := hml0
  have hown : s.vm.findClass "java/lang/StringUTF16" = some m.cls := findClass_of_methodNamed Bd.named
  have hnm := (name_of_methodNamed Bd.named Bd.method).1
  have hlk := Bd.notSynchronized
  have hrt := Bd.returns
  have X0 : Stand p l e ({ frames := 0, cells := 0, slots := 0, locals := 0 } : Room) s m #[(.ref a0), (.int (0 : Int32)), (.int x)] below meth c s₁ [] 0 0 := Stand.of_body Bd
  have e0 : s₁.heap = h0 := by rw [← hh, Bd.state]; rfl
  have N0 := Fr.nil n0
  refine own_cast (P := own_End s (Q_put0 Z a0 x kb v0 v1 v2 v3 v4 v5 v6 v7 v8 v9 h0 n0) ({ frames := 0, cells := 0, slots := 0, locals := 0 } : Room).cells ({ frames := 0, cells := 0, slots := 0, locals := 0 } : Room).slots) (ef_put0 m a0 x) ?_
  obtain ⟨T143, X143, e143, st143⟩ := getS2 X0 hx hZ hown (host := "") (Or.inl (hw _ (own_M 116 rfl))) Via.refl e0 hp3 (g := (mkF m 0 #[.val (.ref a0), .val (.int (0 : Int32)), .val (.int x)] [])) rfl (hb hby d_put0_0)
  refine own_go st143 ?_
  show own_Got p e below _ T143 (mkF m 3 #[.val (.ref a0), .val (.int (0 : Int32)), .val (.int x)] [(.int (1 : Int32))])
  refine g_ifT X143 hx hby d_put0_3 ((if0 _ _).trans (feq (by decide : ¬ ((1 : Int32) = (0 : Int32)))).2) (by decide) (pc' := 28) (by decide) ?_
  refine g_iloadN X143 hx hby d_put0_28 rfl (rfl : 28 + 1 = 29) ?_
  refine g_iconst X143 hx hby (1 : Int32) d_put0_29 (by decide) (rfl : 29 + 1 = 30) ?_
  refine g_ishl X143 hx hby d_put0_30 (rfl : 30 + 1 = 31) ?_
  rw [(by decide : ((0 : Int32) <<< ((1 : Int32) &&& 31)) = (0 : Int32))]
  refine g_istoreN X143 hx hby #[.val (.ref a0), .val (.int (0 : Int32)), .val (.int x)] d_put0_31 rfl (rfl : 31 + 1 = 32) ?_
  refine g_aloadN X143 hx hby d_put0_32 rfl rfl (rfl : 32 + 1 = 33) ?_
  refine g_iloadN X143 hx hby d_put0_33 rfl (rfl : 33 + 1 = 34) ?_
  refine g_iinc X143 hx hby #[.val (.ref a0), .val (.int ((0 : Int32) + (1 : Int32))), .val (.int x)] d_put0_34 rfl rfl (rfl : 34 + 3 = 37) ?_
  rw [(by decide : ((0 : Int32) + (1 : Int32)) = (1 : Int32))]
  refine g_iloadN X143 hx hby d_put0_37 rfl (rfl : 37 + 1 = 38) ?_
  obtain ⟨T144, X144, e144, st144⟩ := getS2 X143 hx hZ hown (host := "") (Or.inl (hw _ (own_M 117 rfl))) Via.refl e143 hp4 (g := (mkF m 38 #[.val (.ref a0), .val (.int (1 : Int32)), .val (.int x)] [(.int x), (.int (0 : Int32)), (.ref a0)])) rfl (hb hby d_put0_38)
  refine own_go st144 ?_
  show own_Got p e below _ T144 (mkF m 41 #[.val (.ref a0), .val (.int (1 : Int32)), .val (.int x)] [(.int (0 : Int32)), (.int x), (.int (0 : Int32)), (.ref a0)])
  refine g_ishr X144 hx hby d_put0_41 (rfl : 41 + 1 = 42) ?_
  refine g_i2b X144 hx hby d_put0_42 (rfl : 42 + 1 = 43) ?_
  obtain ⟨T145, h145, X145, e145, W145, V145, st145⟩ := a_bastore X144 hx hby hZ e144 (ls := #[.val (.ref a0), .val (.int (1 : Int32)), .val (.int x)]) (st := []) (j := (0 : Int32)) ((x >>> ((0 : Int32) &&& 31)).toInt8.toInt32) 0 hp1 ⟨by decide, by decide⟩ (by decide) (Nat.le_of_ble_eq_true rfl) d_put0_43
  have Z145 : n0 ≤ h145.size := Nat.le_trans Z0 (Keep.of_wr W145).1
  have N145 := Fr.snoc X145 N0 hp2
  have K145 : Keep h0 h145 [a0] := (Keep.refl h0 [a0]).wr W145 (Or.inl (List.mem_of_getElem? (i := 0) rfl))
  have V145' : Arv Z h145 a0 kb .byte (10 : Int32) [(.int ((x >>> ((0 : Int32) &&& 31)).toInt8.toInt32)), (.int v1), (.int v2), (.int v3), (.int v4), (.int v5), (.int v6), (.int v7), (.int v8), (.int v9)] (.int (0 : Int32)) := by have q := V145; rw [own_nb] at q; exact q
  refine own_go st145 ?_
  show own_Got p e below _ T145 (mkF m 44 #[.val (.ref a0), .val (.int (1 : Int32)), .val (.int x)] [])
  refine g_aloadN X145 hx hby d_put0_44 rfl rfl (rfl : 44 + 1 = 45) ?_
  refine g_iloadN X145 hx hby d_put0_45 rfl (rfl : 45 + 1 = 46) ?_
  refine g_iloadN X145 hx hby d_put0_46 rfl (rfl : 46 + 1 = 47) ?_
  have f146 : Sta Z h145 "java/lang/StringUTF16" "LO_BYTE_SHIFT" "I" (.int (8 : Int32)) := (Sta.wr W145 hp5)
  obtain ⟨T147, X147, e147, st147⟩ := getS2 X145 hx hZ hown (host := "") (Or.inl (hw _ (own_M 118 rfl))) Via.refl e145 f146 (g := (mkF m 47 #[.val (.ref a0), .val (.int (1 : Int32)), .val (.int x)] [(.int x), (.int (1 : Int32)), (.ref a0)])) rfl (hb hby d_put0_47)
  refine own_go st147 ?_
  show own_Got p e below _ T147 (mkF m 50 #[.val (.ref a0), .val (.int (1 : Int32)), .val (.int x)] [(.int (8 : Int32)), (.int x), (.int (1 : Int32)), (.ref a0)])
  refine g_ishr X147 hx hby d_put0_50 (rfl : 50 + 1 = 51) ?_
  refine g_i2b X147 hx hby d_put0_51 (rfl : 51 + 1 = 52) ?_
  obtain ⟨T148, h148, X148, e148, W148, V148, st148⟩ := a_bastore X147 hx hby hZ e147 (ls := #[.val (.ref a0), .val (.int (1 : Int32)), .val (.int x)]) (st := []) (j := (1 : Int32)) ((x >>> ((8 : Int32) &&& 31)).toInt8.toInt32) 1 V145' ⟨by decide, by decide⟩ (by decide) (Nat.le_of_ble_eq_true rfl) d_put0_52
  have Z148 : n0 ≤ h148.size := Nat.le_trans Z145 (Keep.of_wr W148).1
  have N148 := Fr.snoc X148 N145 hp2
  have K148 : Keep h0 h148 [a0] := K145.wr W148 (Or.inl (List.mem_of_getElem? (i := 0) rfl))
  have V148' : Arv Z h148 a0 kb .byte (10 : Int32) [(.int ((x >>> ((0 : Int32) &&& 31)).toInt8.toInt32)), (.int ((x >>> ((8 : Int32) &&& 31)).toInt8.toInt32)), (.int v2), (.int v3), (.int v4), (.int v5), (.int v6), (.int v7), (.int v8), (.int v9)] (.int (0 : Int32)) := by have q := V148; rw [own_nb] at q; exact q
  refine own_go st148 ?_
  show own_Got p e below _ T148 (mkF m 53 #[.val (.ref a0), .val (.int (1 : Int32)), .val (.int x)] [])
  have f149 : Exa Z h148 a0 "[B" := (Exa.wr W148 (Exa.wr W145 hp0))
  refine own_retV X148 hx hby hlk hrt d_put0_53 (by decide) (by decide) ?_
  show Q_put0 Z a0 x kb v0 v1 v2 v3 v4 v5 v6 v7 v8 v9 h0 n0 _ T148.heap _
  rw [e148]
  exact ⟨rfl, N148, K148, f149, V148'⟩
theorem d_put1_0 : decode jdk_52_method_4_code 0 = .ok (.getstatic 44, 3) := by decide +kernel
theorem d_put1_3 : decode jdk_52_method_4_code 3 = .ok (.ifCond .ne 25, 3) := by decide +kernel
theorem d_put1_28 : decode jdk_52_method_4_code 28 = .ok (.iload_n 1, 1) := by decide +kernel
theorem d_put1_29 : decode jdk_52_method_4_code 29 = .ok (.iconst 1, 1) := by decide +kernel
theorem d_put1_30 : decode jdk_52_method_4_code 30 = .ok (.ishl, 1) := by decide +kernel
theorem d_put1_31 : decode jdk_52_method_4_code 31 = .ok (.istore_n 1, 1) := by decide +kernel
theorem d_put1_32 : decode jdk_52_method_4_code 32 = .ok (.aload_n 0, 1) := by decide +kernel
theorem d_put1_33 : decode jdk_52_method_4_code 33 = .ok (.iload_n 1, 1) := by decide +kernel
theorem d_put1_34 : decode jdk_52_method_4_code 34 = .ok (.iinc 1 1, 3) := by decide +kernel
theorem d_put1_37 : decode jdk_52_method_4_code 37 = .ok (.iload_n 2, 1) := by decide +kernel
theorem d_put1_38 : decode jdk_52_method_4_code 38 = .ok (.getstatic 59, 3) := by decide +kernel
theorem d_put1_41 : decode jdk_52_method_4_code 41 = .ok (.ishr, 1) := by decide +kernel
theorem d_put1_42 : decode jdk_52_method_4_code 42 = .ok (.i2b, 1) := by decide +kernel
theorem d_put1_43 : decode jdk_52_method_4_code 43 = .ok (.bastore, 1) := by decide +kernel
theorem d_put1_44 : decode jdk_52_method_4_code 44 = .ok (.aload_n 0, 1) := by decide +kernel
theorem d_put1_45 : decode jdk_52_method_4_code 45 = .ok (.iload_n 1, 1) := by decide +kernel
theorem d_put1_46 : decode jdk_52_method_4_code 46 = .ok (.iload_n 2, 1) := by decide +kernel
theorem d_put1_47 : decode jdk_52_method_4_code 47 = .ok (.getstatic 63, 3) := by decide +kernel
theorem d_put1_50 : decode jdk_52_method_4_code 50 = .ok (.ishr, 1) := by decide +kernel
theorem d_put1_51 : decode jdk_52_method_4_code 51 = .ok (.i2b, 1) := by decide +kernel
theorem d_put1_52 : decode jdk_52_method_4_code 52 = .ok (.bastore, 1) := by decide +kernel
theorem d_put1_53 : decode jdk_52_method_4_code 53 = .ok (.return_, 1) := by decide +kernel
theorem ef_put1 (m : MethodId) (a0 : Addr) (x : Int32) : entryFrame m #[(.ref a0), (.int (1 : Int32)), (.int x)] 3 = mkF m 0 #[.val (.ref a0), .val (.int (1 : Int32)), .val (.int x)] [] := by first | (simp [entryFrame, mkF, argsToLocals, Value.category]; done) | rfl
def Q_put1 (Z : State) (a0 : Addr) (x : Int32) (kb : ClassId) (v0 : Int32) (v1 : Int32) (v2 : Int32) (v3 : Int32) (v4 : Int32) (v5 : Int32) (v6 : Int32) (v7 : Int32) (v8 : Int32) (v9 : Int32) (h0 : Heap) (n0 : Nat) (v : Option Value) (h : Heap) (L : List Loc) : Prop := v = none ∧ Fr n0 L ∧ Keep h0 h [a0] ∧ Exa Z h a0 "[B" ∧ Arv Z h a0 kb .byte (10 : Int32) [(.int v0), (.int v1), (.int ((x >>> ((0 : Int32) &&& 31)).toInt8.toInt32)), (.int ((x >>> ((8 : Int32) &&& 31)).toInt8.toInt32)), (.int v4), (.int v5), (.int v6), (.int v7), (.int v8), (.int v9)] (.int (0 : Int32))
set_option maxRecDepth 65536 in
set_option maxHeartbeats 40000000 in
theorem rm_put1 (l : Launch) (Z : State) (aT : Array Value) (hw : ∀ d ∈ tables_1, d.before aT Z = true) (ws : List Jvm.Cond) (a0 : Addr) (x : Int32) (kb : ClassId) (v0 : Int32) (v1 : Int32) (v2 : Int32) (v3 : Int32) (v4 : Int32) (v5 : Int32) (v6 : Int32) (v7 : Int32) (v8 : Int32) (v9 : Int32) (h0 : Heap) (n0 : Nat) (Z0 : n0 ≤ h0.size) (hp0 : Exa Z h0 a0 "[B") (hp1 : Arv Z h0 a0 kb .byte (10 : Int32) [(.int v0), (.int v1), (.int v2), (.int v3), (.int v4), (.int v5), (.int v6), (.int v7), (.int v8), (.int v9)] (.int (0 : Int32))) (hp2 : n0 ≤ a0) (hp3 : Sta Z h0 "java/lang/StringUTF16" "$assertionsDisabled" "Z" (.int (1 : Int32))) (hp4 : Sta Z h0 "java/lang/StringUTF16" "HI_BYTE_SHIFT" "I" (.int (0 : Int32))) (hp5 : Sta Z h0 "java/lang/StringUTF16" "LO_BYTE_SHIFT" "I" (.int (8 : Int32))) :
    MetFree l mN22 (head1 (Jvm.Cond.code mN22 jdk_52_method_4_code 3 none :: ws) ({ frames := 0, cells := 0, slots := 0, locals := 0 } : Room)) (fun a U => a = #[(.ref a0), (.int (1 : Int32)), (.int x)] ∧ Z.Warmed39 U.vm ∧ U.heap = h0) (fun _ _ _ _ _ => True) (fun _ U o U' => ∃ v L, o = .returned v ∧ Q_put1 Z a0 x kb v0 v1 v2 v3 v4 v5 v6 v7 v8 v9 h0 n0 v U'.heap L ∧ FrameEnd U o U' L ({ frames := 0, cells := 0, slots := 0, locals := 0 } : Room).cells ({ frames := 0, cells := 0, slots := 0, locals := 0 } : Room).slots) := by
  refine MetFree.of_bodySF (plainFor_of_name pn2) hisR ?_
  intro p e s m args below meth c s₁ Bd hml0 hP hK
  obtain ⟨rfl, hZ, hh⟩ := hP
  have hx := Bd.exec
  have hby := Bd.bytes
  have hml : c.maxLocals = 3 := hml0
  have hown : s.vm.findClass "java/lang/StringUTF16" = some m.cls := findClass_of_methodNamed Bd.named
  have hnm := (name_of_methodNamed Bd.named Bd.method).1
  have hlk := Bd.notSynchronized
  have hrt := Bd.returns
  have X0 : Stand p l e ({ frames := 0, cells := 0, slots := 0, locals := 0 } : Room) s m #[(.ref a0), (.int (1 : Int32)), (.int x)] below meth c s₁ [] 0 0 := Stand.of_body Bd
  have e0 : s₁.heap = h0 := by rw [← hh, Bd.state]; rfl
  have N0 := Fr.nil n0
  refine own_cast (P := own_End s (Q_put1 Z a0 x kb v0 v1 v2 v3 v4 v5 v6 v7 v8 v9 h0 n0) ({ frames := 0, cells := 0, slots := 0, locals := 0 } : Room).cells ({ frames := 0, cells := 0, slots := 0, locals := 0 } : Room).slots) (ef_put1 m a0 x) ?_
  obtain ⟨T150, X150, e150, st150⟩ := getS2 X0 hx hZ hown (host := "") (Or.inl (hw _ (own_M 116 rfl))) Via.refl e0 hp3 (g := (mkF m 0 #[.val (.ref a0), .val (.int (1 : Int32)), .val (.int x)] [])) rfl (hb hby d_put1_0)
  refine own_go st150 ?_
  show own_Got p e below _ T150 (mkF m 3 #[.val (.ref a0), .val (.int (1 : Int32)), .val (.int x)] [(.int (1 : Int32))])
  refine g_ifT X150 hx hby d_put1_3 ((if0 _ _).trans (feq (by decide : ¬ ((1 : Int32) = (0 : Int32)))).2) (by decide) (pc' := 28) (by decide) ?_
  refine g_iloadN X150 hx hby d_put1_28 rfl (rfl : 28 + 1 = 29) ?_
  refine g_iconst X150 hx hby (1 : Int32) d_put1_29 (by decide) (rfl : 29 + 1 = 30) ?_
  refine g_ishl X150 hx hby d_put1_30 (rfl : 30 + 1 = 31) ?_
  rw [(by decide : ((1 : Int32) <<< ((1 : Int32) &&& 31)) = (2 : Int32))]
  refine g_istoreN X150 hx hby #[.val (.ref a0), .val (.int (2 : Int32)), .val (.int x)] d_put1_31 rfl (rfl : 31 + 1 = 32) ?_
  refine g_aloadN X150 hx hby d_put1_32 rfl rfl (rfl : 32 + 1 = 33) ?_
  refine g_iloadN X150 hx hby d_put1_33 rfl (rfl : 33 + 1 = 34) ?_
  refine g_iinc X150 hx hby #[.val (.ref a0), .val (.int ((2 : Int32) + (1 : Int32))), .val (.int x)] d_put1_34 rfl rfl (rfl : 34 + 3 = 37) ?_
  rw [(by decide : ((2 : Int32) + (1 : Int32)) = (3 : Int32))]
  refine g_iloadN X150 hx hby d_put1_37 rfl (rfl : 37 + 1 = 38) ?_
  obtain ⟨T151, X151, e151, st151⟩ := getS2 X150 hx hZ hown (host := "") (Or.inl (hw _ (own_M 117 rfl))) Via.refl e150 hp4 (g := (mkF m 38 #[.val (.ref a0), .val (.int (3 : Int32)), .val (.int x)] [(.int x), (.int (2 : Int32)), (.ref a0)])) rfl (hb hby d_put1_38)
  refine own_go st151 ?_
  show own_Got p e below _ T151 (mkF m 41 #[.val (.ref a0), .val (.int (3 : Int32)), .val (.int x)] [(.int (0 : Int32)), (.int x), (.int (2 : Int32)), (.ref a0)])
  refine g_ishr X151 hx hby d_put1_41 (rfl : 41 + 1 = 42) ?_
  refine g_i2b X151 hx hby d_put1_42 (rfl : 42 + 1 = 43) ?_
  obtain ⟨T152, h152, X152, e152, W152, V152, st152⟩ := a_bastore X151 hx hby hZ e151 (ls := #[.val (.ref a0), .val (.int (3 : Int32)), .val (.int x)]) (st := []) (j := (2 : Int32)) ((x >>> ((0 : Int32) &&& 31)).toInt8.toInt32) 2 hp1 ⟨by decide, by decide⟩ (by decide) (Nat.le_of_ble_eq_true rfl) d_put1_43
  have Z152 : n0 ≤ h152.size := Nat.le_trans Z0 (Keep.of_wr W152).1
  have N152 := Fr.snoc X152 N0 hp2
  have K152 : Keep h0 h152 [a0] := (Keep.refl h0 [a0]).wr W152 (Or.inl (List.mem_of_getElem? (i := 0) rfl))
  have V152' : Arv Z h152 a0 kb .byte (10 : Int32) [(.int v0), (.int v1), (.int ((x >>> ((0 : Int32) &&& 31)).toInt8.toInt32)), (.int v3), (.int v4), (.int v5), (.int v6), (.int v7), (.int v8), (.int v9)] (.int (0 : Int32)) := by have q := V152; rw [own_nb] at q; exact q
  refine own_go st152 ?_
  show own_Got p e below _ T152 (mkF m 44 #[.val (.ref a0), .val (.int (3 : Int32)), .val (.int x)] [])
  refine g_aloadN X152 hx hby d_put1_44 rfl rfl (rfl : 44 + 1 = 45) ?_
  refine g_iloadN X152 hx hby d_put1_45 rfl (rfl : 45 + 1 = 46) ?_
  refine g_iloadN X152 hx hby d_put1_46 rfl (rfl : 46 + 1 = 47) ?_
  have f153 : Sta Z h152 "java/lang/StringUTF16" "LO_BYTE_SHIFT" "I" (.int (8 : Int32)) := (Sta.wr W152 hp5)
  obtain ⟨T154, X154, e154, st154⟩ := getS2 X152 hx hZ hown (host := "") (Or.inl (hw _ (own_M 118 rfl))) Via.refl e152 f153 (g := (mkF m 47 #[.val (.ref a0), .val (.int (3 : Int32)), .val (.int x)] [(.int x), (.int (3 : Int32)), (.ref a0)])) rfl (hb hby d_put1_47)
  refine own_go st154 ?_
  show own_Got p e below _ T154 (mkF m 50 #[.val (.ref a0), .val (.int (3 : Int32)), .val (.int x)] [(.int (8 : Int32)), (.int x), (.int (3 : Int32)), (.ref a0)])
  refine g_ishr X154 hx hby d_put1_50 (rfl : 50 + 1 = 51) ?_
  refine g_i2b X154 hx hby d_put1_51 (rfl : 51 + 1 = 52) ?_
  obtain ⟨T155, h155, X155, e155, W155, V155, st155⟩ := a_bastore X154 hx hby hZ e154 (ls := #[.val (.ref a0), .val (.int (3 : Int32)), .val (.int x)]) (st := []) (j := (3 : Int32)) ((x >>> ((8 : Int32) &&& 31)).toInt8.toInt32) 3 V152' ⟨by decide, by decide⟩ (by decide) (Nat.le_of_ble_eq_true rfl) d_put1_52
  have Z155 : n0 ≤ h155.size := Nat.le_trans Z152 (Keep.of_wr W155).1
  have N155 := Fr.snoc X155 N152 hp2
  have K155 : Keep h0 h155 [a0] := K152.wr W155 (Or.inl (List.mem_of_getElem? (i := 0) rfl))
  have V155' : Arv Z h155 a0 kb .byte (10 : Int32) [(.int v0), (.int v1), (.int ((x >>> ((0 : Int32) &&& 31)).toInt8.toInt32)), (.int ((x >>> ((8 : Int32) &&& 31)).toInt8.toInt32)), (.int v4), (.int v5), (.int v6), (.int v7), (.int v8), (.int v9)] (.int (0 : Int32)) := by have q := V155; rw [own_nb] at q; exact q
  refine own_go st155 ?_
  show own_Got p e below _ T155 (mkF m 53 #[.val (.ref a0), .val (.int (3 : Int32)), .val (.int x)] [])
  have f156 : Exa Z h155 a0 "[B" := (Exa.wr W155 (Exa.wr W152 hp0))
  refine own_retV X155 hx hby hlk hrt d_put1_53 (by decide) (by decide) ?_
  show Q_put1 Z a0 x kb v0 v1 v2 v3 v4 v5 v6 v7 v8 v9 h0 n0 _ T155.heap _
  rw [e155]
  exact ⟨rfl, N155, K155, f156, V155'⟩
theorem d_put2_0 : decode jdk_52_method_4_code 0 = .ok (.getstatic 44, 3) := by decide +kernel
theorem d_put2_3 : decode jdk_52_method_4_code 3 = .ok (.ifCond .ne 25, 3) := by decide +kernel
theorem d_put2_28 : decode jdk_52_method_4_code 28 = .ok (.iload_n 1, 1) := by decide +kernel
theorem d_put2_29 : decode jdk_52_method_4_code 29 = .ok (.iconst 1, 1) := by decide +kernel
theorem d_put2_30 : decode jdk_52_method_4_code 30 = .ok (.ishl, 1) := by decide +kernel
theorem d_put2_31 : decode jdk_52_method_4_code 31 = .ok (.istore_n 1, 1) := by decide +kernel
theorem d_put2_32 : decode jdk_52_method_4_code 32 = .ok (.aload_n 0, 1) := by decide +kernel
theorem d_put2_33 : decode jdk_52_method_4_code 33 = .ok (.iload_n 1, 1) := by decide +kernel
theorem d_put2_34 : decode jdk_52_method_4_code 34 = .ok (.iinc 1 1, 3) := by decide +kernel
theorem d_put2_37 : decode jdk_52_method_4_code 37 = .ok (.iload_n 2, 1) := by decide +kernel
theorem d_put2_38 : decode jdk_52_method_4_code 38 = .ok (.getstatic 59, 3) := by decide +kernel
theorem d_put2_41 : decode jdk_52_method_4_code 41 = .ok (.ishr, 1) := by decide +kernel
theorem d_put2_42 : decode jdk_52_method_4_code 42 = .ok (.i2b, 1) := by decide +kernel
theorem d_put2_43 : decode jdk_52_method_4_code 43 = .ok (.bastore, 1) := by decide +kernel
theorem d_put2_44 : decode jdk_52_method_4_code 44 = .ok (.aload_n 0, 1) := by decide +kernel
theorem d_put2_45 : decode jdk_52_method_4_code 45 = .ok (.iload_n 1, 1) := by decide +kernel
theorem d_put2_46 : decode jdk_52_method_4_code 46 = .ok (.iload_n 2, 1) := by decide +kernel
theorem d_put2_47 : decode jdk_52_method_4_code 47 = .ok (.getstatic 63, 3) := by decide +kernel
theorem d_put2_50 : decode jdk_52_method_4_code 50 = .ok (.ishr, 1) := by decide +kernel
theorem d_put2_51 : decode jdk_52_method_4_code 51 = .ok (.i2b, 1) := by decide +kernel
theorem d_put2_52 : decode jdk_52_method_4_code 52 = .ok (.bastore, 1) := by decide +kernel
theorem d_put2_53 : decode jdk_52_method_4_code 53 = .ok (.return_, 1) := by decide +kernel
theorem ef_put2 (m : MethodId) (a0 : Addr) (x : Int32) : entryFrame m #[(.ref a0), (.int (2 : Int32)), (.int x)] 3 = mkF m 0 #[.val (.ref a0), .val (.int (2 : Int32)), .val (.int x)] [] := by first | (simp [entryFrame, mkF, argsToLocals, Value.category]; done) | rfl
def Q_put2 (Z : State) (a0 : Addr) (x : Int32) (kb : ClassId) (v0 : Int32) (v1 : Int32) (v2 : Int32) (v3 : Int32) (v4 : Int32) (v5 : Int32) (v6 : Int32) (v7 : Int32) (v8 : Int32) (v9 : Int32) (h0 : Heap) (n0 : Nat) (v : Option Value) (h : Heap) (L : List Loc) : Prop := v = none ∧ Fr n0 L ∧ Keep h0 h [a0] ∧ Exa Z h a0 "[B" ∧ Arv Z h a0 kb .byte (10 : Int32) [(.int v0), (.int v1), (.int v2), (.int v3), (.int ((x >>> ((0 : Int32) &&& 31)).toInt8.toInt32)), (.int ((x >>> ((8 : Int32) &&& 31)).toInt8.toInt32)), (.int v6), (.int v7), (.int v8), (.int v9)] (.int (0 : Int32))
set_option maxRecDepth 65536 in
set_option maxHeartbeats 40000000 in
theorem rm_put2 (l : Launch) (Z : State) (aT : Array Value) (hw : ∀ d ∈ tables_1, d.before aT Z = true) (ws : List Jvm.Cond) (a0 : Addr) (x : Int32) (kb : ClassId) (v0 : Int32) (v1 : Int32) (v2 : Int32) (v3 : Int32) (v4 : Int32) (v5 : Int32) (v6 : Int32) (v7 : Int32) (v8 : Int32) (v9 : Int32) (h0 : Heap) (n0 : Nat) (Z0 : n0 ≤ h0.size) (hp0 : Exa Z h0 a0 "[B") (hp1 : Arv Z h0 a0 kb .byte (10 : Int32) [(.int v0), (.int v1), (.int v2), (.int v3), (.int v4), (.int v5), (.int v6), (.int v7), (.int v8), (.int v9)] (.int (0 : Int32))) (hp2 : n0 ≤ a0) (hp3 : Sta Z h0 "java/lang/StringUTF16" "$assertionsDisabled" "Z" (.int (1 : Int32))) (hp4 : Sta Z h0 "java/lang/StringUTF16" "HI_BYTE_SHIFT" "I" (.int (0 : Int32))) (hp5 : Sta Z h0 "java/lang/StringUTF16" "LO_BYTE_SHIFT" "I" (.int (8 : Int32))) :
    MetFree l mN22 (head1 (Jvm.Cond.code mN22 jdk_52_method_4_code 3 none :: ws) ({ frames := 0, cells := 0, slots := 0, locals := 0 } : Room)) (fun a U => a = #[(.ref a0), (.int (2 : Int32)), (.int x)] ∧ Z.Warmed39 U.vm ∧ U.heap = h0) (fun _ _ _ _ _ => True) (fun _ U o U' => ∃ v L, o = .returned v ∧ Q_put2 Z a0 x kb v0 v1 v2 v3 v4 v5 v6 v7 v8 v9 h0 n0 v U'.heap L ∧ FrameEnd U o U' L ({ frames := 0, cells := 0, slots := 0, locals := 0 } : Room).cells ({ frames := 0, cells := 0, slots := 0, locals := 0 } : Room).slots) := by
  refine MetFree.of_bodySF (plainFor_of_name pn2) hisR ?_
  intro p e s m args below meth c s₁ Bd hml0 hP hK
  obtain ⟨rfl, hZ, hh⟩ := hP
  have hx := Bd.exec
  have hby := Bd.bytes
  have hml : c.maxLocals = 3 := hml0
  have hown : s.vm.findClass "java/lang/StringUTF16" = some m.cls := findClass_of_methodNamed Bd.named
  have hnm := (name_of_methodNamed Bd.named Bd.method).1
  have hlk := Bd.notSynchronized
  have hrt := Bd.returns
  have X0 : Stand p l e ({ frames := 0, cells := 0, slots := 0, locals := 0 } : Room) s m #[(.ref a0), (.int (2 : Int32)), (.int x)] below meth c s₁ [] 0 0 := Stand.of_body Bd
  have e0 : s₁.heap = h0 := by rw [← hh, Bd.state]; rfl
  have N0 := Fr.nil n0
  refine own_cast (P := own_End s (Q_put2 Z a0 x kb v0 v1 v2 v3 v4 v5 v6 v7 v8 v9 h0 n0) ({ frames := 0, cells := 0, slots := 0, locals := 0 } : Room).cells ({ frames := 0, cells := 0, slots := 0, locals := 0 } : Room).slots) (ef_put2 m a0 x) ?_
  obtain ⟨T157, X157, e157, st157⟩ := getS2 X0 hx hZ hown (host := "") (Or.inl (hw _ (own_M 116 rfl))) Via.refl e0 hp3 (g := (mkF m 0 #[.val (.ref a0), .val (.int (2 : Int32)), .val (.int x)] [])) rfl (hb hby d_put2_0)
  refine own_go st157 ?_
  show own_Got p e below _ T157 (mkF m 3 #[.val (.ref a0), .val (.int (2 : Int32)), .val (.int x)] [(.int (1 : Int32))])
  refine g_ifT X157 hx hby d_put2_3 ((if0 _ _).trans (feq (by decide : ¬ ((1 : Int32) = (0 : Int32)))).2) (by decide) (pc' := 28) (by decide) ?_
  refine g_iloadN X157 hx hby d_put2_28 rfl (rfl : 28 + 1 = 29) ?_
  refine g_iconst X157 hx hby (1 : Int32) d_put2_29 (by decide) (rfl : 29 + 1 = 30) ?_
  refine g_ishl X157 hx hby d_put2_30 (rfl : 30 + 1 = 31) ?_
  rw [(by decide : ((2 : Int32) <<< ((1 : Int32) &&& 31)) = (4 : Int32))]
  refine g_istoreN X157 hx hby #[.val (.ref a0), .val (.int (4 : Int32)), .val (.int x)] d_put2_31 rfl (rfl : 31 + 1 = 32) ?_
  refine g_aloadN X157 hx hby d_put2_32 rfl rfl (rfl : 32 + 1 = 33) ?_
  refine g_iloadN X157 hx hby d_put2_33 rfl (rfl : 33 + 1 = 34) ?_
  refine g_iinc X157 hx hby #[.val (.ref a0), .val (.int ((4 : Int32) + (1 : Int32))), .val (.int x)] d_put2_34 rfl rfl (rfl : 34 + 3 = 37) ?_
  rw [(by decide : ((4 : Int32) + (1 : Int32)) = (5 : Int32))]
  refine g_iloadN X157 hx hby d_put2_37 rfl (rfl : 37 + 1 = 38) ?_
  obtain ⟨T158, X158, e158, st158⟩ := getS2 X157 hx hZ hown (host := "") (Or.inl (hw _ (own_M 117 rfl))) Via.refl e157 hp4 (g := (mkF m 38 #[.val (.ref a0), .val (.int (5 : Int32)), .val (.int x)] [(.int x), (.int (4 : Int32)), (.ref a0)])) rfl (hb hby d_put2_38)
  refine own_go st158 ?_
  show own_Got p e below _ T158 (mkF m 41 #[.val (.ref a0), .val (.int (5 : Int32)), .val (.int x)] [(.int (0 : Int32)), (.int x), (.int (4 : Int32)), (.ref a0)])
  refine g_ishr X158 hx hby d_put2_41 (rfl : 41 + 1 = 42) ?_
  refine g_i2b X158 hx hby d_put2_42 (rfl : 42 + 1 = 43) ?_
  obtain ⟨T159, h159, X159, e159, W159, V159, st159⟩ := a_bastore X158 hx hby hZ e158 (ls := #[.val (.ref a0), .val (.int (5 : Int32)), .val (.int x)]) (st := []) (j := (4 : Int32)) ((x >>> ((0 : Int32) &&& 31)).toInt8.toInt32) 4 hp1 ⟨by decide, by decide⟩ (by decide) (Nat.le_of_ble_eq_true rfl) d_put2_43
  have Z159 : n0 ≤ h159.size := Nat.le_trans Z0 (Keep.of_wr W159).1
  have N159 := Fr.snoc X159 N0 hp2
  have K159 : Keep h0 h159 [a0] := (Keep.refl h0 [a0]).wr W159 (Or.inl (List.mem_of_getElem? (i := 0) rfl))
  have V159' : Arv Z h159 a0 kb .byte (10 : Int32) [(.int v0), (.int v1), (.int v2), (.int v3), (.int ((x >>> ((0 : Int32) &&& 31)).toInt8.toInt32)), (.int v5), (.int v6), (.int v7), (.int v8), (.int v9)] (.int (0 : Int32)) := by have q := V159; rw [own_nb] at q; exact q
  refine own_go st159 ?_
  show own_Got p e below _ T159 (mkF m 44 #[.val (.ref a0), .val (.int (5 : Int32)), .val (.int x)] [])
  refine g_aloadN X159 hx hby d_put2_44 rfl rfl (rfl : 44 + 1 = 45) ?_
  refine g_iloadN X159 hx hby d_put2_45 rfl (rfl : 45 + 1 = 46) ?_
  refine g_iloadN X159 hx hby d_put2_46 rfl (rfl : 46 + 1 = 47) ?_
  have f160 : Sta Z h159 "java/lang/StringUTF16" "LO_BYTE_SHIFT" "I" (.int (8 : Int32)) := (Sta.wr W159 hp5)
  obtain ⟨T161, X161, e161, st161⟩ := getS2 X159 hx hZ hown (host := "") (Or.inl (hw _ (own_M 118 rfl))) Via.refl e159 f160 (g := (mkF m 47 #[.val (.ref a0), .val (.int (5 : Int32)), .val (.int x)] [(.int x), (.int (5 : Int32)), (.ref a0)])) rfl (hb hby d_put2_47)
  refine own_go st161 ?_
  show own_Got p e below _ T161 (mkF m 50 #[.val (.ref a0), .val (.int (5 : Int32)), .val (.int x)] [(.int (8 : Int32)), (.int x), (.int (5 : Int32)), (.ref a0)])
  refine g_ishr X161 hx hby d_put2_50 (rfl : 50 + 1 = 51) ?_
  refine g_i2b X161 hx hby d_put2_51 (rfl : 51 + 1 = 52) ?_
  obtain ⟨T162, h162, X162, e162, W162, V162, st162⟩ := a_bastore X161 hx hby hZ e161 (ls := #[.val (.ref a0), .val (.int (5 : Int32)), .val (.int x)]) (st := []) (j := (5 : Int32)) ((x >>> ((8 : Int32) &&& 31)).toInt8.toInt32) 5 V159' ⟨by decide, by decide⟩ (by decide) (Nat.le_of_ble_eq_true rfl) d_put2_52
  have Z162 : n0 ≤ h162.size := Nat.le_trans Z159 (Keep.of_wr W162).1
  have N162 := Fr.snoc X162 N159 hp2
  have K162 : Keep h0 h162 [a0] := K159.wr W162 (Or.inl (List.mem_of_getElem? (i := 0) rfl))
  have V162' : Arv Z h162 a0 kb .byte (10 : Int32) [(.int v0), (.int v1), (.int v2), (.int v3), (.int ((x >>> ((0 : Int32) &&& 31)).toInt8.toInt32)), (.int ((x >>> ((8 : Int32) &&& 31)).toInt8.toInt32)), (.int v6), (.int v7), (.int v8), (.int v9)] (.int (0 : Int32)) := by have q := V162; rw [own_nb] at q; exact q
  refine own_go st162 ?_
  show own_Got p e below _ T162 (mkF m 53 #[.val (.ref a0), .val (.int (5 : Int32)), .val (.int x)] [])
  have f163 : Exa Z h162 a0 "[B" := (Exa.wr W162 (Exa.wr W159 hp0))
  refine own_retV X162 hx hby hlk hrt d_put2_53 (by decide) (by decide) ?_
  show Q_put2 Z a0 x kb v0 v1 v2 v3 v4 v5 v6 v7 v8 v9 h0 n0 _ T162.heap _
  rw [e162]
  exact ⟨rfl, N162, K162, f163, V162'⟩
theorem d_put3_0 : decode jdk_52_method_4_code 0 = .ok (.getstatic 44, 3) := by decide +kernel
theorem d_put3_3 : decode jdk_52_method_4_code 3 = .ok (.ifCond .ne 25, 3) := by decide +kernel
theorem d_put3_28 : decode jdk_52_method_4_code 28 = .ok (.iload_n 1, 1) := by decide +kernel
theorem d_put3_29 : decode jdk_52_method_4_code 29 = .ok (.iconst 1, 1) := by decide +kernel
theorem d_put3_30 : decode jdk_52_method_4_code 30 = .ok (.ishl, 1) := by decide +kernel
theorem d_put3_31 : decode jdk_52_method_4_code 31 = .ok (.istore_n 1, 1) := by decide +kernel
theorem d_put3_32 : decode jdk_52_method_4_code 32 = .ok (.aload_n 0, 1) := by decide +kernel
theorem d_put3_33 : decode jdk_52_method_4_code 33 = .ok (.iload_n 1, 1) := by decide +kernel
theorem d_put3_34 : decode jdk_52_method_4_code 34 = .ok (.iinc 1 1, 3) := by decide +kernel
theorem d_put3_37 : decode jdk_52_method_4_code 37 = .ok (.iload_n 2, 1) := by decide +kernel
theorem d_put3_38 : decode jdk_52_method_4_code 38 = .ok (.getstatic 59, 3) := by decide +kernel
theorem d_put3_41 : decode jdk_52_method_4_code 41 = .ok (.ishr, 1) := by decide +kernel
theorem d_put3_42 : decode jdk_52_method_4_code 42 = .ok (.i2b, 1) := by decide +kernel
theorem d_put3_43 : decode jdk_52_method_4_code 43 = .ok (.bastore, 1) := by decide +kernel
theorem d_put3_44 : decode jdk_52_method_4_code 44 = .ok (.aload_n 0, 1) := by decide +kernel
theorem d_put3_45 : decode jdk_52_method_4_code 45 = .ok (.iload_n 1, 1) := by decide +kernel
theorem d_put3_46 : decode jdk_52_method_4_code 46 = .ok (.iload_n 2, 1) := by decide +kernel
theorem d_put3_47 : decode jdk_52_method_4_code 47 = .ok (.getstatic 63, 3) := by decide +kernel
theorem d_put3_50 : decode jdk_52_method_4_code 50 = .ok (.ishr, 1) := by decide +kernel
theorem d_put3_51 : decode jdk_52_method_4_code 51 = .ok (.i2b, 1) := by decide +kernel
theorem d_put3_52 : decode jdk_52_method_4_code 52 = .ok (.bastore, 1) := by decide +kernel
theorem d_put3_53 : decode jdk_52_method_4_code 53 = .ok (.return_, 1) := by decide +kernel
theorem ef_put3 (m : MethodId) (a0 : Addr) (x : Int32) : entryFrame m #[(.ref a0), (.int (3 : Int32)), (.int x)] 3 = mkF m 0 #[.val (.ref a0), .val (.int (3 : Int32)), .val (.int x)] [] := by first | (simp [entryFrame, mkF, argsToLocals, Value.category]; done) | rfl
def Q_put3 (Z : State) (a0 : Addr) (x : Int32) (kb : ClassId) (v0 : Int32) (v1 : Int32) (v2 : Int32) (v3 : Int32) (v4 : Int32) (v5 : Int32) (v6 : Int32) (v7 : Int32) (v8 : Int32) (v9 : Int32) (h0 : Heap) (n0 : Nat) (v : Option Value) (h : Heap) (L : List Loc) : Prop := v = none ∧ Fr n0 L ∧ Keep h0 h [a0] ∧ Exa Z h a0 "[B" ∧ Arv Z h a0 kb .byte (10 : Int32) [(.int v0), (.int v1), (.int v2), (.int v3), (.int v4), (.int v5), (.int ((x >>> ((0 : Int32) &&& 31)).toInt8.toInt32)), (.int ((x >>> ((8 : Int32) &&& 31)).toInt8.toInt32)), (.int v8), (.int v9)] (.int (0 : Int32))
set_option maxRecDepth 65536 in
set_option maxHeartbeats 40000000 in
theorem rm_put3 (l : Launch) (Z : State) (aT : Array Value) (hw : ∀ d ∈ tables_1, d.before aT Z = true) (ws : List Jvm.Cond) (a0 : Addr) (x : Int32) (kb : ClassId) (v0 : Int32) (v1 : Int32) (v2 : Int32) (v3 : Int32) (v4 : Int32) (v5 : Int32) (v6 : Int32) (v7 : Int32) (v8 : Int32) (v9 : Int32) (h0 : Heap) (n0 : Nat) (Z0 : n0 ≤ h0.size) (hp0 : Exa Z h0 a0 "[B") (hp1 : Arv Z h0 a0 kb .byte (10 : Int32) [(.int v0), (.int v1), (.int v2), (.int v3), (.int v4), (.int v5), (.int v6), (.int v7), (.int v8), (.int v9)] (.int (0 : Int32))) (hp2 : n0 ≤ a0) (hp3 : Sta Z h0 "java/lang/StringUTF16" "$assertionsDisabled" "Z" (.int (1 : Int32))) (hp4 : Sta Z h0 "java/lang/StringUTF16" "HI_BYTE_SHIFT" "I" (.int (0 : Int32))) (hp5 : Sta Z h0 "java/lang/StringUTF16" "LO_BYTE_SHIFT" "I" (.int (8 : Int32))) :
    MetFree l mN22 (head1 (Jvm.Cond.code mN22 jdk_52_method_4_code 3 none :: ws) ({ frames := 0, cells := 0, slots := 0, locals := 0 } : Room)) (fun a U => a = #[(.ref a0), (.int (3 : Int32)), (.int x)] ∧ Z.Warmed39 U.vm ∧ U.heap = h0) (fun _ _ _ _ _ => True) (fun _ U o U' => ∃ v L, o = .returned v ∧ Q_put3 Z a0 x kb v0 v1 v2 v3 v4 v5 v6 v7 v8 v9 h0 n0 v U'.heap L ∧ FrameEnd U o U' L ({ frames := 0, cells := 0, slots := 0, locals := 0 } : Room).cells ({ frames := 0, cells := 0, slots := 0, locals := 0 } : Room).slots) := by
  refine MetFree.of_bodySF (plainFor_of_name pn2) hisR ?_
  intro p e s m args below meth c s₁ Bd hml0 hP hK
  obtain ⟨rfl, hZ, hh⟩ := hP
  have hx := Bd.exec
  have hby := Bd.bytes
  have hml : c.maxLocals = 3 := hml0
  have hown : s.vm.findClass "java/lang/StringUTF16" = some m.cls := findClass_of_methodNamed Bd.named
  have hnm := (name_of_methodNamed Bd.named Bd.method).1
  have hlk := Bd.notSynchronized
  have hrt := Bd.returns
  have X0 : Stand p l e ({ frames := 0, cells := 0, slots := 0, locals := 0 } : Room) s m #[(.ref a0), (.int (3 : Int32)), (.int x)] below meth c s₁ [] 0 0 := Stand.of_body Bd
  have e0 : s₁.heap = h0 := by rw [← hh, Bd.state]; rfl
  have N0 := Fr.nil n0
  refine own_cast (P := own_End s (Q_put3 Z a0 x kb v0 v1 v2 v3 v4 v5 v6 v7 v8 v9 h0 n0) ({ frames := 0, cells := 0, slots := 0, locals := 0 } : Room).cells ({ frames := 0, cells := 0, slots := 0, locals := 0 } : Room).slots) (ef_put3 m a0 x) ?_
  obtain ⟨T164, X164, e164, st164⟩ := getS2 X0 hx hZ hown (host := "") (Or.inl (hw _ (own_M 116 rfl))) Via.refl e0 hp3 (g := (mkF m 0 #[.val (.ref a0), .val (.int (3 : Int32)), .val (.int x)] [])) rfl (hb hby d_put3_0)
  refine own_go st164 ?_
  show own_Got p e below _ T164 (mkF m 3 #[.val (.ref a0), .val (.int (3 : Int32)), .val (.int x)] [(.int (1 : Int32))])
  refine g_ifT X164 hx hby d_put3_3 ((if0 _ _).trans (feq (by decide : ¬ ((1 : Int32) = (0 : Int32)))).2) (by decide) (pc' := 28) (by decide) ?_
  refine g_iloadN X164 hx hby d_put3_28 rfl (rfl : 28 + 1 = 29) ?_
  refine g_iconst X164 hx hby (1 : Int32) d_put3_29 (by decide) (rfl : 29 + 1 = 30) ?_
  refine g_ishl X164 hx hby d_put3_30 (rfl : 30 + 1 = 31) ?_
  rw [(by decide : ((3 : Int32) <<< ((1 : Int32) &&& 31)) = (6 : Int32))]
  refine g_istoreN X164 hx hby #[.val (.ref a0), .val (.int (6 : Int32)), .val (.int x)] d_put3_31 rfl (rfl : 31 + 1 = 32) ?_
  refine g_aloadN X164 hx hby d_put3_32 rfl rfl (rfl : 32 + 1 = 33) ?_
  refine g_iloadN X164 hx hby d_put3_33 rfl (rfl : 33 + 1 = 34) ?_
  refine g_iinc X164 hx hby #[.val (.ref a0), .val (.int ((6 : Int32) + (1 : Int32))), .val (.int x)] d_put3_34 rfl rfl (rfl : 34 + 3 = 37) ?_
  rw [(by decide : ((6 : Int32) + (1 : Int32)) = (7 : Int32))]
  refine g_iloadN X164 hx hby d_put3_37 rfl (rfl : 37 + 1 = 38) ?_
  obtain ⟨T165, X165, e165, st165⟩ := getS2 X164 hx hZ hown (host := "") (Or.inl (hw _ (own_M 117 rfl))) Via.refl e164 hp4 (g := (mkF m 38 #[.val (.ref a0), .val (.int (7 : Int32)), .val (.int x)] [(.int x), (.int (6 : Int32)), (.ref a0)])) rfl (hb hby d_put3_38)
  refine own_go st165 ?_
  show own_Got p e below _ T165 (mkF m 41 #[.val (.ref a0), .val (.int (7 : Int32)), .val (.int x)] [(.int (0 : Int32)), (.int x), (.int (6 : Int32)), (.ref a0)])
  refine g_ishr X165 hx hby d_put3_41 (rfl : 41 + 1 = 42) ?_
  refine g_i2b X165 hx hby d_put3_42 (rfl : 42 + 1 = 43) ?_
  obtain ⟨T166, h166, X166, e166, W166, V166, st166⟩ := a_bastore X165 hx hby hZ e165 (ls := #[.val (.ref a0), .val (.int (7 : Int32)), .val (.int x)]) (st := []) (j := (6 : Int32)) ((x >>> ((0 : Int32) &&& 31)).toInt8.toInt32) 6 hp1 ⟨by decide, by decide⟩ (by decide) (Nat.le_of_ble_eq_true rfl) d_put3_43
  have Z166 : n0 ≤ h166.size := Nat.le_trans Z0 (Keep.of_wr W166).1
  have N166 := Fr.snoc X166 N0 hp2
  have K166 : Keep h0 h166 [a0] := (Keep.refl h0 [a0]).wr W166 (Or.inl (List.mem_of_getElem? (i := 0) rfl))
  have V166' : Arv Z h166 a0 kb .byte (10 : Int32) [(.int v0), (.int v1), (.int v2), (.int v3), (.int v4), (.int v5), (.int ((x >>> ((0 : Int32) &&& 31)).toInt8.toInt32)), (.int v7), (.int v8), (.int v9)] (.int (0 : Int32)) := by have q := V166; rw [own_nb] at q; exact q
  refine own_go st166 ?_
  show own_Got p e below _ T166 (mkF m 44 #[.val (.ref a0), .val (.int (7 : Int32)), .val (.int x)] [])
  refine g_aloadN X166 hx hby d_put3_44 rfl rfl (rfl : 44 + 1 = 45) ?_
  refine g_iloadN X166 hx hby d_put3_45 rfl (rfl : 45 + 1 = 46) ?_
  refine g_iloadN X166 hx hby d_put3_46 rfl (rfl : 46 + 1 = 47) ?_
  have f167 : Sta Z h166 "java/lang/StringUTF16" "LO_BYTE_SHIFT" "I" (.int (8 : Int32)) := (Sta.wr W166 hp5)
  obtain ⟨T168, X168, e168, st168⟩ := getS2 X166 hx hZ hown (host := "") (Or.inl (hw _ (own_M 118 rfl))) Via.refl e166 f167 (g := (mkF m 47 #[.val (.ref a0), .val (.int (7 : Int32)), .val (.int x)] [(.int x), (.int (7 : Int32)), (.ref a0)])) rfl (hb hby d_put3_47)
  refine own_go st168 ?_
  show own_Got p e below _ T168 (mkF m 50 #[.val (.ref a0), .val (.int (7 : Int32)), .val (.int x)] [(.int (8 : Int32)), (.int x), (.int (7 : Int32)), (.ref a0)])
  refine g_ishr X168 hx hby d_put3_50 (rfl : 50 + 1 = 51) ?_
  refine g_i2b X168 hx hby d_put3_51 (rfl : 51 + 1 = 52) ?_
  obtain ⟨T169, h169, X169, e169, W169, V169, st169⟩ := a_bastore X168 hx hby hZ e168 (ls := #[.val (.ref a0), .val (.int (7 : Int32)), .val (.int x)]) (st := []) (j := (7 : Int32)) ((x >>> ((8 : Int32) &&& 31)).toInt8.toInt32) 7 V166' ⟨by decide, by decide⟩ (by decide) (Nat.le_of_ble_eq_true rfl) d_put3_52
  have Z169 : n0 ≤ h169.size := Nat.le_trans Z166 (Keep.of_wr W169).1
  have N169 := Fr.snoc X169 N166 hp2
  have K169 : Keep h0 h169 [a0] := K166.wr W169 (Or.inl (List.mem_of_getElem? (i := 0) rfl))
  have V169' : Arv Z h169 a0 kb .byte (10 : Int32) [(.int v0), (.int v1), (.int v2), (.int v3), (.int v4), (.int v5), (.int ((x >>> ((0 : Int32) &&& 31)).toInt8.toInt32)), (.int ((x >>> ((8 : Int32) &&& 31)).toInt8.toInt32)), (.int v8), (.int v9)] (.int (0 : Int32)) := by have q := V169; rw [own_nb] at q; exact q
  refine own_go st169 ?_
  show own_Got p e below _ T169 (mkF m 53 #[.val (.ref a0), .val (.int (7 : Int32)), .val (.int x)] [])
  have f170 : Exa Z h169 a0 "[B" := (Exa.wr W169 (Exa.wr W166 hp0))
  refine own_retV X169 hx hby hlk hrt d_put3_53 (by decide) (by decide) ?_
  show Q_put3 Z a0 x kb v0 v1 v2 v3 v4 v5 v6 v7 v8 v9 h0 n0 _ T169.heap _
  rw [e169]
  exact ⟨rfl, N169, K169, f170, V169'⟩
theorem d_put4_0 : decode jdk_52_method_4_code 0 = .ok (.getstatic 44, 3) := by decide +kernel
theorem d_put4_3 : decode jdk_52_method_4_code 3 = .ok (.ifCond .ne 25, 3) := by decide +kernel
theorem d_put4_28 : decode jdk_52_method_4_code 28 = .ok (.iload_n 1, 1) := by decide +kernel
theorem d_put4_29 : decode jdk_52_method_4_code 29 = .ok (.iconst 1, 1) := by decide +kernel
theorem d_put4_30 : decode jdk_52_method_4_code 30 = .ok (.ishl, 1) := by decide +kernel
theorem d_put4_31 : decode jdk_52_method_4_code 31 = .ok (.istore_n 1, 1) := by decide +kernel
theorem d_put4_32 : decode jdk_52_method_4_code 32 = .ok (.aload_n 0, 1) := by decide +kernel
theorem d_put4_33 : decode jdk_52_method_4_code 33 = .ok (.iload_n 1, 1) := by decide +kernel
theorem d_put4_34 : decode jdk_52_method_4_code 34 = .ok (.iinc 1 1, 3) := by decide +kernel
theorem d_put4_37 : decode jdk_52_method_4_code 37 = .ok (.iload_n 2, 1) := by decide +kernel
theorem d_put4_38 : decode jdk_52_method_4_code 38 = .ok (.getstatic 59, 3) := by decide +kernel
theorem d_put4_41 : decode jdk_52_method_4_code 41 = .ok (.ishr, 1) := by decide +kernel
theorem d_put4_42 : decode jdk_52_method_4_code 42 = .ok (.i2b, 1) := by decide +kernel
theorem d_put4_43 : decode jdk_52_method_4_code 43 = .ok (.bastore, 1) := by decide +kernel
theorem d_put4_44 : decode jdk_52_method_4_code 44 = .ok (.aload_n 0, 1) := by decide +kernel
theorem d_put4_45 : decode jdk_52_method_4_code 45 = .ok (.iload_n 1, 1) := by decide +kernel
theorem d_put4_46 : decode jdk_52_method_4_code 46 = .ok (.iload_n 2, 1) := by decide +kernel
theorem d_put4_47 : decode jdk_52_method_4_code 47 = .ok (.getstatic 63, 3) := by decide +kernel
theorem d_put4_50 : decode jdk_52_method_4_code 50 = .ok (.ishr, 1) := by decide +kernel
theorem d_put4_51 : decode jdk_52_method_4_code 51 = .ok (.i2b, 1) := by decide +kernel
theorem d_put4_52 : decode jdk_52_method_4_code 52 = .ok (.bastore, 1) := by decide +kernel
theorem d_put4_53 : decode jdk_52_method_4_code 53 = .ok (.return_, 1) := by decide +kernel
theorem ef_put4 (m : MethodId) (a0 : Addr) (x : Int32) : entryFrame m #[(.ref a0), (.int (4 : Int32)), (.int x)] 3 = mkF m 0 #[.val (.ref a0), .val (.int (4 : Int32)), .val (.int x)] [] := by first | (simp [entryFrame, mkF, argsToLocals, Value.category]; done) | rfl
def Q_put4 (Z : State) (a0 : Addr) (x : Int32) (kb : ClassId) (v0 : Int32) (v1 : Int32) (v2 : Int32) (v3 : Int32) (v4 : Int32) (v5 : Int32) (v6 : Int32) (v7 : Int32) (v8 : Int32) (v9 : Int32) (h0 : Heap) (n0 : Nat) (v : Option Value) (h : Heap) (L : List Loc) : Prop := v = none ∧ Fr n0 L ∧ Keep h0 h [a0] ∧ Exa Z h a0 "[B" ∧ Arv Z h a0 kb .byte (10 : Int32) [(.int v0), (.int v1), (.int v2), (.int v3), (.int v4), (.int v5), (.int v6), (.int v7), (.int ((x >>> ((0 : Int32) &&& 31)).toInt8.toInt32)), (.int ((x >>> ((8 : Int32) &&& 31)).toInt8.toInt32))] (.int (0 : Int32))
set_option maxRecDepth 65536 in
set_option maxHeartbeats 40000000 in
theorem rm_put4 (l : Launch) (Z : State) (aT : Array Value) (hw : ∀ d ∈ tables_1, d.before aT Z = true) (ws : List Jvm.Cond) (a0 : Addr) (x : Int32) (kb : ClassId) (v0 : Int32) (v1 : Int32) (v2 : Int32) (v3 : Int32) (v4 : Int32) (v5 : Int32) (v6 : Int32) (v7 : Int32) (v8 : Int32) (v9 : Int32) (h0 : Heap) (n0 : Nat) (Z0 : n0 ≤ h0.size) (hp0 : Exa Z h0 a0 "[B") (hp1 : Arv Z h0 a0 kb .byte (10 : Int32) [(.int v0), (.int v1), (.int v2), (.int v3), (.int v4), (.int v5), (.int v6), (.int v7), (.int v8), (.int v9)] (.int (0 : Int32))) (hp2 : n0 ≤ a0) (hp3 : Sta Z h0 "java/lang/StringUTF16" "$assertionsDisabled" "Z" (.int (1 : Int32))) (hp4 : Sta Z h0 "java/lang/StringUTF16" "HI_BYTE_SHIFT" "I" (.int (0 : Int32))) (hp5 : Sta Z h0 "java/lang/StringUTF16" "LO_BYTE_SHIFT" "I" (.int (8 : Int32))) :
    MetFree l mN22 (head1 (Jvm.Cond.code mN22 jdk_52_method_4_code 3 none :: ws) ({ frames := 0, cells := 0, slots := 0, locals := 0 } : Room)) (fun a U => a = #[(.ref a0), (.int (4 : Int32)), (.int x)] ∧ Z.Warmed39 U.vm ∧ U.heap = h0) (fun _ _ _ _ _ => True) (fun _ U o U' => ∃ v L, o = .returned v ∧ Q_put4 Z a0 x kb v0 v1 v2 v3 v4 v5 v6 v7 v8 v9 h0 n0 v U'.heap L ∧ FrameEnd U o U' L ({ frames := 0, cells := 0, slots := 0, locals := 0 } : Room).cells ({ frames := 0, cells := 0, slots := 0, locals := 0 } : Room).slots) := by
  refine MetFree.of_bodySF (plainFor_of_name pn2) hisR ?_
  intro p e s m args below meth c s₁ Bd hml0 hP hK
  obtain ⟨rfl, hZ, hh⟩ := hP
  have hx := Bd.exec
  have hby := Bd.bytes
  have hml : c.maxLocals = 3 := hml0
  have hown : s.vm.findClass "java/lang/StringUTF16" = some m.cls := findClass_of_methodNamed Bd.named
  have hnm := (name_of_methodNamed Bd.named Bd.method).1
  have hlk := Bd.notSynchronized
  have hrt := Bd.returns
  have X0 : Stand p l e ({ frames := 0, cells := 0, slots := 0, locals := 0 } : Room) s m #[(.ref a0), (.int (4 : Int32)), (.int x)] below meth c s₁ [] 0 0 := Stand.of_body Bd
  have e0 : s₁.heap = h0 := by rw [← hh, Bd.state]; rfl
  have N0 := Fr.nil n0
  refine own_cast (P := own_End s (Q_put4 Z a0 x kb v0 v1 v2 v3 v4 v5 v6 v7 v8 v9 h0 n0) ({ frames := 0, cells := 0, slots := 0, locals := 0 } : Room).cells ({ frames := 0, cells := 0, slots := 0, locals := 0 } : Room).slots) (ef_put4 m a0 x) ?_
  obtain ⟨T171, X171, e171, st171⟩ := getS2 X0 hx hZ hown (host := "") (Or.inl (hw _ (own_M 116 rfl))) Via.refl e0 hp3 (g := (mkF m 0 #[.val (.ref a0), .val (.int (4 : Int32)), .val (.int x)] [])) rfl (hb hby d_put4_0)
  refine own_go st171 ?_
  show own_Got p e below _ T171 (mkF m 3 #[.val (.ref a0), .val (.int (4 : Int32)), .val (.int x)] [(.int (1 : Int32))])
  refine g_ifT X171 hx hby d_put4_3 ((if0 _ _).trans (feq (by decide : ¬ ((1 : Int32) = (0 : Int32)))).2) (by decide) (pc' := 28) (by decide) ?_
  refine g_iloadN X171 hx hby d_put4_28 rfl (rfl : 28 + 1 = 29) ?_
  refine g_iconst X171 hx hby (1 : Int32) d_put4_29 (by decide) (rfl : 29 + 1 = 30) ?_
  refine g_ishl X171 hx hby d_put4_30 (rfl : 30 + 1 = 31) ?_
  rw [(by decide : ((4 : Int32) <<< ((1 : Int32) &&& 31)) = (8 : Int32))]
  refine g_istoreN X171 hx hby #[.val (.ref a0), .val (.int (8 : Int32)), .val (.int x)] d_put4_31 rfl (rfl : 31 + 1 = 32) ?_
  refine g_aloadN X171 hx hby d_put4_32 rfl rfl (rfl : 32 + 1 = 33) ?_
  refine g_iloadN X171 hx hby d_put4_33 rfl (rfl : 33 + 1 = 34) ?_
  refine g_iinc X171 hx hby #[.val (.ref a0), .val (.int ((8 : Int32) + (1 : Int32))), .val (.int x)] d_put4_34 rfl rfl (rfl : 34 + 3 = 37) ?_
  rw [(by decide : ((8 : Int32) + (1 : Int32)) = (9 : Int32))]
  refine g_iloadN X171 hx hby d_put4_37 rfl (rfl : 37 + 1 = 38) ?_
  obtain ⟨T172, X172, e172, st172⟩ := getS2 X171 hx hZ hown (host := "") (Or.inl (hw _ (own_M 117 rfl))) Via.refl e171 hp4 (g := (mkF m 38 #[.val (.ref a0), .val (.int (9 : Int32)), .val (.int x)] [(.int x), (.int (8 : Int32)), (.ref a0)])) rfl (hb hby d_put4_38)
  refine own_go st172 ?_
  show own_Got p e below _ T172 (mkF m 41 #[.val (.ref a0), .val (.int (9 : Int32)), .val (.int x)] [(.int (0 : Int32)), (.int x), (.int (8 : Int32)), (.ref a0)])
  refine g_ishr X172 hx hby d_put4_41 (rfl : 41 + 1 = 42) ?_
  refine g_i2b X172 hx hby d_put4_42 (rfl : 42 + 1 = 43) ?_
  obtain ⟨T173, h173, X173, e173, W173, V173, st173⟩ := a_bastore X172 hx hby hZ e172 (ls := #[.val (.ref a0), .val (.int (9 : Int32)), .val (.int x)]) (st := []) (j := (8 : Int32)) ((x >>> ((0 : Int32) &&& 31)).toInt8.toInt32) 8 hp1 ⟨by decide, by decide⟩ (by decide) (Nat.le_of_ble_eq_true rfl) d_put4_43
  have Z173 : n0 ≤ h173.size := Nat.le_trans Z0 (Keep.of_wr W173).1
  have N173 := Fr.snoc X173 N0 hp2
  have K173 : Keep h0 h173 [a0] := (Keep.refl h0 [a0]).wr W173 (Or.inl (List.mem_of_getElem? (i := 0) rfl))
  have V173' : Arv Z h173 a0 kb .byte (10 : Int32) [(.int v0), (.int v1), (.int v2), (.int v3), (.int v4), (.int v5), (.int v6), (.int v7), (.int ((x >>> ((0 : Int32) &&& 31)).toInt8.toInt32)), (.int v9)] (.int (0 : Int32)) := by have q := V173; rw [own_nb] at q; exact q
  refine own_go st173 ?_
  show own_Got p e below _ T173 (mkF m 44 #[.val (.ref a0), .val (.int (9 : Int32)), .val (.int x)] [])
  refine g_aloadN X173 hx hby d_put4_44 rfl rfl (rfl : 44 + 1 = 45) ?_
  refine g_iloadN X173 hx hby d_put4_45 rfl (rfl : 45 + 1 = 46) ?_
  refine g_iloadN X173 hx hby d_put4_46 rfl (rfl : 46 + 1 = 47) ?_
  have f174 : Sta Z h173 "java/lang/StringUTF16" "LO_BYTE_SHIFT" "I" (.int (8 : Int32)) := (Sta.wr W173 hp5)
  obtain ⟨T175, X175, e175, st175⟩ := getS2 X173 hx hZ hown (host := "") (Or.inl (hw _ (own_M 118 rfl))) Via.refl e173 f174 (g := (mkF m 47 #[.val (.ref a0), .val (.int (9 : Int32)), .val (.int x)] [(.int x), (.int (9 : Int32)), (.ref a0)])) rfl (hb hby d_put4_47)
  refine own_go st175 ?_
  show own_Got p e below _ T175 (mkF m 50 #[.val (.ref a0), .val (.int (9 : Int32)), .val (.int x)] [(.int (8 : Int32)), (.int x), (.int (9 : Int32)), (.ref a0)])
  refine g_ishr X175 hx hby d_put4_50 (rfl : 50 + 1 = 51) ?_
  refine g_i2b X175 hx hby d_put4_51 (rfl : 51 + 1 = 52) ?_
  obtain ⟨T176, h176, X176, e176, W176, V176, st176⟩ := a_bastore X175 hx hby hZ e175 (ls := #[.val (.ref a0), .val (.int (9 : Int32)), .val (.int x)]) (st := []) (j := (9 : Int32)) ((x >>> ((8 : Int32) &&& 31)).toInt8.toInt32) 9 V173' ⟨by decide, by decide⟩ (by decide) (Nat.le_of_ble_eq_true rfl) d_put4_52
  have Z176 : n0 ≤ h176.size := Nat.le_trans Z173 (Keep.of_wr W176).1
  have N176 := Fr.snoc X176 N173 hp2
  have K176 : Keep h0 h176 [a0] := K173.wr W176 (Or.inl (List.mem_of_getElem? (i := 0) rfl))
  have V176' : Arv Z h176 a0 kb .byte (10 : Int32) [(.int v0), (.int v1), (.int v2), (.int v3), (.int v4), (.int v5), (.int v6), (.int v7), (.int ((x >>> ((0 : Int32) &&& 31)).toInt8.toInt32)), (.int ((x >>> ((8 : Int32) &&& 31)).toInt8.toInt32))] (.int (0 : Int32)) := by have q := V176; rw [own_nb] at q; exact q
  refine own_go st176 ?_
  show own_Got p e below _ T176 (mkF m 53 #[.val (.ref a0), .val (.int (9 : Int32)), .val (.int x)] [])
  have f177 : Exa Z h176 a0 "[B" := (Exa.wr W176 (Exa.wr W173 hp0))
  refine own_retV X176 hx hby hlk hrt d_put4_53 (by decide) (by decide) ?_
  show Q_put4 Z a0 x kb v0 v1 v2 v3 v4 v5 v6 v7 v8 v9 h0 n0 _ T176.heap _
  rw [e176]
  exact ⟨rfl, N176, K176, f177, V176'⟩
theorem d_toB_0 : decode jdk_52_method_14_code 0 = .ok (.iload_n 2, 1) := by decide +kernel
theorem d_toB_1 : decode jdk_52_method_14_code 1 = .ok (.invokestatic 107, 3) := by decide +kernel
theorem d_toB_4 : decode jdk_52_method_14_code 4 = .ok (.astore_n 3, 1) := by decide +kernel
theorem d_toB_5 : decode jdk_52_method_14_code 5 = .ok (.iconst 0, 1) := by decide +kernel
theorem d_toB_6 : decode jdk_52_method_14_code 6 = .ok (.istore 4, 2) := by decide +kernel
theorem d_toB_8 : decode jdk_52_method_14_code 8 = .ok (.iload 4, 2) := by decide +kernel
theorem d_toB_10 : decode jdk_52_method_14_code 10 = .ok (.iload_n 2, 1) := by decide +kernel
theorem d_toB_11 : decode jdk_52_method_14_code 11 = .ok (.if_icmp .ge 21, 3) := by decide +kernel
theorem d_toB_14 : decode jdk_52_method_14_code 14 = .ok (.aload_n 3, 1) := by decide +kernel
theorem d_toB_15 : decode jdk_52_method_14_code 15 = .ok (.iload 4, 2) := by decide +kernel
theorem d_toB_17 : decode jdk_52_method_14_code 17 = .ok (.aload_n 0, 1) := by decide +kernel
theorem d_toB_18 : decode jdk_52_method_14_code 18 = .ok (.iload_n 1, 1) := by decide +kernel
theorem d_toB_19 : decode jdk_52_method_14_code 19 = .ok (.caload, 1) := by decide +kernel
theorem d_toB_20 : decode jdk_52_method_14_code 20 = .ok (.invokestatic 111, 3) := by decide +kernel
theorem d_toB_23 : decode jdk_52_method_14_code 23 = .ok (.iinc 1 1, 3) := by decide +kernel
theorem d_toB_26 : decode jdk_52_method_14_code 26 = .ok (.iinc 4 1, 3) := by decide +kernel
theorem d_toB_29 : decode jdk_52_method_14_code 29 = .ok (.goto (-21), 3) := by decide +kernel
theorem d_toB_32 : decode jdk_52_method_14_code 32 = .ok (.aload_n 3, 1) := by decide +kernel
theorem d_toB_33 : decode jdk_52_method_14_code 33 = .ok (.areturn, 1) := by decide +kernel
theorem pd8 : parseMethodDescriptor "(I)[B" = some ⟨[.int], some (.array .byte)⟩ := by decide +kernel
theorem pd9 : parseMethodDescriptor "([BII)V" = some ⟨[(.array .byte), .int, .int], none⟩ := by decide +kernel
theorem ef_toB (m : MethodId) (a0 : Addr) : entryFrame m #[(.ref a0), (.int (0 : Int32)), (.int (5 : Int32))] 5 = mkF m 0 #[.val (.ref a0), .val (.int (0 : Int32)), .val (.int (5 : Int32)), .unset, .unset] [] := by first | (simp [entryFrame, mkF, argsToLocals, Value.category]; done) | rfl
def Q_toB (Z : State) (a0 : Addr) (kc : ClassId) (c0 : Int32) (c1 : Int32) (c2 : Int32) (c3 : Int32) (c4 : Int32) (h0 : Heap) (n0 : Nat) (v : Option Value) (h : Heap) (L : List Loc) : Prop := ∃ (ob : Addr), ∃ (kb : ClassId), v = some (.ref ob) ∧ Fr n0 L ∧ Keep h0 h [] ∧ h0.size ≤ ob ∧ Exa Z h ob "[B" ∧ Arv Z h ob kb .byte (10 : Int32) [(.int ((c0 >>> ((0 : Int32) &&& 31)).toInt8.toInt32)), (.int ((c0 >>> ((8 : Int32) &&& 31)).toInt8.toInt32)), (.int ((c1 >>> ((0 : Int32) &&& 31)).toInt8.toInt32)), (.int ((c1 >>> ((8 : Int32) &&& 31)).toInt8.toInt32)), (.int ((c2 >>> ((0 : Int32) &&& 31)).toInt8.toInt32)), (.int ((c2 >>> ((8 : Int32) &&& 31)).toInt8.toInt32)), (.int ((c3 >>> ((0 : Int32) &&& 31)).toInt8.toInt32)), (.int ((c3 >>> ((8 : Int32) &&& 31)).toInt8.toInt32)), (.int ((c4 >>> ((0 : Int32) &&& 31)).toInt8.toInt32)), (.int ((c4 >>> ((8 : Int32) &&& 31)).toInt8.toInt32))] (.int (0 : Int32))
set_option maxRecDepth 65536 in
set_option maxHeartbeats 40000000 in
theorem rm_toB (l : Launch) (Z : State) (aT : Array Value) (hw : ∀ d ∈ tables_1, d.before aT Z = true) (ws : List Jvm.Cond) (a0 : Addr) (kc : ClassId) (c0 : Int32) (c1 : Int32) (c2 : Int32) (c3 : Int32) (c4 : Int32) (h0 : Heap) (n0 : Nat) (Z0 : n0 ≤ h0.size) (hp0 : Arv Z h0 a0 kc .char (5 : Int32) [(.int c0), (.int c1), (.int c2), (.int c3), (.int c4)] (.int (0 : Int32))) (hp1 : Sta Z h0 "java/lang/StringUTF16" "$assertionsDisabled" "Z" (.int (1 : Int32))) (hp2 : Sta Z h0 "java/lang/StringUTF16" "HI_BYTE_SHIFT" "I" (.int (0 : Int32))) (hp3 : Sta Z h0 "java/lang/StringUTF16" "LO_BYTE_SHIFT" "I" (.int (8 : Int32))) :
    MetFree l mN23 (head1 (Jvm.Cond.code mN23 jdk_52_method_14_code 5 (some (.array .byte)) :: ws) ({ frames := 2, cells := 1, slots := 10, locals := 24 } : Room)) (fun a U => a = #[(.ref a0), (.int (0 : Int32)), (.int (5 : Int32))] ∧ Z.Warmed39 U.vm ∧ U.heap = h0) (fun _ _ _ _ _ => True) (fun _ U o U' => ∃ v L, o = .returned v ∧ Q_toB Z a0 kc c0 c1 c2 c3 c4 h0 n0 v U'.heap L ∧ FrameEnd U o U' L ({ frames := 2, cells := 1, slots := 10, locals := 24 } : Room).cells ({ frames := 2, cells := 1, slots := 10, locals := 24 } : Room).slots) := by
  refine MetFree.of_bodySF (plainFor_of_name pn2) hisR ?_
  intro p e s m args below meth c s₁ Bd hml0 hP hK
  obtain ⟨rfl, hZ, hh⟩ := hP
  have hx := Bd.exec
  have hby := Bd.bytes
  have hml : c.maxLocals = 5 := hml0
  have hown : s.vm.findClass "java/lang/StringUTF16" = some m.cls := findClass_of_methodNamed Bd.named
  have hnm := (name_of_methodNamed Bd.named Bd.method).1
  have hlk := Bd.notSynchronized
  have hrt := Bd.returns
  have X0 : Stand p l e ({ frames := 2, cells := 1, slots := 10, locals := 24 } : Room) s m #[(.ref a0), (.int (0 : Int32)), (.int (5 : Int32))] below meth c s₁ [] 0 0 := Stand.of_body Bd
  have e0 : s₁.heap = h0 := by rw [← hh, Bd.state]; rfl
  have N0 := Fr.nil n0
  refine own_cast (P := own_End s (Q_toB Z a0 kc c0 c1 c2 c3 c4 h0 n0) ({ frames := 2, cells := 1, slots := 10, locals := 24 } : Room).cells ({ frames := 2, cells := 1, slots := 10, locals := 24 } : Room).slots) (ef_toB m a0) ?_
  refine g_iloadN X0 hx hby d_toB_0 rfl (rfl : 0 + 1 = 1) ?_
  obtain ⟨_, _, ⟨T178, L178, k178, n178⟩, -, X178, ⟨Lc178, hQ178, l178, y178, z178⟩, st178⟩ := Jvm.LawKit.callS X0 hx (y := mN20) hown (mvT hZ (hw _ (own_M 106 rfl))) (mvT hZ (hw _ (own_M 107 rfl))) (mvT hZ (hw _ (own_M 17 rfl))) (mvT hZ (hw _ (own_M 108 rfl))) (by decide) (backOf (W := 0) (rm_nbf l Z aT hw []  h0 n0 Z0) hZ (hw _ (own_M 108 rfl)) (hw _ (own_M 17 rfl)) (by decide) (by decide)) (g := (mkF m 1 #[.val (.ref a0), .val (.int (0 : Int32)), .val (.int (5 : Int32)), .unset, .unset] [(.int (5 : Int32))])) rfl (by rw [hml]; rfl) (argsL := [(.int (5 : Int32))]) (rest := []) (lenOf pd8 rfl) rfl (by show 2 * 0 + _ ≤ _; exact Nat.le_of_eq rfl) (hb hby d_toB_1) (fun _ _ => ⟨rfl, e0, (by decide : 0 + 1 ≤ _), (by decide : 0 + 10 ≤ _)⟩)
  dsimp only [Pt.U, Pt.locs, Pt.cells, Pt.slots] at X178 l178 y178 z178 st178 hQ178
  subst l178 y178 z178
  obtain ⟨ob_178, kb_178, rfl, N178q, K178, q178_0, q178_1, q178_2⟩ := hQ178
  have N178 := Fr.app N0 N178q
  have Z178 : n0 ≤ T178.heap.size := Nat.le_trans Z0 K178.1
  have KC178 : Keep h0 T178.heap [] := (Keep.refl h0 []).trans K178 all0
  have ne179 : a0 ≠ ob_178 := Nat.ne_of_lt (Nat.lt_of_lt_of_le (hp0).lt q178_0)
  have ge180 : n0 ≤ ob_178 := Nat.le_trans Z0 q178_0
  have sz181 : h0.size ≤ ob_178 := Nat.le_trans (Keep.refl h0 []).1 q178_0
  refine own_go st178 ?_
  show own_Got p e below _ T178 (mkF m 4 #[.val (.ref a0), .val (.int (0 : Int32)), .val (.int (5 : Int32)), .unset, .unset] [(.ref ob_178)])
  refine g_astoreN X178 hx hby #[.val (.ref a0), .val (.int (0 : Int32)), .val (.int (5 : Int32)), .val (.ref ob_178), .unset] d_toB_4 rfl rfl (rfl : 4 + 1 = 5) ?_
  refine g_iconst X178 hx hby (0 : Int32) d_toB_5 (by decide) (rfl : 5 + 1 = 6) ?_
  refine g_istore X178 hx hby #[.val (.ref a0), .val (.int (0 : Int32)), .val (.int (5 : Int32)), .val (.ref ob_178), .val (.int (0 : Int32))] d_toB_6 rfl (rfl : 6 + 2 = 8) ?_
  refine g_iload X178 hx hby d_toB_8 rfl (rfl : 8 + 2 = 10) ?_
  refine g_iloadN X178 hx hby d_toB_10 rfl (rfl : 10 + 1 = 11) ?_
  refine g_icF X178 hx hby d_toB_11 (tlt (by decide : (0 : Int32) < (5 : Int32))).2.1 (rfl : 11 + 3 = 14) ?_
  refine g_aloadN X178 hx hby d_toB_14 rfl rfl (rfl : 14 + 1 = 15) ?_
  refine g_iload X178 hx hby d_toB_15 rfl (rfl : 15 + 2 = 17) ?_
  refine g_aloadN X178 hx hby d_toB_17 rfl rfl (rfl : 17 + 1 = 18) ?_
  refine g_iloadN X178 hx hby d_toB_18 rfl (rfl : 18 + 1 = 19) ?_
  have f182 : Arv Z T178.heap a0 kc .char (5 : Int32) [(.int c0), (.int c1), (.int c2), (.int c3), (.int c4)] (.int (0 : Int32)) := (Arv.keep hp0 K178 nin0)
  refine g_caload X178 hx hby hZ rfl (v := (.int c0)) f182 ⟨by decide, by decide⟩ rfl d_toB_19 (rfl : 19 + 1 = 20) ?_
  have f184 : Sta Z T178.heap "java/lang/StringUTF16" "$assertionsDisabled" "Z" (.int (1 : Int32)) := (own_stakeep0 hp1 K178)
  have f185 : Sta Z T178.heap "java/lang/StringUTF16" "HI_BYTE_SHIFT" "I" (.int (0 : Int32)) := (own_stakeep0 hp2 K178)
  have f186 : Sta Z T178.heap "java/lang/StringUTF16" "LO_BYTE_SHIFT" "I" (.int (8 : Int32)) := (own_stakeep0 hp3 K178)
  obtain ⟨_, _, ⟨T183, L183, k183, n183⟩, -, X183, ⟨Lc183, hQ183, l183, y183, z183⟩, st183⟩ := Jvm.LawKit.callS X178 hx (y := mN22) hown (mvT hZ (hw _ (own_M 113 rfl))) (mvT hZ (hw _ (own_M 114 rfl))) (mvT hZ (hw _ (own_M 17 rfl))) (mvT hZ (hw _ (own_M 115 rfl))) (by decide) (backOf (W := 0) (rm_put0 l Z aT hw [] ob_178 c0 kb_178 (0 : Int32) (0 : Int32) (0 : Int32) (0 : Int32) (0 : Int32) (0 : Int32) (0 : Int32) (0 : Int32) (0 : Int32) (0 : Int32) T178.heap n0 Z178 q178_1 q178_2 ge180 f184 f185 f186) hZ (hw _ (own_M 115 rfl)) (hw _ (own_M 17 rfl)) (by decide) (by decide)) (g := (mkF m 20 #[.val (.ref a0), .val (.int (0 : Int32)), .val (.int (5 : Int32)), .val (.ref ob_178), .val (.int (0 : Int32))] [(.int c0), (.int (0 : Int32)), (.ref ob_178)])) rfl (by rw [hml]; rfl) (argsL := [(.ref ob_178), (.int (0 : Int32)), (.int c0)]) (rest := []) (lenOf pd9 rfl) rfl (by show 2 * 0 + _ ≤ _; exact Nat.le_of_eq rfl) (hb hby d_toB_20) (fun _ _ => ⟨rfl, rfl, (by decide : 1 + 0 ≤ _), (by decide : 10 + 0 ≤ _)⟩)
  dsimp only [Pt.U, Pt.locs, Pt.cells, Pt.slots] at X183 l183 y183 z183 st183 hQ183
  subst l183 y183 z183
  obtain ⟨rfl, N183q, K183, q183_0, q183_1⟩ := hQ183
  have N183 := Fr.app N178 N183q
  have Z183 : n0 ≤ T183.heap.size := Nat.le_trans Z178 K183.1
  have KC183 : Keep h0 T183.heap [] := KC178.trans K183 (allS (Or.inr sz181) all0)
  refine own_go st183 ?_
  show own_Got p e below _ T183 (mkF m 23 #[.val (.ref a0), .val (.int (0 : Int32)), .val (.int (5 : Int32)), .val (.ref ob_178), .val (.int (0 : Int32))] [])
  refine g_iinc X183 hx hby #[.val (.ref a0), .val (.int ((0 : Int32) + (1 : Int32))), .val (.int (5 : Int32)), .val (.ref ob_178), .val (.int (0 : Int32))] d_toB_23 rfl rfl (rfl : 23 + 3 = 26) ?_
  rw [(by decide : ((0 : Int32) + (1 : Int32)) = (1 : Int32))]
  refine g_iinc X183 hx hby #[.val (.ref a0), .val (.int (1 : Int32)), .val (.int (5 : Int32)), .val (.ref ob_178), .val (.int ((0 : Int32) + (1 : Int32)))] d_toB_26 rfl rfl (rfl : 26 + 3 = 29) ?_
  rw [(by decide : ((0 : Int32) + (1 : Int32)) = (1 : Int32))]
  refine g_goto X183 hx hby d_toB_29 (by decide) (pc' := 8) (by decide) ?_
  refine g_iload X183 hx hby d_toB_8 rfl (rfl : 8 + 2 = 10) ?_
  refine g_iloadN X183 hx hby d_toB_10 rfl (rfl : 10 + 1 = 11) ?_
  refine g_icF X183 hx hby d_toB_11 (tlt (by decide : (1 : Int32) < (5 : Int32))).2.1 (rfl : 11 + 3 = 14) ?_
  refine g_aloadN X183 hx hby d_toB_14 rfl rfl (rfl : 14 + 1 = 15) ?_
  refine g_iload X183 hx hby d_toB_15 rfl (rfl : 15 + 2 = 17) ?_
  refine g_aloadN X183 hx hby d_toB_17 rfl rfl (rfl : 17 + 1 = 18) ?_
  refine g_iloadN X183 hx hby d_toB_18 rfl (rfl : 18 + 1 = 19) ?_
  have f187 : Arv Z T183.heap a0 kc .char (5 : Int32) [(.int c0), (.int c1), (.int c2), (.int c3), (.int c4)] (.int (0 : Int32)) := (Arv.keep f182 K183 (ninS ne179 nin0))
  refine g_caload X183 hx hby hZ rfl (v := (.int c1)) f187 ⟨by decide, by decide⟩ rfl d_toB_19 (rfl : 19 + 1 = 20) ?_
  have f189 : Sta Z T183.heap "java/lang/StringUTF16" "$assertionsDisabled" "Z" (.int (1 : Int32)) := (own_stakeep f184 K183 q178_1)
  have f190 : Sta Z T183.heap "java/lang/StringUTF16" "HI_BYTE_SHIFT" "I" (.int (0 : Int32)) := (own_stakeep f185 K183 q178_1)
  have f191 : Sta Z T183.heap "java/lang/StringUTF16" "LO_BYTE_SHIFT" "I" (.int (8 : Int32)) := (own_stakeep f186 K183 q178_1)
  obtain ⟨_, _, ⟨T188, L188, k188, n188⟩, -, X188, ⟨Lc188, hQ188, l188, y188, z188⟩, st188⟩ := Jvm.LawKit.callS X183 hx (y := mN22) hown (mvT hZ (hw _ (own_M 113 rfl))) (mvT hZ (hw _ (own_M 114 rfl))) (mvT hZ (hw _ (own_M 17 rfl))) (mvT hZ (hw _ (own_M 115 rfl))) (by decide) (backOf (W := 0) (rm_put1 l Z aT hw [] ob_178 c1 kb_178 ((c0 >>> ((0 : Int32) &&& 31)).toInt8.toInt32) ((c0 >>> ((8 : Int32) &&& 31)).toInt8.toInt32) (0 : Int32) (0 : Int32) (0 : Int32) (0 : Int32) (0 : Int32) (0 : Int32) (0 : Int32) (0 : Int32) T183.heap n0 Z183 q183_0 q183_1 ge180 f189 f190 f191) hZ (hw _ (own_M 115 rfl)) (hw _ (own_M 17 rfl)) (by decide) (by decide)) (g := (mkF m 20 #[.val (.ref a0), .val (.int (1 : Int32)), .val (.int (5 : Int32)), .val (.ref ob_178), .val (.int (1 : Int32))] [(.int c1), (.int (1 : Int32)), (.ref ob_178)])) rfl (by rw [hml]; rfl) (argsL := [(.ref ob_178), (.int (1 : Int32)), (.int c1)]) (rest := []) (lenOf pd9 rfl) rfl (by show 2 * 0 + _ ≤ _; exact Nat.le_of_eq rfl) (hb hby d_toB_20) (fun _ _ => ⟨rfl, rfl, (by decide : 1 + 0 ≤ _), (by decide : 10 + 0 ≤ _)⟩)
  dsimp only [Pt.U, Pt.locs, Pt.cells, Pt.slots] at X188 l188 y188 z188 st188 hQ188
  subst l188 y188 z188
  obtain ⟨rfl, N188q, K188, q188_0, q188_1⟩ := hQ188
  have N188 := Fr.app N183 N188q
  have Z188 : n0 ≤ T188.heap.size := Nat.le_trans Z183 K188.1
  have KC188 : Keep h0 T188.heap [] := KC183.trans K188 (allS (Or.inr sz181) all0)
  refine own_go st188 ?_
  show own_Got p e below _ T188 (mkF m 23 #[.val (.ref a0), .val (.int (1 : Int32)), .val (.int (5 : Int32)), .val (.ref ob_178), .val (.int (1 : Int32))] [])
  refine g_iinc X188 hx hby #[.val (.ref a0), .val (.int ((1 : Int32) + (1 : Int32))), .val (.int (5 : Int32)), .val (.ref ob_178), .val (.int (1 : Int32))] d_toB_23 rfl rfl (rfl : 23 + 3 = 26) ?_
  rw [(by decide : ((1 : Int32) + (1 : Int32)) = (2 : Int32))]
  refine g_iinc X188 hx hby #[.val (.ref a0), .val (.int (2 : Int32)), .val (.int (5 : Int32)), .val (.ref ob_178), .val (.int ((1 : Int32) + (1 : Int32)))] d_toB_26 rfl rfl (rfl : 26 + 3 = 29) ?_
  rw [(by decide : ((1 : Int32) + (1 : Int32)) = (2 : Int32))]
  refine g_goto X188 hx hby d_toB_29 (by decide) (pc' := 8) (by decide) ?_
  refine g_iload X188 hx hby d_toB_8 rfl (rfl : 8 + 2 = 10) ?_
  refine g_iloadN X188 hx hby d_toB_10 rfl (rfl : 10 + 1 = 11) ?_
  refine g_icF X188 hx hby d_toB_11 (tlt (by decide : (2 : Int32) < (5 : Int32))).2.1 (rfl : 11 + 3 = 14) ?_
  refine g_aloadN X188 hx hby d_toB_14 rfl rfl (rfl : 14 + 1 = 15) ?_
  refine g_iload X188 hx hby d_toB_15 rfl (rfl : 15 + 2 = 17) ?_
  refine g_aloadN X188 hx hby d_toB_17 rfl rfl (rfl : 17 + 1 = 18) ?_
  refine g_iloadN X188 hx hby d_toB_18 rfl (rfl : 18 + 1 = 19) ?_
  have f192 : Arv Z T188.heap a0 kc .char (5 : Int32) [(.int c0), (.int c1), (.int c2), (.int c3), (.int c4)] (.int (0 : Int32)) := (Arv.keep f187 K188 (ninS ne179 nin0))
  refine g_caload X188 hx hby hZ rfl (v := (.int c2)) f192 ⟨by decide, by decide⟩ rfl d_toB_19 (rfl : 19 + 1 = 20) ?_
  have f194 : Sta Z T188.heap "java/lang/StringUTF16" "$assertionsDisabled" "Z" (.int (1 : Int32)) := (own_stakeep f189 K188 q183_0)
  have f195 : Sta Z T188.heap "java/lang/StringUTF16" "HI_BYTE_SHIFT" "I" (.int (0 : Int32)) := (own_stakeep f190 K188 q183_0)
  have f196 : Sta Z T188.heap "java/lang/StringUTF16" "LO_BYTE_SHIFT" "I" (.int (8 : Int32)) := (own_stakeep f191 K188 q183_0)
  obtain ⟨_, _, ⟨T193, L193, k193, n193⟩, -, X193, ⟨Lc193, hQ193, l193, y193, z193⟩, st193⟩ := Jvm.LawKit.callS X188 hx (y := mN22) hown (mvT hZ (hw _ (own_M 113 rfl))) (mvT hZ (hw _ (own_M 114 rfl))) (mvT hZ (hw _ (own_M 17 rfl))) (mvT hZ (hw _ (own_M 115 rfl))) (by decide) (backOf (W := 0) (rm_put2 l Z aT hw [] ob_178 c2 kb_178 ((c0 >>> ((0 : Int32) &&& 31)).toInt8.toInt32) ((c0 >>> ((8 : Int32) &&& 31)).toInt8.toInt32) ((c1 >>> ((0 : Int32) &&& 31)).toInt8.toInt32) ((c1 >>> ((8 : Int32) &&& 31)).toInt8.toInt32) (0 : Int32) (0 : Int32) (0 : Int32) (0 : Int32) (0 : Int32) (0 : Int32) T188.heap n0 Z188 q188_0 q188_1 ge180 f194 f195 f196) hZ (hw _ (own_M 115 rfl)) (hw _ (own_M 17 rfl)) (by decide) (by decide)) (g := (mkF m 20 #[.val (.ref a0), .val (.int (2 : Int32)), .val (.int (5 : Int32)), .val (.ref ob_178), .val (.int (2 : Int32))] [(.int c2), (.int (2 : Int32)), (.ref ob_178)])) rfl (by rw [hml]; rfl) (argsL := [(.ref ob_178), (.int (2 : Int32)), (.int c2)]) (rest := []) (lenOf pd9 rfl) rfl (by show 2 * 0 + _ ≤ _; exact Nat.le_of_eq rfl) (hb hby d_toB_20) (fun _ _ => ⟨rfl, rfl, (by decide : 1 + 0 ≤ _), (by decide : 10 + 0 ≤ _)⟩)
  dsimp only [Pt.U, Pt.locs, Pt.cells, Pt.slots] at X193 l193 y193 z193 st193 hQ193
  subst l193 y193 z193
  obtain ⟨rfl, N193q, K193, q193_0, q193_1⟩ := hQ193
  have N193 := Fr.app N188 N193q
  have Z193 : n0 ≤ T193.heap.size := Nat.le_trans Z188 K193.1
  have KC193 : Keep h0 T193.heap [] := KC188.trans K193 (allS (Or.inr sz181) all0)
  refine own_go st193 ?_
  show own_Got p e below _ T193 (mkF m 23 #[.val (.ref a0), .val (.int (2 : Int32)), .val (.int (5 : Int32)), .val (.ref ob_178), .val (.int (2 : Int32))] [])
  refine g_iinc X193 hx hby #[.val (.ref a0), .val (.int ((2 : Int32) + (1 : Int32))), .val (.int (5 : Int32)), .val (.ref ob_178), .val (.int (2 : Int32))] d_toB_23 rfl rfl (rfl : 23 + 3 = 26) ?_
  rw [(by decide : ((2 : Int32) + (1 : Int32)) = (3 : Int32))]
  refine g_iinc X193 hx hby #[.val (.ref a0), .val (.int (3 : Int32)), .val (.int (5 : Int32)), .val (.ref ob_178), .val (.int ((2 : Int32) + (1 : Int32)))] d_toB_26 rfl rfl (rfl : 26 + 3 = 29) ?_
  rw [(by decide : ((2 : Int32) + (1 : Int32)) = (3 : Int32))]
  refine g_goto X193 hx hby d_toB_29 (by decide) (pc' := 8) (by decide) ?_
  refine g_iload X193 hx hby d_toB_8 rfl (rfl : 8 + 2 = 10) ?_
  refine g_iloadN X193 hx hby d_toB_10 rfl (rfl : 10 + 1 = 11) ?_
  refine g_icF X193 hx hby d_toB_11 (tlt (by decide : (3 : Int32) < (5 : Int32))).2.1 (rfl : 11 + 3 = 14) ?_
  refine g_aloadN X193 hx hby d_toB_14 rfl rfl (rfl : 14 + 1 = 15) ?_
  refine g_iload X193 hx hby d_toB_15 rfl (rfl : 15 + 2 = 17) ?_
  refine g_aloadN X193 hx hby d_toB_17 rfl rfl (rfl : 17 + 1 = 18) ?_
  refine g_iloadN X193 hx hby d_toB_18 rfl (rfl : 18 + 1 = 19) ?_
  have f197 : Arv Z T193.heap a0 kc .char (5 : Int32) [(.int c0), (.int c1), (.int c2), (.int c3), (.int c4)] (.int (0 : Int32)) := (Arv.keep f192 K193 (ninS ne179 nin0))
  refine g_caload X193 hx hby hZ rfl (v := (.int c3)) f197 ⟨by decide, by decide⟩ rfl d_toB_19 (rfl : 19 + 1 = 20) ?_
  have f199 : Sta Z T193.heap "java/lang/StringUTF16" "$assertionsDisabled" "Z" (.int (1 : Int32)) := (own_stakeep f194 K193 q188_0)
  have f200 : Sta Z T193.heap "java/lang/StringUTF16" "HI_BYTE_SHIFT" "I" (.int (0 : Int32)) := (own_stakeep f195 K193 q188_0)
  have f201 : Sta Z T193.heap "java/lang/StringUTF16" "LO_BYTE_SHIFT" "I" (.int (8 : Int32)) := (own_stakeep f196 K193 q188_0)
  obtain ⟨_, _, ⟨T198, L198, k198, n198⟩, -, X198, ⟨Lc198, hQ198, l198, y198, z198⟩, st198⟩ := Jvm.LawKit.callS X193 hx (y := mN22) hown (mvT hZ (hw _ (own_M 113 rfl))) (mvT hZ (hw _ (own_M 114 rfl))) (mvT hZ (hw _ (own_M 17 rfl))) (mvT hZ (hw _ (own_M 115 rfl))) (by decide) (backOf (W := 0) (rm_put3 l Z aT hw [] ob_178 c3 kb_178 ((c0 >>> ((0 : Int32) &&& 31)).toInt8.toInt32) ((c0 >>> ((8 : Int32) &&& 31)).toInt8.toInt32) ((c1 >>> ((0 : Int32) &&& 31)).toInt8.toInt32) ((c1 >>> ((8 : Int32) &&& 31)).toInt8.toInt32) ((c2 >>> ((0 : Int32) &&& 31)).toInt8.toInt32) ((c2 >>> ((8 : Int32) &&& 31)).toInt8.toInt32) (0 : Int32) (0 : Int32) (0 : Int32) (0 : Int32) T193.heap n0 Z193 q193_0 q193_1 ge180 f199 f200 f201) hZ (hw _ (own_M 115 rfl)) (hw _ (own_M 17 rfl)) (by decide) (by decide)) (g := (mkF m 20 #[.val (.ref a0), .val (.int (3 : Int32)), .val (.int (5 : Int32)), .val (.ref ob_178), .val (.int (3 : Int32))] [(.int c3), (.int (3 : Int32)), (.ref ob_178)])) rfl (by rw [hml]; rfl) (argsL := [(.ref ob_178), (.int (3 : Int32)), (.int c3)]) (rest := []) (lenOf pd9 rfl) rfl (by show 2 * 0 + _ ≤ _; exact Nat.le_of_eq rfl) (hb hby d_toB_20) (fun _ _ => ⟨rfl, rfl, (by decide : 1 + 0 ≤ _), (by decide : 10 + 0 ≤ _)⟩)
  dsimp only [Pt.U, Pt.locs, Pt.cells, Pt.slots] at X198 l198 y198 z198 st198 hQ198
  subst l198 y198 z198
  obtain ⟨rfl, N198q, K198, q198_0, q198_1⟩ := hQ198
  have N198 := Fr.app N193 N198q
  have Z198 : n0 ≤ T198.heap.size := Nat.le_trans Z193 K198.1
  have KC198 : Keep h0 T198.heap [] := KC193.trans K198 (allS (Or.inr sz181) all0)
  refine own_go st198 ?_
  show own_Got p e below _ T198 (mkF m 23 #[.val (.ref a0), .val (.int (3 : Int32)), .val (.int (5 : Int32)), .val (.ref ob_178), .val (.int (3 : Int32))] [])
  refine g_iinc X198 hx hby #[.val (.ref a0), .val (.int ((3 : Int32) + (1 : Int32))), .val (.int (5 : Int32)), .val (.ref ob_178), .val (.int (3 : Int32))] d_toB_23 rfl rfl (rfl : 23 + 3 = 26) ?_
  rw [(by decide : ((3 : Int32) + (1 : Int32)) = (4 : Int32))]
  refine g_iinc X198 hx hby #[.val (.ref a0), .val (.int (4 : Int32)), .val (.int (5 : Int32)), .val (.ref ob_178), .val (.int ((3 : Int32) + (1 : Int32)))] d_toB_26 rfl rfl (rfl : 26 + 3 = 29) ?_
  rw [(by decide : ((3 : Int32) + (1 : Int32)) = (4 : Int32))]
  refine g_goto X198 hx hby d_toB_29 (by decide) (pc' := 8) (by decide) ?_
  refine g_iload X198 hx hby d_toB_8 rfl (rfl : 8 + 2 = 10) ?_
  refine g_iloadN X198 hx hby d_toB_10 rfl (rfl : 10 + 1 = 11) ?_
  refine g_icF X198 hx hby d_toB_11 (tlt (by decide : (4 : Int32) < (5 : Int32))).2.1 (rfl : 11 + 3 = 14) ?_
  refine g_aloadN X198 hx hby d_toB_14 rfl rfl (rfl : 14 + 1 = 15) ?_
  refine g_iload X198 hx hby d_toB_15 rfl (rfl : 15 + 2 = 17) ?_
  refine g_aloadN X198 hx hby d_toB_17 rfl rfl (rfl : 17 + 1 = 18) ?_
  refine g_iloadN X198 hx hby d_toB_18 rfl (rfl : 18 + 1 = 19) ?_
  have f202 : Arv Z T198.heap a0 kc .char (5 : Int32) [(.int c0), (.int c1), (.int c2), (.int c3), (.int c4)] (.int (0 : Int32)) := (Arv.keep f197 K198 (ninS ne179 nin0))
  refine g_caload X198 hx hby hZ rfl (v := (.int c4)) f202 ⟨by decide, by decide⟩ rfl d_toB_19 (rfl : 19 + 1 = 20) ?_
  have f204 : Sta Z T198.heap "java/lang/StringUTF16" "$assertionsDisabled" "Z" (.int (1 : Int32)) := (own_stakeep f199 K198 q193_0)
  have f205 : Sta Z T198.heap "java/lang/StringUTF16" "HI_BYTE_SHIFT" "I" (.int (0 : Int32)) := (own_stakeep f200 K198 q193_0)
  have f206 : Sta Z T198.heap "java/lang/StringUTF16" "LO_BYTE_SHIFT" "I" (.int (8 : Int32)) := (own_stakeep f201 K198 q193_0)
  obtain ⟨_, _, ⟨T203, L203, k203, n203⟩, -, X203, ⟨Lc203, hQ203, l203, y203, z203⟩, st203⟩ := Jvm.LawKit.callS X198 hx (y := mN22) hown (mvT hZ (hw _ (own_M 113 rfl))) (mvT hZ (hw _ (own_M 114 rfl))) (mvT hZ (hw _ (own_M 17 rfl))) (mvT hZ (hw _ (own_M 115 rfl))) (by decide) (backOf (W := 0) (rm_put4 l Z aT hw [] ob_178 c4 kb_178 ((c0 >>> ((0 : Int32) &&& 31)).toInt8.toInt32) ((c0 >>> ((8 : Int32) &&& 31)).toInt8.toInt32) ((c1 >>> ((0 : Int32) &&& 31)).toInt8.toInt32) ((c1 >>> ((8 : Int32) &&& 31)).toInt8.toInt32) ((c2 >>> ((0 : Int32) &&& 31)).toInt8.toInt32) ((c2 >>> ((8 : Int32) &&& 31)).toInt8.toInt32) ((c3 >>> ((0 : Int32) &&& 31)).toInt8.toInt32) ((c3 >>> ((8 : Int32) &&& 31)).toInt8.toInt32) (0 : Int32) (0 : Int32) T198.heap n0 Z198 q198_0 q198_1 ge180 f204 f205 f206) hZ (hw _ (own_M 115 rfl)) (hw _ (own_M 17 rfl)) (by decide) (by decide)) (g := (mkF m 20 #[.val (.ref a0), .val (.int (4 : Int32)), .val (.int (5 : Int32)), .val (.ref ob_178), .val (.int (4 : Int32))] [(.int c4), (.int (4 : Int32)), (.ref ob_178)])) rfl (by rw [hml]; rfl) (argsL := [(.ref ob_178), (.int (4 : Int32)), (.int c4)]) (rest := []) (lenOf pd9 rfl) rfl (by show 2 * 0 + _ ≤ _; exact Nat.le_of_eq rfl) (hb hby d_toB_20) (fun _ _ => ⟨rfl, rfl, (by decide : 1 + 0 ≤ _), (by decide : 10 + 0 ≤ _)⟩)
  dsimp only [Pt.U, Pt.locs, Pt.cells, Pt.slots] at X203 l203 y203 z203 st203 hQ203
  subst l203 y203 z203
  obtain ⟨rfl, N203q, K203, q203_0, q203_1⟩ := hQ203
  have N203 := Fr.app N198 N203q
  have Z203 : n0 ≤ T203.heap.size := Nat.le_trans Z198 K203.1
  have KC203 : Keep h0 T203.heap [] := KC198.trans K203 (allS (Or.inr sz181) all0)
  refine own_go st203 ?_
  show own_Got p e below _ T203 (mkF m 23 #[.val (.ref a0), .val (.int (4 : Int32)), .val (.int (5 : Int32)), .val (.ref ob_178), .val (.int (4 : Int32))] [])
  refine g_iinc X203 hx hby #[.val (.ref a0), .val (.int ((4 : Int32) + (1 : Int32))), .val (.int (5 : Int32)), .val (.ref ob_178), .val (.int (4 : Int32))] d_toB_23 rfl rfl (rfl : 23 + 3 = 26) ?_
  rw [(by decide : ((4 : Int32) + (1 : Int32)) = (5 : Int32))]
  refine g_iinc X203 hx hby #[.val (.ref a0), .val (.int (5 : Int32)), .val (.int (5 : Int32)), .val (.ref ob_178), .val (.int ((4 : Int32) + (1 : Int32)))] d_toB_26 rfl rfl (rfl : 26 + 3 = 29) ?_
  rw [(by decide : ((4 : Int32) + (1 : Int32)) = (5 : Int32))]
  refine g_goto X203 hx hby d_toB_29 (by decide) (pc' := 8) (by decide) ?_
  refine g_iload X203 hx hby d_toB_8 rfl (rfl : 8 + 2 = 10) ?_
  refine g_iloadN X203 hx hby d_toB_10 rfl (rfl : 10 + 1 = 11) ?_
  refine g_icT X203 hx hby d_toB_11 (flt (by decide : ¬ ((5 : Int32) < (5 : Int32)))).2.1 (by decide) (pc' := 32) (by decide) ?_
  refine g_aloadN X203 hx hby d_toB_32 rfl rfl (rfl : 32 + 1 = 33) ?_
  refine own_retR X203 hx hby hlk hrt rfl d_toB_33 (by decide) (by decide) rfl ?_
  show Q_toB Z a0 kc c0 c1 c2 c3 c4 h0 n0 _ T203.heap _
  exact ⟨ob_178, kb_178, rfl, N203, KC203, sz181, q203_0, q203_1⟩
theorem d_cpB_0 : decode jdk_52_method_16_code 0 = .ok (.iload_n 2, 1) := by decide +kernel
theorem d_cpB_1 : decode jdk_52_method_16_code 1 = .ok (.newarray .byte, 2) := by decide +kernel
theorem d_cpB_3 : decode jdk_52_method_16_code 3 = .ok (.astore_n 3, 1) := by decide +kernel
theorem d_cpB_4 : decode jdk_52_method_16_code 4 = .ok (.aload_n 0, 1) := by decide +kernel
theorem d_cpB_5 : decode jdk_52_method_16_code 5 = .ok (.iload_n 1, 1) := by decide +kernel
theorem d_cpB_6 : decode jdk_52_method_16_code 6 = .ok (.aload_n 3, 1) := by decide +kernel
theorem d_cpB_7 : decode jdk_52_method_16_code 7 = .ok (.iconst 0, 1) := by decide +kernel
theorem d_cpB_8 : decode jdk_52_method_16_code 8 = .ok (.iload_n 2, 1) := by decide +kernel
theorem d_cpB_9 : decode jdk_52_method_16_code 9 = .ok (.invokestatic 115, 3) := by decide +kernel
theorem d_cpB_12 : decode jdk_52_method_16_code 12 = .ok (.istore 4, 2) := by decide +kernel
theorem d_cpB_14 : decode jdk_52_method_16_code 14 = .ok (.iload 4, 2) := by decide +kernel
theorem d_cpB_16 : decode jdk_52_method_16_code 16 = .ok (.iload_n 2, 1) := by decide +kernel
theorem d_cpB_17 : decode jdk_52_method_16_code 17 = .ok (.if_icmp .eq 40, 3) := by decide +kernel
theorem d_cpB_20 : decode jdk_52_method_16_code 20 = .ok (.aload_n 0, 1) := by decide +kernel
theorem d_cpB_21 : decode jdk_52_method_16_code 21 = .ok (.iload_n 1, 1) := by decide +kernel
theorem d_cpB_22 : decode jdk_52_method_16_code 22 = .ok (.iload_n 2, 1) := by decide +kernel
theorem d_cpB_23 : decode jdk_52_method_16_code 23 = .ok (.invokestatic 119, 3) := by decide +kernel
theorem d_cpB_26 : decode jdk_52_method_16_code 26 = .ok (.astore 5, 2) := by decide +kernel
theorem d_cpB_28 : decode jdk_52_method_16_code 28 = .ok (.aload 5, 2) := by decide +kernel
theorem d_cpB_30 : decode jdk_52_method_16_code 30 = .ok (.iload 4, 2) := by decide +kernel
theorem d_cpB_32 : decode jdk_52_method_16_code 32 = .ok (.invokestatic 71, 3) := by decide +kernel
theorem d_cpB_35 : decode jdk_52_method_16_code 35 = .ok (.sipush 255, 3) := by decide +kernel
theorem d_cpB_38 : decode jdk_52_method_16_code 38 = .ok (.if_icmp .gt 16, 3) := by decide +kernel
theorem d_cpB_54 : decode jdk_52_method_16_code 54 = .ok (.aload 5, 2) := by decide +kernel
theorem d_cpB_56 : decode jdk_52_method_16_code 56 = .ok (.areturn, 1) := by decide +kernel
theorem d_cpB_57 : decode jdk_52_method_16_code 57 = .ok (.aload_n 3, 1) := by decide +kernel
theorem d_cpB_58 : decode jdk_52_method_16_code 58 = .ok (.areturn, 1) := by decide +kernel
theorem pd10 : parseMethodDescriptor "([CI[BII)I" = some ⟨[(.array .char), .int, (.array .byte), .int, .int], some .int⟩ := by decide +kernel
theorem pd11 : parseMethodDescriptor "([CII)[B" = some ⟨[(.array .char), .int, .int], some (.array .byte)⟩ := by decide +kernel
theorem ef_cpB (m : MethodId) (a0 : Addr) : entryFrame m #[(.ref a0), (.int (0 : Int32)), (.int (5 : Int32))] 6 = mkF m 0 #[.val (.ref a0), .val (.int (0 : Int32)), .val (.int (5 : Int32)), .unset, .unset, .unset] [] := by first | (simp [entryFrame, mkF, argsToLocals, Value.category]; done) | rfl
def Q_cpB (Z : State) (a0 : Addr) (kc : ClassId) (c0 : Int32) (c1 : Int32) (c2 : Int32) (c3 : Int32) (c4 : Int32) (h0 : Heap) (n0 : Nat) (v : Option Value) (h : Heap) (L : List Loc) : Prop := ∃ (ob : Addr), ∃ (kb : ClassId), ∃ (n : Int32), ∃ (vs : List Value), v = some (.ref ob) ∧ Fr n0 L ∧ Keep h0 h [] ∧ h0.size ≤ ob ∧ Exa Z h ob "[B" ∧ Arv Z h ob kb .byte n vs (.int (0 : Int32)) ∧ own_cn n vs c0 c1 c2 c3 c4
set_option maxRecDepth 65536 in
set_option maxHeartbeats 40000000 in
theorem rm_cpB (l : Launch) (Z : State) (aT : Array Value) (hw : ∀ d ∈ tables_1, d.before aT Z = true) (ws : List Jvm.Cond) (a0 : Addr) (kc : ClassId) (c0 : Int32) (c1 : Int32) (c2 : Int32) (c3 : Int32) (c4 : Int32) (h0 : Heap) (n0 : Nat) (Z0 : n0 ≤ h0.size) (hp0 : Arv Z h0 a0 kc .char (5 : Int32) [(.int c0), (.int c1), (.int c2), (.int c3), (.int c4)] (.int (0 : Int32))) (hp1 : Sta Z h0 "java/lang/StringUTF16" "$assertionsDisabled" "Z" (.int (1 : Int32))) (hp2 : Sta Z h0 "java/lang/StringUTF16" "HI_BYTE_SHIFT" "I" (.int (0 : Int32))) (hp3 : Sta Z h0 "java/lang/StringUTF16" "LO_BYTE_SHIFT" "I" (.int (8 : Int32))) (hr0 : own_chr c0) (hr1 : own_chr c1) (hr2 : own_chr c2) (hr3 : own_chr c3) (hr4 : own_chr c4) :
    MetFree l mN16 (head1 (Jvm.Cond.code mN16 jdk_52_method_16_code 6 (some (.array .byte)) :: ws) ({ frames := 3, cells := 2, slots := 15, locals := 40 } : Room)) (fun a U => a = #[(.ref a0), (.int (0 : Int32)), (.int (5 : Int32))] ∧ Z.Warmed39 U.vm ∧ U.heap = h0) (fun _ _ _ _ _ => True) (fun _ U o U' => ∃ v L, o = .returned v ∧ Q_cpB Z a0 kc c0 c1 c2 c3 c4 h0 n0 v U'.heap L ∧ FrameEnd U o U' L ({ frames := 3, cells := 2, slots := 15, locals := 40 } : Room).cells ({ frames := 3, cells := 2, slots := 15, locals := 40 } : Room).slots) := by
  refine MetFree.of_bodySF (plainFor_of_name pn2) hisR ?_
  intro p e s m args below meth c s₁ Bd hml0 hP hK
  obtain ⟨rfl, hZ, hh⟩ := hP
  have hx := Bd.exec
  have hby := Bd.bytes
  have hml : c.maxLocals = 6 := hml0
  have hown : s.vm.findClass "java/lang/StringUTF16" = some m.cls := findClass_of_methodNamed Bd.named
  have hnm := (name_of_methodNamed Bd.named Bd.method).1
  have hlk := Bd.notSynchronized
  have hrt := Bd.returns
  have X0 : Stand p l e ({ frames := 3, cells := 2, slots := 15, locals := 40 } : Room) s m #[(.ref a0), (.int (0 : Int32)), (.int (5 : Int32))] below meth c s₁ [] 0 0 := Stand.of_body Bd
  have e0 : s₁.heap = h0 := by rw [← hh, Bd.state]; rfl
  have N0 := Fr.nil n0
  refine own_cast (P := own_End s (Q_cpB Z a0 kc c0 c1 c2 c3 c4 h0 n0) ({ frames := 3, cells := 2, slots := 15, locals := 40 } : Room).cells ({ frames := 3, cells := 2, slots := 15, locals := 40 } : Room).slots) (ef_cpB m a0) ?_
  by_cases c207 : (255 : Int32) < c0
  · refine g_iloadN X0 hx hby d_cpB_0 rfl (rfl : 0 + 1 = 1) ?_
    obtain ⟨T208, h208, k208, X208, e208, E208, A208, B208, st208⟩ := newPE X0 hx hZ (hw _ (own_M 19 rfl)) e0 (g := (mkF m 1 #[.val (.ref a0), .val (.int (0 : Int32)), .val (.int (5 : Int32)), .unset, .unset, .unset] [(.int (5 : Int32))])) rfl (hb hby d_cpB_1) rfl (by decide) (cap := 5) (by decide) (by decide) (by decide) (by decide) (ad := "[B") (by decide +kernel)
    obtain ⟨b208, g208⟩ : ∃ z, z = h0.size := ⟨_, rfl⟩
    rw [← g208] at A208 B208 st208
    have ne209 : a0 ≠ b208 := Nat.ne_of_lt (Nat.lt_of_lt_of_le (hp0).lt (Nat.le_of_eq g208.symm))
    have Z208 : n0 ≤ h208.size := Nat.le_trans Z0 E208.1
    have K208 : Keep h0 h208 [] := (Keep.refl h0 []).ext E208
    have ge208 : n0 ≤ b208 := Nat.le_trans Z0 (Nat.le_of_eq g208.symm)
    have sz208 : h0.size ≤ b208 := Nat.le_trans (Keep.refl h0 []).1 (Nat.le_of_eq g208.symm)
    have V208 : Arv Z h208 b208 k208 .byte (5 : Int32) [(.int (0 : Int32)), (.int (0 : Int32)), (.int (0 : Int32)), (.int (0 : Int32)), (.int (0 : Int32))] (.int (0 : Int32)) := (Arv.new A208 (by decide)).pad (pad_rep [] _ 5)
    refine own_go st208 ?_
    show own_Got p e below _ T208 (mkF m 3 #[.val (.ref a0), .val (.int (0 : Int32)), .val (.int (5 : Int32)), .unset, .unset, .unset] [(.ref b208)])
    refine g_astoreN X208 hx hby #[.val (.ref a0), .val (.int (0 : Int32)), .val (.int (5 : Int32)), .val (.ref b208), .unset, .unset] d_cpB_3 rfl rfl (rfl : 3 + 1 = 4) ?_
    refine g_aloadN X208 hx hby d_cpB_4 rfl rfl (rfl : 4 + 1 = 5) ?_
    refine g_iloadN X208 hx hby d_cpB_5 rfl (rfl : 5 + 1 = 6) ?_
    refine g_aloadN X208 hx hby d_cpB_6 rfl rfl (rfl : 6 + 1 = 7) ?_
    refine g_iconst X208 hx hby (0 : Int32) d_cpB_7 (by decide) (rfl : 7 + 1 = 8) ?_
    refine g_iloadN X208 hx hby d_cpB_8 rfl (rfl : 8 + 1 = 9) ?_
    have f211 : Arv Z h208 a0 kc .char (5 : Int32) [(.int c0), (.int c1), (.int c2), (.int c3), (.int c4)] (.int (0 : Int32)) := (hp0.ext E208)
    obtain ⟨_, _, ⟨T210, L210, k210, n210⟩, -, X210, ⟨Lc210, hQ210, l210, y210, z210⟩, st210⟩ := Jvm.LawKit.callS X208 hx (y := mN17) hown (mvT hZ (hw _ (own_M 20 rfl))) (mvT hZ (hw _ (own_M 21 rfl))) (mvT hZ (hw _ (own_M 17 rfl))) (mvT hZ (hw _ (own_M 22 rfl))) (by decide) (backOf (W := 0) (rm_cpI0 l Z aT hw [] a0 b208 kc c0 c1 c2 c3 c4 k208 h208 n0 Z208 f211 B208 V208 ge208 ne209 c207) hZ (hw _ (own_M 22 rfl)) (hw _ (own_M 17 rfl)) (by decide) (by decide)) (g := (mkF m 9 #[.val (.ref a0), .val (.int (0 : Int32)), .val (.int (5 : Int32)), .val (.ref b208), .unset, .unset] [(.int (5 : Int32)), (.int (0 : Int32)), (.ref b208), (.int (0 : Int32)), (.ref a0)])) rfl (by rw [hml]; rfl) (argsL := [(.ref a0), (.int (0 : Int32)), (.ref b208), (.int (0 : Int32)), (.int (5 : Int32))]) (rest := []) (lenOf pd10 rfl) rfl (by show 2 * 0 + _ ≤ _; exact Nat.le_of_eq rfl) (hb hby d_cpB_9) (fun _ _ => ⟨rfl, e208, (by decide : 1 + 0 ≤ _), (by decide : 5 + 0 ≤ _)⟩)
    dsimp only [Pt.U, Pt.locs, Pt.cells, Pt.slots] at X210 l210 y210 z210 st210 hQ210
    subst l210 y210 z210
    obtain ⟨rfl, N210q, K210, q210_0⟩ := hQ210
    have N210 := Fr.app N0 N210q
    have Z210 : n0 ≤ T210.heap.size := Nat.le_trans Z208 K210.1
    have KC210 : Keep h0 T210.heap [] := K208.trans K210 (allS (Or.inr sz208) all0)
    refine own_go st210 ?_
    show own_Got p e below _ T210 (mkF m 12 #[.val (.ref a0), .val (.int (0 : Int32)), .val (.int (5 : Int32)), .val (.ref b208), .unset, .unset] [(.int (0 : Int32))])
    refine g_istore X210 hx hby #[.val (.ref a0), .val (.int (0 : Int32)), .val (.int (5 : Int32)), .val (.ref b208), .val (.int (0 : Int32)), .unset] d_cpB_12 rfl (rfl : 12 + 2 = 14) ?_
    refine g_iload X210 hx hby d_cpB_14 rfl (rfl : 14 + 2 = 16) ?_
    refine g_iloadN X210 hx hby d_cpB_16 rfl (rfl : 16 + 1 = 17) ?_
    refine g_icF X210 hx hby d_cpB_17 (feq (by decide : ¬ ((0 : Int32) = (5 : Int32)))).1 (rfl : 17 + 3 = 20) ?_
    refine g_aloadN X210 hx hby d_cpB_20 rfl rfl (rfl : 20 + 1 = 21) ?_
    refine g_iloadN X210 hx hby d_cpB_21 rfl (rfl : 21 + 1 = 22) ?_
    refine g_iloadN X210 hx hby d_cpB_22 rfl (rfl : 22 + 1 = 23) ?_
    have f213 : Arv Z T210.heap a0 kc .char (5 : Int32) [(.int c0), (.int c1), (.int c2), (.int c3), (.int c4)] (.int (0 : Int32)) := (Arv.keep f211 K210 (ninS ne209 nin0))
    have f214 : Sta Z T210.heap "java/lang/StringUTF16" "$assertionsDisabled" "Z" (.int (1 : Int32)) := (own_stakeep (Sta.ext E208 hp1) K210 B208)
    have f215 : Sta Z T210.heap "java/lang/StringUTF16" "HI_BYTE_SHIFT" "I" (.int (0 : Int32)) := (own_stakeep (Sta.ext E208 hp2) K210 B208)
    have f216 : Sta Z T210.heap "java/lang/StringUTF16" "LO_BYTE_SHIFT" "I" (.int (8 : Int32)) := (own_stakeep (Sta.ext E208 hp3) K210 B208)
    obtain ⟨_, _, ⟨T212, L212, k212, n212⟩, -, X212, ⟨Lc212, hQ212, l212, y212, z212⟩, st212⟩ := Jvm.LawKit.callS X210 hx (y := mN23) hown (mvT hZ (hw _ (own_M 103 rfl))) (mvT hZ (hw _ (own_M 104 rfl))) (mvT hZ (hw _ (own_M 17 rfl))) (mvT hZ (hw _ (own_M 105 rfl))) (by decide) (backOf (W := 0) (rm_toB l Z aT hw [] a0 kc c0 c1 c2 c3 c4 T210.heap n0 Z210 f213 f214 f215 f216) hZ (hw _ (own_M 105 rfl)) (hw _ (own_M 17 rfl)) (by decide) (by decide)) (g := (mkF m 23 #[.val (.ref a0), .val (.int (0 : Int32)), .val (.int (5 : Int32)), .val (.ref b208), .val (.int (0 : Int32)), .unset] [(.int (5 : Int32)), (.int (0 : Int32)), (.ref a0)])) rfl (by rw [hml]; rfl) (argsL := [(.ref a0), (.int (0 : Int32)), (.int (5 : Int32))]) (rest := []) (lenOf pd11 rfl) rfl (by show 2 * 0 + _ ≤ _; exact Nat.le_of_eq rfl) (hb hby d_cpB_23) (fun _ _ => ⟨rfl, rfl, (by decide : 1 + 1 ≤ _), (by decide : 5 + 10 ≤ _)⟩)
    dsimp only [Pt.U, Pt.locs, Pt.cells, Pt.slots] at X212 l212 y212 z212 st212 hQ212
    subst l212 y212 z212
    obtain ⟨ob_212, kb_212, rfl, N212q, K212, q212_0, q212_1, q212_2⟩ := hQ212
    have N212 := Fr.app N210 N212q
    have Z212 : n0 ≤ T212.heap.size := Nat.le_trans Z210 K212.1
    have KC212 : Keep h0 T212.heap [] := KC210.trans K212 all0
    have ne217 : a0 ≠ ob_212 := Nat.ne_of_lt (Nat.lt_of_lt_of_le (f213).lt q212_0)
    have ne218 : b208 ≠ ob_212 := Nat.ne_of_lt (Nat.lt_of_lt_of_le (q210_0).lt q212_0)
    have ge219 : n0 ≤ ob_212 := Nat.le_trans Z210 q212_0
    have sz220 : h0.size ≤ ob_212 := Nat.le_trans KC210.1 q212_0
    refine own_go st212 ?_
    show own_Got p e below _ T212 (mkF m 26 #[.val (.ref a0), .val (.int (0 : Int32)), .val (.int (5 : Int32)), .val (.ref b208), .val (.int (0 : Int32)), .unset] [(.ref ob_212)])
    refine g_astore X212 hx hby #[.val (.ref a0), .val (.int (0 : Int32)), .val (.int (5 : Int32)), .val (.ref b208), .val (.int (0 : Int32)), .val (.ref ob_212)] d_cpB_26 rfl rfl (rfl : 26 + 2 = 28) ?_
    refine g_aload X212 hx hby d_cpB_28 rfl rfl (rfl : 28 + 2 = 30) ?_
    refine g_iload X212 hx hby d_cpB_30 rfl (rfl : 30 + 2 = 32) ?_
    have f222 : Sta Z T212.heap "java/lang/StringUTF16" "$assertionsDisabled" "Z" (.int (1 : Int32)) := (own_stakeep0 f214 K212)
    have f223 : Sta Z T212.heap "java/lang/StringUTF16" "HI_BYTE_SHIFT" "I" (.int (0 : Int32)) := (own_stakeep0 f215 K212)
    have f224 : Sta Z T212.heap "java/lang/StringUTF16" "LO_BYTE_SHIFT" "I" (.int (8 : Int32)) := (own_stakeep0 f216 K212)
    obtain ⟨_, _, ⟨T221, L221, k221, n221⟩, -, X221, ⟨Lc221, hQ221, l221, y221, z221⟩, st221⟩ := Jvm.LawKit.callS X212 hx (y := mN18) hown (mvT hZ (hw _ (own_M 119 rfl))) (mvT hZ (hw _ (own_M 120 rfl))) (mvT hZ (hw _ (own_M 17 rfl))) (mvT hZ (hw _ (own_M 121 rfl))) (by decide) (backOf (W := 0) (rm_gch0 l Z aT hw [] ob_212 kb_212 _ _ _ _ _ T212.heap n0 Z212 q212_2 f222 f223 f224 hr0) hZ (hw _ (own_M 121 rfl)) (hw _ (own_M 17 rfl)) (by decide) (by decide)) (g := (mkF m 32 #[.val (.ref a0), .val (.int (0 : Int32)), .val (.int (5 : Int32)), .val (.ref b208), .val (.int (0 : Int32)), .val (.ref ob_212)] [(.int (0 : Int32)), (.ref ob_212)])) rfl (by rw [hml]; rfl) (argsL := [(.ref ob_212), (.int (0 : Int32))]) (rest := []) (lenOf pd4 rfl) rfl (by show 2 * 0 + _ ≤ _; exact Nat.le_of_eq rfl) (hb hby d_cpB_32) (fun _ _ => ⟨rfl, rfl, (by decide : 2 + 0 ≤ _), (by decide : 15 + 0 ≤ _)⟩)
    dsimp only [Pt.U, Pt.locs, Pt.cells, Pt.slots] at X221 l221 y221 z221 st221 hQ221
    subst l221 y221 z221
    obtain ⟨rfl, N221q, eq221⟩ := hQ221
    have N221 := Fr.app N212 N221q
    refine own_go st221 ?_
    show own_Got p e below _ T221 (mkF m 35 #[.val (.ref a0), .val (.int (0 : Int32)), .val (.int (5 : Int32)), .val (.ref b208), .val (.int (0 : Int32)), .val (.ref ob_212)] [(.int c0)])
    refine g_sipush X221 hx hby (255 : Int32) d_cpB_35 (by decide) (rfl : 35 + 3 = 38) ?_
    refine g_icT X221 hx hby d_cpB_38 (tlt c207).2.2.1 (by decide) (pc' := 54) (by decide) ?_
    refine g_aload X221 hx hby d_cpB_54 rfl rfl (rfl : 54 + 2 = 56) ?_
    have o225 : own_cn (10 : Int32) [(.int ((c0 >>> ((0 : Int32) &&& 31)).toInt8.toInt32)), (.int ((c0 >>> ((8 : Int32) &&& 31)).toInt8.toInt32)), (.int ((c1 >>> ((0 : Int32) &&& 31)).toInt8.toInt32)), (.int ((c1 >>> ((8 : Int32) &&& 31)).toInt8.toInt32)), (.int ((c2 >>> ((0 : Int32) &&& 31)).toInt8.toInt32)), (.int ((c2 >>> ((8 : Int32) &&& 31)).toInt8.toInt32)), (.int ((c3 >>> ((0 : Int32) &&& 31)).toInt8.toInt32)), (.int ((c3 >>> ((8 : Int32) &&& 31)).toInt8.toInt32)), (.int ((c4 >>> ((0 : Int32) &&& 31)).toInt8.toInt32)), (.int ((c4 >>> ((8 : Int32) &&& 31)).toInt8.toInt32))] c0 c1 c2 c3 c4 := Or.inr ⟨rfl, rfl⟩
    refine own_retR X221 hx hby hlk hrt rfl d_cpB_56 (by decide) (by decide) rfl ?_
    show Q_cpB Z a0 kc c0 c1 c2 c3 c4 h0 n0 _ T221.heap _
    rw [eq221]
    exact ⟨ob_212, kb_212, (10 : Int32), [(.int ((c0 >>> ((0 : Int32) &&& 31)).toInt8.toInt32)), (.int ((c0 >>> ((8 : Int32) &&& 31)).toInt8.toInt32)), (.int ((c1 >>> ((0 : Int32) &&& 31)).toInt8.toInt32)), (.int ((c1 >>> ((8 : Int32) &&& 31)).toInt8.toInt32)), (.int ((c2 >>> ((0 : Int32) &&& 31)).toInt8.toInt32)), (.int ((c2 >>> ((8 : Int32) &&& 31)).toInt8.toInt32)), (.int ((c3 >>> ((0 : Int32) &&& 31)).toInt8.toInt32)), (.int ((c3 >>> ((8 : Int32) &&& 31)).toInt8.toInt32)), (.int ((c4 >>> ((0 : Int32) &&& 31)).toInt8.toInt32)), (.int ((c4 >>> ((8 : Int32) &&& 31)).toInt8.toInt32))], rfl, N221, KC212, sz220, q212_1, q212_2, o225⟩
  · by_cases c226 : (255 : Int32) < c1
    · refine g_iloadN X0 hx hby d_cpB_0 rfl (rfl : 0 + 1 = 1) ?_
      obtain ⟨T227, h227, k227, X227, e227, E227, A227, B227, st227⟩ := newPE X0 hx hZ (hw _ (own_M 19 rfl)) e0 (g := (mkF m 1 #[.val (.ref a0), .val (.int (0 : Int32)), .val (.int (5 : Int32)), .unset, .unset, .unset] [(.int (5 : Int32))])) rfl (hb hby d_cpB_1) rfl (by decide) (cap := 5) (by decide) (by decide) (by decide) (by decide) (ad := "[B") (by decide +kernel)
      obtain ⟨b227, g227⟩ : ∃ z, z = h0.size := ⟨_, rfl⟩
      rw [← g227] at A227 B227 st227
      have ne228 : a0 ≠ b227 := Nat.ne_of_lt (Nat.lt_of_lt_of_le (hp0).lt (Nat.le_of_eq g227.symm))
      have Z227 : n0 ≤ h227.size := Nat.le_trans Z0 E227.1
      have K227 : Keep h0 h227 [] := (Keep.refl h0 []).ext E227
      have ge227 : n0 ≤ b227 := Nat.le_trans Z0 (Nat.le_of_eq g227.symm)
      have sz227 : h0.size ≤ b227 := Nat.le_trans (Keep.refl h0 []).1 (Nat.le_of_eq g227.symm)
      have V227 : Arv Z h227 b227 k227 .byte (5 : Int32) [(.int (0 : Int32)), (.int (0 : Int32)), (.int (0 : Int32)), (.int (0 : Int32)), (.int (0 : Int32))] (.int (0 : Int32)) := (Arv.new A227 (by decide)).pad (pad_rep [] _ 5)
      refine own_go st227 ?_
      show own_Got p e below _ T227 (mkF m 3 #[.val (.ref a0), .val (.int (0 : Int32)), .val (.int (5 : Int32)), .unset, .unset, .unset] [(.ref b227)])
      refine g_astoreN X227 hx hby #[.val (.ref a0), .val (.int (0 : Int32)), .val (.int (5 : Int32)), .val (.ref b227), .unset, .unset] d_cpB_3 rfl rfl (rfl : 3 + 1 = 4) ?_
      refine g_aloadN X227 hx hby d_cpB_4 rfl rfl (rfl : 4 + 1 = 5) ?_
      refine g_iloadN X227 hx hby d_cpB_5 rfl (rfl : 5 + 1 = 6) ?_
      refine g_aloadN X227 hx hby d_cpB_6 rfl rfl (rfl : 6 + 1 = 7) ?_
      refine g_iconst X227 hx hby (0 : Int32) d_cpB_7 (by decide) (rfl : 7 + 1 = 8) ?_
      refine g_iloadN X227 hx hby d_cpB_8 rfl (rfl : 8 + 1 = 9) ?_
      have f230 : Arv Z h227 a0 kc .char (5 : Int32) [(.int c0), (.int c1), (.int c2), (.int c3), (.int c4)] (.int (0 : Int32)) := (hp0.ext E227)
      obtain ⟨_, _, ⟨T229, L229, k229, n229⟩, -, X229, ⟨Lc229, hQ229, l229, y229, z229⟩, st229⟩ := Jvm.LawKit.callS X227 hx (y := mN17) hown (mvT hZ (hw _ (own_M 20 rfl))) (mvT hZ (hw _ (own_M 21 rfl))) (mvT hZ (hw _ (own_M 17 rfl))) (mvT hZ (hw _ (own_M 22 rfl))) (by decide) (backOf (W := 0) (rm_cpI1 l Z aT hw [] a0 b227 kc c0 c1 c2 c3 c4 k227 h227 n0 Z227 f230 B227 V227 ge227 ne228 c207 c226) hZ (hw _ (own_M 22 rfl)) (hw _ (own_M 17 rfl)) (by decide) (by decide)) (g := (mkF m 9 #[.val (.ref a0), .val (.int (0 : Int32)), .val (.int (5 : Int32)), .val (.ref b227), .unset, .unset] [(.int (5 : Int32)), (.int (0 : Int32)), (.ref b227), (.int (0 : Int32)), (.ref a0)])) rfl (by rw [hml]; rfl) (argsL := [(.ref a0), (.int (0 : Int32)), (.ref b227), (.int (0 : Int32)), (.int (5 : Int32))]) (rest := []) (lenOf pd10 rfl) rfl (by show 2 * 0 + _ ≤ _; exact Nat.le_of_eq rfl) (hb hby d_cpB_9) (fun _ _ => ⟨rfl, e227, (by decide : 1 + 0 ≤ _), (by decide : 5 + 0 ≤ _)⟩)
      dsimp only [Pt.U, Pt.locs, Pt.cells, Pt.slots] at X229 l229 y229 z229 st229 hQ229
      subst l229 y229 z229
      obtain ⟨rfl, N229q, K229, q229_0⟩ := hQ229
      have N229 := Fr.app N0 N229q
      have Z229 : n0 ≤ T229.heap.size := Nat.le_trans Z227 K229.1
      have KC229 : Keep h0 T229.heap [] := K227.trans K229 (allS (Or.inr sz227) all0)
      refine own_go st229 ?_
      show own_Got p e below _ T229 (mkF m 12 #[.val (.ref a0), .val (.int (0 : Int32)), .val (.int (5 : Int32)), .val (.ref b227), .unset, .unset] [(.int (1 : Int32))])
      refine g_istore X229 hx hby #[.val (.ref a0), .val (.int (0 : Int32)), .val (.int (5 : Int32)), .val (.ref b227), .val (.int (1 : Int32)), .unset] d_cpB_12 rfl (rfl : 12 + 2 = 14) ?_
      refine g_iload X229 hx hby d_cpB_14 rfl (rfl : 14 + 2 = 16) ?_
      refine g_iloadN X229 hx hby d_cpB_16 rfl (rfl : 16 + 1 = 17) ?_
      refine g_icF X229 hx hby d_cpB_17 (feq (by decide : ¬ ((1 : Int32) = (5 : Int32)))).1 (rfl : 17 + 3 = 20) ?_
      refine g_aloadN X229 hx hby d_cpB_20 rfl rfl (rfl : 20 + 1 = 21) ?_
      refine g_iloadN X229 hx hby d_cpB_21 rfl (rfl : 21 + 1 = 22) ?_
      refine g_iloadN X229 hx hby d_cpB_22 rfl (rfl : 22 + 1 = 23) ?_
      have f232 : Arv Z T229.heap a0 kc .char (5 : Int32) [(.int c0), (.int c1), (.int c2), (.int c3), (.int c4)] (.int (0 : Int32)) := (Arv.keep f230 K229 (ninS ne228 nin0))
      have f233 : Sta Z T229.heap "java/lang/StringUTF16" "$assertionsDisabled" "Z" (.int (1 : Int32)) := (own_stakeep (Sta.ext E227 hp1) K229 B227)
      have f234 : Sta Z T229.heap "java/lang/StringUTF16" "HI_BYTE_SHIFT" "I" (.int (0 : Int32)) := (own_stakeep (Sta.ext E227 hp2) K229 B227)
      have f235 : Sta Z T229.heap "java/lang/StringUTF16" "LO_BYTE_SHIFT" "I" (.int (8 : Int32)) := (own_stakeep (Sta.ext E227 hp3) K229 B227)
      obtain ⟨_, _, ⟨T231, L231, k231, n231⟩, -, X231, ⟨Lc231, hQ231, l231, y231, z231⟩, st231⟩ := Jvm.LawKit.callS X229 hx (y := mN23) hown (mvT hZ (hw _ (own_M 103 rfl))) (mvT hZ (hw _ (own_M 104 rfl))) (mvT hZ (hw _ (own_M 17 rfl))) (mvT hZ (hw _ (own_M 105 rfl))) (by decide) (backOf (W := 0) (rm_toB l Z aT hw [] a0 kc c0 c1 c2 c3 c4 T229.heap n0 Z229 f232 f233 f234 f235) hZ (hw _ (own_M 105 rfl)) (hw _ (own_M 17 rfl)) (by decide) (by decide)) (g := (mkF m 23 #[.val (.ref a0), .val (.int (0 : Int32)), .val (.int (5 : Int32)), .val (.ref b227), .val (.int (1 : Int32)), .unset] [(.int (5 : Int32)), (.int (0 : Int32)), (.ref a0)])) rfl (by rw [hml]; rfl) (argsL := [(.ref a0), (.int (0 : Int32)), (.int (5 : Int32))]) (rest := []) (lenOf pd11 rfl) rfl (by show 2 * 0 + _ ≤ _; exact Nat.le_of_eq rfl) (hb hby d_cpB_23) (fun _ _ => ⟨rfl, rfl, (by decide : 1 + 1 ≤ _), (by decide : 5 + 10 ≤ _)⟩)
      dsimp only [Pt.U, Pt.locs, Pt.cells, Pt.slots] at X231 l231 y231 z231 st231 hQ231
      subst l231 y231 z231
      obtain ⟨ob_231, kb_231, rfl, N231q, K231, q231_0, q231_1, q231_2⟩ := hQ231
      have N231 := Fr.app N229 N231q
      have Z231 : n0 ≤ T231.heap.size := Nat.le_trans Z229 K231.1
      have KC231 : Keep h0 T231.heap [] := KC229.trans K231 all0
      have ne236 : a0 ≠ ob_231 := Nat.ne_of_lt (Nat.lt_of_lt_of_le (f232).lt q231_0)
      have ne237 : b227 ≠ ob_231 := Nat.ne_of_lt (Nat.lt_of_lt_of_le (q229_0).lt q231_0)
      have ge238 : n0 ≤ ob_231 := Nat.le_trans Z229 q231_0
      have sz239 : h0.size ≤ ob_231 := Nat.le_trans KC229.1 q231_0
      refine own_go st231 ?_
      show own_Got p e below _ T231 (mkF m 26 #[.val (.ref a0), .val (.int (0 : Int32)), .val (.int (5 : Int32)), .val (.ref b227), .val (.int (1 : Int32)), .unset] [(.ref ob_231)])
      refine g_astore X231 hx hby #[.val (.ref a0), .val (.int (0 : Int32)), .val (.int (5 : Int32)), .val (.ref b227), .val (.int (1 : Int32)), .val (.ref ob_231)] d_cpB_26 rfl rfl (rfl : 26 + 2 = 28) ?_
      refine g_aload X231 hx hby d_cpB_28 rfl rfl (rfl : 28 + 2 = 30) ?_
      refine g_iload X231 hx hby d_cpB_30 rfl (rfl : 30 + 2 = 32) ?_
      have f241 : Sta Z T231.heap "java/lang/StringUTF16" "$assertionsDisabled" "Z" (.int (1 : Int32)) := (own_stakeep0 f233 K231)
      have f242 : Sta Z T231.heap "java/lang/StringUTF16" "HI_BYTE_SHIFT" "I" (.int (0 : Int32)) := (own_stakeep0 f234 K231)
      have f243 : Sta Z T231.heap "java/lang/StringUTF16" "LO_BYTE_SHIFT" "I" (.int (8 : Int32)) := (own_stakeep0 f235 K231)
      obtain ⟨_, _, ⟨T240, L240, k240, n240⟩, -, X240, ⟨Lc240, hQ240, l240, y240, z240⟩, st240⟩ := Jvm.LawKit.callS X231 hx (y := mN18) hown (mvT hZ (hw _ (own_M 119 rfl))) (mvT hZ (hw _ (own_M 120 rfl))) (mvT hZ (hw _ (own_M 17 rfl))) (mvT hZ (hw _ (own_M 121 rfl))) (by decide) (backOf (W := 0) (rm_gch1 l Z aT hw [] ob_231 kb_231 _ _ _ _ _ T231.heap n0 Z231 q231_2 f241 f242 f243 hr1) hZ (hw _ (own_M 121 rfl)) (hw _ (own_M 17 rfl)) (by decide) (by decide)) (g := (mkF m 32 #[.val (.ref a0), .val (.int (0 : Int32)), .val (.int (5 : Int32)), .val (.ref b227), .val (.int (1 : Int32)), .val (.ref ob_231)] [(.int (1 : Int32)), (.ref ob_231)])) rfl (by rw [hml]; rfl) (argsL := [(.ref ob_231), (.int (1 : Int32))]) (rest := []) (lenOf pd4 rfl) rfl (by show 2 * 0 + _ ≤ _; exact Nat.le_of_eq rfl) (hb hby d_cpB_32) (fun _ _ => ⟨rfl, rfl, (by decide : 2 + 0 ≤ _), (by decide : 15 + 0 ≤ _)⟩)
      dsimp only [Pt.U, Pt.locs, Pt.cells, Pt.slots] at X240 l240 y240 z240 st240 hQ240
      subst l240 y240 z240
      obtain ⟨rfl, N240q, eq240⟩ := hQ240
      have N240 := Fr.app N231 N240q
      refine own_go st240 ?_
      show own_Got p e below _ T240 (mkF m 35 #[.val (.ref a0), .val (.int (0 : Int32)), .val (.int (5 : Int32)), .val (.ref b227), .val (.int (1 : Int32)), .val (.ref ob_231)] [(.int c1)])
      refine g_sipush X240 hx hby (255 : Int32) d_cpB_35 (by decide) (rfl : 35 + 3 = 38) ?_
      refine g_icT X240 hx hby d_cpB_38 (tlt c226).2.2.1 (by decide) (pc' := 54) (by decide) ?_
      refine g_aload X240 hx hby d_cpB_54 rfl rfl (rfl : 54 + 2 = 56) ?_
      have o244 : own_cn (10 : Int32) [(.int ((c0 >>> ((0 : Int32) &&& 31)).toInt8.toInt32)), (.int ((c0 >>> ((8 : Int32) &&& 31)).toInt8.toInt32)), (.int ((c1 >>> ((0 : Int32) &&& 31)).toInt8.toInt32)), (.int ((c1 >>> ((8 : Int32) &&& 31)).toInt8.toInt32)), (.int ((c2 >>> ((0 : Int32) &&& 31)).toInt8.toInt32)), (.int ((c2 >>> ((8 : Int32) &&& 31)).toInt8.toInt32)), (.int ((c3 >>> ((0 : Int32) &&& 31)).toInt8.toInt32)), (.int ((c3 >>> ((8 : Int32) &&& 31)).toInt8.toInt32)), (.int ((c4 >>> ((0 : Int32) &&& 31)).toInt8.toInt32)), (.int ((c4 >>> ((8 : Int32) &&& 31)).toInt8.toInt32))] c0 c1 c2 c3 c4 := Or.inr ⟨rfl, rfl⟩
      refine own_retR X240 hx hby hlk hrt rfl d_cpB_56 (by decide) (by decide) rfl ?_
      show Q_cpB Z a0 kc c0 c1 c2 c3 c4 h0 n0 _ T240.heap _
      rw [eq240]
      exact ⟨ob_231, kb_231, (10 : Int32), [(.int ((c0 >>> ((0 : Int32) &&& 31)).toInt8.toInt32)), (.int ((c0 >>> ((8 : Int32) &&& 31)).toInt8.toInt32)), (.int ((c1 >>> ((0 : Int32) &&& 31)).toInt8.toInt32)), (.int ((c1 >>> ((8 : Int32) &&& 31)).toInt8.toInt32)), (.int ((c2 >>> ((0 : Int32) &&& 31)).toInt8.toInt32)), (.int ((c2 >>> ((8 : Int32) &&& 31)).toInt8.toInt32)), (.int ((c3 >>> ((0 : Int32) &&& 31)).toInt8.toInt32)), (.int ((c3 >>> ((8 : Int32) &&& 31)).toInt8.toInt32)), (.int ((c4 >>> ((0 : Int32) &&& 31)).toInt8.toInt32)), (.int ((c4 >>> ((8 : Int32) &&& 31)).toInt8.toInt32))], rfl, N240, KC231, sz239, q231_1, q231_2, o244⟩
    · by_cases c245 : (255 : Int32) < c2
      · refine g_iloadN X0 hx hby d_cpB_0 rfl (rfl : 0 + 1 = 1) ?_
        obtain ⟨T246, h246, k246, X246, e246, E246, A246, B246, st246⟩ := newPE X0 hx hZ (hw _ (own_M 19 rfl)) e0 (g := (mkF m 1 #[.val (.ref a0), .val (.int (0 : Int32)), .val (.int (5 : Int32)), .unset, .unset, .unset] [(.int (5 : Int32))])) rfl (hb hby d_cpB_1) rfl (by decide) (cap := 5) (by decide) (by decide) (by decide) (by decide) (ad := "[B") (by decide +kernel)
        obtain ⟨b246, g246⟩ : ∃ z, z = h0.size := ⟨_, rfl⟩
        rw [← g246] at A246 B246 st246
        have ne247 : a0 ≠ b246 := Nat.ne_of_lt (Nat.lt_of_lt_of_le (hp0).lt (Nat.le_of_eq g246.symm))
        have Z246 : n0 ≤ h246.size := Nat.le_trans Z0 E246.1
        have K246 : Keep h0 h246 [] := (Keep.refl h0 []).ext E246
        have ge246 : n0 ≤ b246 := Nat.le_trans Z0 (Nat.le_of_eq g246.symm)
        have sz246 : h0.size ≤ b246 := Nat.le_trans (Keep.refl h0 []).1 (Nat.le_of_eq g246.symm)
        have V246 : Arv Z h246 b246 k246 .byte (5 : Int32) [(.int (0 : Int32)), (.int (0 : Int32)), (.int (0 : Int32)), (.int (0 : Int32)), (.int (0 : Int32))] (.int (0 : Int32)) := (Arv.new A246 (by decide)).pad (pad_rep [] _ 5)
        refine own_go st246 ?_
        show own_Got p e below _ T246 (mkF m 3 #[.val (.ref a0), .val (.int (0 : Int32)), .val (.int (5 : Int32)), .unset, .unset, .unset] [(.ref b246)])
        refine g_astoreN X246 hx hby #[.val (.ref a0), .val (.int (0 : Int32)), .val (.int (5 : Int32)), .val (.ref b246), .unset, .unset] d_cpB_3 rfl rfl (rfl : 3 + 1 = 4) ?_
        refine g_aloadN X246 hx hby d_cpB_4 rfl rfl (rfl : 4 + 1 = 5) ?_
        refine g_iloadN X246 hx hby d_cpB_5 rfl (rfl : 5 + 1 = 6) ?_
        refine g_aloadN X246 hx hby d_cpB_6 rfl rfl (rfl : 6 + 1 = 7) ?_
        refine g_iconst X246 hx hby (0 : Int32) d_cpB_7 (by decide) (rfl : 7 + 1 = 8) ?_
        refine g_iloadN X246 hx hby d_cpB_8 rfl (rfl : 8 + 1 = 9) ?_
        have f249 : Arv Z h246 a0 kc .char (5 : Int32) [(.int c0), (.int c1), (.int c2), (.int c3), (.int c4)] (.int (0 : Int32)) := (hp0.ext E246)
        obtain ⟨_, _, ⟨T248, L248, k248, n248⟩, -, X248, ⟨Lc248, hQ248, l248, y248, z248⟩, st248⟩ := Jvm.LawKit.callS X246 hx (y := mN17) hown (mvT hZ (hw _ (own_M 20 rfl))) (mvT hZ (hw _ (own_M 21 rfl))) (mvT hZ (hw _ (own_M 17 rfl))) (mvT hZ (hw _ (own_M 22 rfl))) (by decide) (backOf (W := 0) (rm_cpI2 l Z aT hw [] a0 b246 kc c0 c1 c2 c3 c4 k246 h246 n0 Z246 f249 B246 V246 ge246 ne247 c207 c226 c245) hZ (hw _ (own_M 22 rfl)) (hw _ (own_M 17 rfl)) (by decide) (by decide)) (g := (mkF m 9 #[.val (.ref a0), .val (.int (0 : Int32)), .val (.int (5 : Int32)), .val (.ref b246), .unset, .unset] [(.int (5 : Int32)), (.int (0 : Int32)), (.ref b246), (.int (0 : Int32)), (.ref a0)])) rfl (by rw [hml]; rfl) (argsL := [(.ref a0), (.int (0 : Int32)), (.ref b246), (.int (0 : Int32)), (.int (5 : Int32))]) (rest := []) (lenOf pd10 rfl) rfl (by show 2 * 0 + _ ≤ _; exact Nat.le_of_eq rfl) (hb hby d_cpB_9) (fun _ _ => ⟨rfl, e246, (by decide : 1 + 0 ≤ _), (by decide : 5 + 0 ≤ _)⟩)
        dsimp only [Pt.U, Pt.locs, Pt.cells, Pt.slots] at X248 l248 y248 z248 st248 hQ248
        subst l248 y248 z248
        obtain ⟨rfl, N248q, K248, q248_0⟩ := hQ248
        have N248 := Fr.app N0 N248q
        have Z248 : n0 ≤ T248.heap.size := Nat.le_trans Z246 K248.1
        have KC248 : Keep h0 T248.heap [] := K246.trans K248 (allS (Or.inr sz246) all0)
        refine own_go st248 ?_
        show own_Got p e below _ T248 (mkF m 12 #[.val (.ref a0), .val (.int (0 : Int32)), .val (.int (5 : Int32)), .val (.ref b246), .unset, .unset] [(.int (2 : Int32))])
        refine g_istore X248 hx hby #[.val (.ref a0), .val (.int (0 : Int32)), .val (.int (5 : Int32)), .val (.ref b246), .val (.int (2 : Int32)), .unset] d_cpB_12 rfl (rfl : 12 + 2 = 14) ?_
        refine g_iload X248 hx hby d_cpB_14 rfl (rfl : 14 + 2 = 16) ?_
        refine g_iloadN X248 hx hby d_cpB_16 rfl (rfl : 16 + 1 = 17) ?_
        refine g_icF X248 hx hby d_cpB_17 (feq (by decide : ¬ ((2 : Int32) = (5 : Int32)))).1 (rfl : 17 + 3 = 20) ?_
        refine g_aloadN X248 hx hby d_cpB_20 rfl rfl (rfl : 20 + 1 = 21) ?_
        refine g_iloadN X248 hx hby d_cpB_21 rfl (rfl : 21 + 1 = 22) ?_
        refine g_iloadN X248 hx hby d_cpB_22 rfl (rfl : 22 + 1 = 23) ?_
        have f251 : Arv Z T248.heap a0 kc .char (5 : Int32) [(.int c0), (.int c1), (.int c2), (.int c3), (.int c4)] (.int (0 : Int32)) := (Arv.keep f249 K248 (ninS ne247 nin0))
        have f252 : Sta Z T248.heap "java/lang/StringUTF16" "$assertionsDisabled" "Z" (.int (1 : Int32)) := (own_stakeep (Sta.ext E246 hp1) K248 B246)
        have f253 : Sta Z T248.heap "java/lang/StringUTF16" "HI_BYTE_SHIFT" "I" (.int (0 : Int32)) := (own_stakeep (Sta.ext E246 hp2) K248 B246)
        have f254 : Sta Z T248.heap "java/lang/StringUTF16" "LO_BYTE_SHIFT" "I" (.int (8 : Int32)) := (own_stakeep (Sta.ext E246 hp3) K248 B246)
        obtain ⟨_, _, ⟨T250, L250, k250, n250⟩, -, X250, ⟨Lc250, hQ250, l250, y250, z250⟩, st250⟩ := Jvm.LawKit.callS X248 hx (y := mN23) hown (mvT hZ (hw _ (own_M 103 rfl))) (mvT hZ (hw _ (own_M 104 rfl))) (mvT hZ (hw _ (own_M 17 rfl))) (mvT hZ (hw _ (own_M 105 rfl))) (by decide) (backOf (W := 0) (rm_toB l Z aT hw [] a0 kc c0 c1 c2 c3 c4 T248.heap n0 Z248 f251 f252 f253 f254) hZ (hw _ (own_M 105 rfl)) (hw _ (own_M 17 rfl)) (by decide) (by decide)) (g := (mkF m 23 #[.val (.ref a0), .val (.int (0 : Int32)), .val (.int (5 : Int32)), .val (.ref b246), .val (.int (2 : Int32)), .unset] [(.int (5 : Int32)), (.int (0 : Int32)), (.ref a0)])) rfl (by rw [hml]; rfl) (argsL := [(.ref a0), (.int (0 : Int32)), (.int (5 : Int32))]) (rest := []) (lenOf pd11 rfl) rfl (by show 2 * 0 + _ ≤ _; exact Nat.le_of_eq rfl) (hb hby d_cpB_23) (fun _ _ => ⟨rfl, rfl, (by decide : 1 + 1 ≤ _), (by decide : 5 + 10 ≤ _)⟩)
        dsimp only [Pt.U, Pt.locs, Pt.cells, Pt.slots] at X250 l250 y250 z250 st250 hQ250
        subst l250 y250 z250
        obtain ⟨ob_250, kb_250, rfl, N250q, K250, q250_0, q250_1, q250_2⟩ := hQ250
        have N250 := Fr.app N248 N250q
        have Z250 : n0 ≤ T250.heap.size := Nat.le_trans Z248 K250.1
        have KC250 : Keep h0 T250.heap [] := KC248.trans K250 all0
        have ne255 : a0 ≠ ob_250 := Nat.ne_of_lt (Nat.lt_of_lt_of_le (f251).lt q250_0)
        have ne256 : b246 ≠ ob_250 := Nat.ne_of_lt (Nat.lt_of_lt_of_le (q248_0).lt q250_0)
        have ge257 : n0 ≤ ob_250 := Nat.le_trans Z248 q250_0
        have sz258 : h0.size ≤ ob_250 := Nat.le_trans KC248.1 q250_0
        refine own_go st250 ?_
        show own_Got p e below _ T250 (mkF m 26 #[.val (.ref a0), .val (.int (0 : Int32)), .val (.int (5 : Int32)), .val (.ref b246), .val (.int (2 : Int32)), .unset] [(.ref ob_250)])
        refine g_astore X250 hx hby #[.val (.ref a0), .val (.int (0 : Int32)), .val (.int (5 : Int32)), .val (.ref b246), .val (.int (2 : Int32)), .val (.ref ob_250)] d_cpB_26 rfl rfl (rfl : 26 + 2 = 28) ?_
        refine g_aload X250 hx hby d_cpB_28 rfl rfl (rfl : 28 + 2 = 30) ?_
        refine g_iload X250 hx hby d_cpB_30 rfl (rfl : 30 + 2 = 32) ?_
        have f260 : Sta Z T250.heap "java/lang/StringUTF16" "$assertionsDisabled" "Z" (.int (1 : Int32)) := (own_stakeep0 f252 K250)
        have f261 : Sta Z T250.heap "java/lang/StringUTF16" "HI_BYTE_SHIFT" "I" (.int (0 : Int32)) := (own_stakeep0 f253 K250)
        have f262 : Sta Z T250.heap "java/lang/StringUTF16" "LO_BYTE_SHIFT" "I" (.int (8 : Int32)) := (own_stakeep0 f254 K250)
        obtain ⟨_, _, ⟨T259, L259, k259, n259⟩, -, X259, ⟨Lc259, hQ259, l259, y259, z259⟩, st259⟩ := Jvm.LawKit.callS X250 hx (y := mN18) hown (mvT hZ (hw _ (own_M 119 rfl))) (mvT hZ (hw _ (own_M 120 rfl))) (mvT hZ (hw _ (own_M 17 rfl))) (mvT hZ (hw _ (own_M 121 rfl))) (by decide) (backOf (W := 0) (rm_gch2 l Z aT hw [] ob_250 kb_250 _ _ _ _ _ T250.heap n0 Z250 q250_2 f260 f261 f262 hr2) hZ (hw _ (own_M 121 rfl)) (hw _ (own_M 17 rfl)) (by decide) (by decide)) (g := (mkF m 32 #[.val (.ref a0), .val (.int (0 : Int32)), .val (.int (5 : Int32)), .val (.ref b246), .val (.int (2 : Int32)), .val (.ref ob_250)] [(.int (2 : Int32)), (.ref ob_250)])) rfl (by rw [hml]; rfl) (argsL := [(.ref ob_250), (.int (2 : Int32))]) (rest := []) (lenOf pd4 rfl) rfl (by show 2 * 0 + _ ≤ _; exact Nat.le_of_eq rfl) (hb hby d_cpB_32) (fun _ _ => ⟨rfl, rfl, (by decide : 2 + 0 ≤ _), (by decide : 15 + 0 ≤ _)⟩)
        dsimp only [Pt.U, Pt.locs, Pt.cells, Pt.slots] at X259 l259 y259 z259 st259 hQ259
        subst l259 y259 z259
        obtain ⟨rfl, N259q, eq259⟩ := hQ259
        have N259 := Fr.app N250 N259q
        refine own_go st259 ?_
        show own_Got p e below _ T259 (mkF m 35 #[.val (.ref a0), .val (.int (0 : Int32)), .val (.int (5 : Int32)), .val (.ref b246), .val (.int (2 : Int32)), .val (.ref ob_250)] [(.int c2)])
        refine g_sipush X259 hx hby (255 : Int32) d_cpB_35 (by decide) (rfl : 35 + 3 = 38) ?_
        refine g_icT X259 hx hby d_cpB_38 (tlt c245).2.2.1 (by decide) (pc' := 54) (by decide) ?_
        refine g_aload X259 hx hby d_cpB_54 rfl rfl (rfl : 54 + 2 = 56) ?_
        have o263 : own_cn (10 : Int32) [(.int ((c0 >>> ((0 : Int32) &&& 31)).toInt8.toInt32)), (.int ((c0 >>> ((8 : Int32) &&& 31)).toInt8.toInt32)), (.int ((c1 >>> ((0 : Int32) &&& 31)).toInt8.toInt32)), (.int ((c1 >>> ((8 : Int32) &&& 31)).toInt8.toInt32)), (.int ((c2 >>> ((0 : Int32) &&& 31)).toInt8.toInt32)), (.int ((c2 >>> ((8 : Int32) &&& 31)).toInt8.toInt32)), (.int ((c3 >>> ((0 : Int32) &&& 31)).toInt8.toInt32)), (.int ((c3 >>> ((8 : Int32) &&& 31)).toInt8.toInt32)), (.int ((c4 >>> ((0 : Int32) &&& 31)).toInt8.toInt32)), (.int ((c4 >>> ((8 : Int32) &&& 31)).toInt8.toInt32))] c0 c1 c2 c3 c4 := Or.inr ⟨rfl, rfl⟩
        refine own_retR X259 hx hby hlk hrt rfl d_cpB_56 (by decide) (by decide) rfl ?_
        show Q_cpB Z a0 kc c0 c1 c2 c3 c4 h0 n0 _ T259.heap _
        rw [eq259]
        exact ⟨ob_250, kb_250, (10 : Int32), [(.int ((c0 >>> ((0 : Int32) &&& 31)).toInt8.toInt32)), (.int ((c0 >>> ((8 : Int32) &&& 31)).toInt8.toInt32)), (.int ((c1 >>> ((0 : Int32) &&& 31)).toInt8.toInt32)), (.int ((c1 >>> ((8 : Int32) &&& 31)).toInt8.toInt32)), (.int ((c2 >>> ((0 : Int32) &&& 31)).toInt8.toInt32)), (.int ((c2 >>> ((8 : Int32) &&& 31)).toInt8.toInt32)), (.int ((c3 >>> ((0 : Int32) &&& 31)).toInt8.toInt32)), (.int ((c3 >>> ((8 : Int32) &&& 31)).toInt8.toInt32)), (.int ((c4 >>> ((0 : Int32) &&& 31)).toInt8.toInt32)), (.int ((c4 >>> ((8 : Int32) &&& 31)).toInt8.toInt32))], rfl, N259, KC250, sz258, q250_1, q250_2, o263⟩
      · by_cases c264 : (255 : Int32) < c3
        · refine g_iloadN X0 hx hby d_cpB_0 rfl (rfl : 0 + 1 = 1) ?_
          obtain ⟨T265, h265, k265, X265, e265, E265, A265, B265, st265⟩ := newPE X0 hx hZ (hw _ (own_M 19 rfl)) e0 (g := (mkF m 1 #[.val (.ref a0), .val (.int (0 : Int32)), .val (.int (5 : Int32)), .unset, .unset, .unset] [(.int (5 : Int32))])) rfl (hb hby d_cpB_1) rfl (by decide) (cap := 5) (by decide) (by decide) (by decide) (by decide) (ad := "[B") (by decide +kernel)
          obtain ⟨b265, g265⟩ : ∃ z, z = h0.size := ⟨_, rfl⟩
          rw [← g265] at A265 B265 st265
          have ne266 : a0 ≠ b265 := Nat.ne_of_lt (Nat.lt_of_lt_of_le (hp0).lt (Nat.le_of_eq g265.symm))
          have Z265 : n0 ≤ h265.size := Nat.le_trans Z0 E265.1
          have K265 : Keep h0 h265 [] := (Keep.refl h0 []).ext E265
          have ge265 : n0 ≤ b265 := Nat.le_trans Z0 (Nat.le_of_eq g265.symm)
          have sz265 : h0.size ≤ b265 := Nat.le_trans (Keep.refl h0 []).1 (Nat.le_of_eq g265.symm)
          have V265 : Arv Z h265 b265 k265 .byte (5 : Int32) [(.int (0 : Int32)), (.int (0 : Int32)), (.int (0 : Int32)), (.int (0 : Int32)), (.int (0 : Int32))] (.int (0 : Int32)) := (Arv.new A265 (by decide)).pad (pad_rep [] _ 5)
          refine own_go st265 ?_
          show own_Got p e below _ T265 (mkF m 3 #[.val (.ref a0), .val (.int (0 : Int32)), .val (.int (5 : Int32)), .unset, .unset, .unset] [(.ref b265)])
          refine g_astoreN X265 hx hby #[.val (.ref a0), .val (.int (0 : Int32)), .val (.int (5 : Int32)), .val (.ref b265), .unset, .unset] d_cpB_3 rfl rfl (rfl : 3 + 1 = 4) ?_
          refine g_aloadN X265 hx hby d_cpB_4 rfl rfl (rfl : 4 + 1 = 5) ?_
          refine g_iloadN X265 hx hby d_cpB_5 rfl (rfl : 5 + 1 = 6) ?_
          refine g_aloadN X265 hx hby d_cpB_6 rfl rfl (rfl : 6 + 1 = 7) ?_
          refine g_iconst X265 hx hby (0 : Int32) d_cpB_7 (by decide) (rfl : 7 + 1 = 8) ?_
          refine g_iloadN X265 hx hby d_cpB_8 rfl (rfl : 8 + 1 = 9) ?_
          have f268 : Arv Z h265 a0 kc .char (5 : Int32) [(.int c0), (.int c1), (.int c2), (.int c3), (.int c4)] (.int (0 : Int32)) := (hp0.ext E265)
          obtain ⟨_, _, ⟨T267, L267, k267, n267⟩, -, X267, ⟨Lc267, hQ267, l267, y267, z267⟩, st267⟩ := Jvm.LawKit.callS X265 hx (y := mN17) hown (mvT hZ (hw _ (own_M 20 rfl))) (mvT hZ (hw _ (own_M 21 rfl))) (mvT hZ (hw _ (own_M 17 rfl))) (mvT hZ (hw _ (own_M 22 rfl))) (by decide) (backOf (W := 0) (rm_cpI3 l Z aT hw [] a0 b265 kc c0 c1 c2 c3 c4 k265 h265 n0 Z265 f268 B265 V265 ge265 ne266 c207 c226 c245 c264) hZ (hw _ (own_M 22 rfl)) (hw _ (own_M 17 rfl)) (by decide) (by decide)) (g := (mkF m 9 #[.val (.ref a0), .val (.int (0 : Int32)), .val (.int (5 : Int32)), .val (.ref b265), .unset, .unset] [(.int (5 : Int32)), (.int (0 : Int32)), (.ref b265), (.int (0 : Int32)), (.ref a0)])) rfl (by rw [hml]; rfl) (argsL := [(.ref a0), (.int (0 : Int32)), (.ref b265), (.int (0 : Int32)), (.int (5 : Int32))]) (rest := []) (lenOf pd10 rfl) rfl (by show 2 * 0 + _ ≤ _; exact Nat.le_of_eq rfl) (hb hby d_cpB_9) (fun _ _ => ⟨rfl, e265, (by decide : 1 + 0 ≤ _), (by decide : 5 + 0 ≤ _)⟩)
          dsimp only [Pt.U, Pt.locs, Pt.cells, Pt.slots] at X267 l267 y267 z267 st267 hQ267
          subst l267 y267 z267
          obtain ⟨rfl, N267q, K267, q267_0⟩ := hQ267
          have N267 := Fr.app N0 N267q
          have Z267 : n0 ≤ T267.heap.size := Nat.le_trans Z265 K267.1
          have KC267 : Keep h0 T267.heap [] := K265.trans K267 (allS (Or.inr sz265) all0)
          refine own_go st267 ?_
          show own_Got p e below _ T267 (mkF m 12 #[.val (.ref a0), .val (.int (0 : Int32)), .val (.int (5 : Int32)), .val (.ref b265), .unset, .unset] [(.int (3 : Int32))])
          refine g_istore X267 hx hby #[.val (.ref a0), .val (.int (0 : Int32)), .val (.int (5 : Int32)), .val (.ref b265), .val (.int (3 : Int32)), .unset] d_cpB_12 rfl (rfl : 12 + 2 = 14) ?_
          refine g_iload X267 hx hby d_cpB_14 rfl (rfl : 14 + 2 = 16) ?_
          refine g_iloadN X267 hx hby d_cpB_16 rfl (rfl : 16 + 1 = 17) ?_
          refine g_icF X267 hx hby d_cpB_17 (feq (by decide : ¬ ((3 : Int32) = (5 : Int32)))).1 (rfl : 17 + 3 = 20) ?_
          refine g_aloadN X267 hx hby d_cpB_20 rfl rfl (rfl : 20 + 1 = 21) ?_
          refine g_iloadN X267 hx hby d_cpB_21 rfl (rfl : 21 + 1 = 22) ?_
          refine g_iloadN X267 hx hby d_cpB_22 rfl (rfl : 22 + 1 = 23) ?_
          have f270 : Arv Z T267.heap a0 kc .char (5 : Int32) [(.int c0), (.int c1), (.int c2), (.int c3), (.int c4)] (.int (0 : Int32)) := (Arv.keep f268 K267 (ninS ne266 nin0))
          have f271 : Sta Z T267.heap "java/lang/StringUTF16" "$assertionsDisabled" "Z" (.int (1 : Int32)) := (own_stakeep (Sta.ext E265 hp1) K267 B265)
          have f272 : Sta Z T267.heap "java/lang/StringUTF16" "HI_BYTE_SHIFT" "I" (.int (0 : Int32)) := (own_stakeep (Sta.ext E265 hp2) K267 B265)
          have f273 : Sta Z T267.heap "java/lang/StringUTF16" "LO_BYTE_SHIFT" "I" (.int (8 : Int32)) := (own_stakeep (Sta.ext E265 hp3) K267 B265)
          obtain ⟨_, _, ⟨T269, L269, k269, n269⟩, -, X269, ⟨Lc269, hQ269, l269, y269, z269⟩, st269⟩ := Jvm.LawKit.callS X267 hx (y := mN23) hown (mvT hZ (hw _ (own_M 103 rfl))) (mvT hZ (hw _ (own_M 104 rfl))) (mvT hZ (hw _ (own_M 17 rfl))) (mvT hZ (hw _ (own_M 105 rfl))) (by decide) (backOf (W := 0) (rm_toB l Z aT hw [] a0 kc c0 c1 c2 c3 c4 T267.heap n0 Z267 f270 f271 f272 f273) hZ (hw _ (own_M 105 rfl)) (hw _ (own_M 17 rfl)) (by decide) (by decide)) (g := (mkF m 23 #[.val (.ref a0), .val (.int (0 : Int32)), .val (.int (5 : Int32)), .val (.ref b265), .val (.int (3 : Int32)), .unset] [(.int (5 : Int32)), (.int (0 : Int32)), (.ref a0)])) rfl (by rw [hml]; rfl) (argsL := [(.ref a0), (.int (0 : Int32)), (.int (5 : Int32))]) (rest := []) (lenOf pd11 rfl) rfl (by show 2 * 0 + _ ≤ _; exact Nat.le_of_eq rfl) (hb hby d_cpB_23) (fun _ _ => ⟨rfl, rfl, (by decide : 1 + 1 ≤ _), (by decide : 5 + 10 ≤ _)⟩)
          dsimp only [Pt.U, Pt.locs, Pt.cells, Pt.slots] at X269 l269 y269 z269 st269 hQ269
          subst l269 y269 z269
          obtain ⟨ob_269, kb_269, rfl, N269q, K269, q269_0, q269_1, q269_2⟩ := hQ269
          have N269 := Fr.app N267 N269q
          have Z269 : n0 ≤ T269.heap.size := Nat.le_trans Z267 K269.1
          have KC269 : Keep h0 T269.heap [] := KC267.trans K269 all0
          have ne274 : a0 ≠ ob_269 := Nat.ne_of_lt (Nat.lt_of_lt_of_le (f270).lt q269_0)
          have ne275 : b265 ≠ ob_269 := Nat.ne_of_lt (Nat.lt_of_lt_of_le (q267_0).lt q269_0)
          have ge276 : n0 ≤ ob_269 := Nat.le_trans Z267 q269_0
          have sz277 : h0.size ≤ ob_269 := Nat.le_trans KC267.1 q269_0
          refine own_go st269 ?_
          show own_Got p e below _ T269 (mkF m 26 #[.val (.ref a0), .val (.int (0 : Int32)), .val (.int (5 : Int32)), .val (.ref b265), .val (.int (3 : Int32)), .unset] [(.ref ob_269)])
          refine g_astore X269 hx hby #[.val (.ref a0), .val (.int (0 : Int32)), .val (.int (5 : Int32)), .val (.ref b265), .val (.int (3 : Int32)), .val (.ref ob_269)] d_cpB_26 rfl rfl (rfl : 26 + 2 = 28) ?_
          refine g_aload X269 hx hby d_cpB_28 rfl rfl (rfl : 28 + 2 = 30) ?_
          refine g_iload X269 hx hby d_cpB_30 rfl (rfl : 30 + 2 = 32) ?_
          have f279 : Sta Z T269.heap "java/lang/StringUTF16" "$assertionsDisabled" "Z" (.int (1 : Int32)) := (own_stakeep0 f271 K269)
          have f280 : Sta Z T269.heap "java/lang/StringUTF16" "HI_BYTE_SHIFT" "I" (.int (0 : Int32)) := (own_stakeep0 f272 K269)
          have f281 : Sta Z T269.heap "java/lang/StringUTF16" "LO_BYTE_SHIFT" "I" (.int (8 : Int32)) := (own_stakeep0 f273 K269)
          obtain ⟨_, _, ⟨T278, L278, k278, n278⟩, -, X278, ⟨Lc278, hQ278, l278, y278, z278⟩, st278⟩ := Jvm.LawKit.callS X269 hx (y := mN18) hown (mvT hZ (hw _ (own_M 119 rfl))) (mvT hZ (hw _ (own_M 120 rfl))) (mvT hZ (hw _ (own_M 17 rfl))) (mvT hZ (hw _ (own_M 121 rfl))) (by decide) (backOf (W := 0) (rm_gch3 l Z aT hw [] ob_269 kb_269 _ _ _ _ _ T269.heap n0 Z269 q269_2 f279 f280 f281 hr3) hZ (hw _ (own_M 121 rfl)) (hw _ (own_M 17 rfl)) (by decide) (by decide)) (g := (mkF m 32 #[.val (.ref a0), .val (.int (0 : Int32)), .val (.int (5 : Int32)), .val (.ref b265), .val (.int (3 : Int32)), .val (.ref ob_269)] [(.int (3 : Int32)), (.ref ob_269)])) rfl (by rw [hml]; rfl) (argsL := [(.ref ob_269), (.int (3 : Int32))]) (rest := []) (lenOf pd4 rfl) rfl (by show 2 * 0 + _ ≤ _; exact Nat.le_of_eq rfl) (hb hby d_cpB_32) (fun _ _ => ⟨rfl, rfl, (by decide : 2 + 0 ≤ _), (by decide : 15 + 0 ≤ _)⟩)
          dsimp only [Pt.U, Pt.locs, Pt.cells, Pt.slots] at X278 l278 y278 z278 st278 hQ278
          subst l278 y278 z278
          obtain ⟨rfl, N278q, eq278⟩ := hQ278
          have N278 := Fr.app N269 N278q
          refine own_go st278 ?_
          show own_Got p e below _ T278 (mkF m 35 #[.val (.ref a0), .val (.int (0 : Int32)), .val (.int (5 : Int32)), .val (.ref b265), .val (.int (3 : Int32)), .val (.ref ob_269)] [(.int c3)])
          refine g_sipush X278 hx hby (255 : Int32) d_cpB_35 (by decide) (rfl : 35 + 3 = 38) ?_
          refine g_icT X278 hx hby d_cpB_38 (tlt c264).2.2.1 (by decide) (pc' := 54) (by decide) ?_
          refine g_aload X278 hx hby d_cpB_54 rfl rfl (rfl : 54 + 2 = 56) ?_
          have o282 : own_cn (10 : Int32) [(.int ((c0 >>> ((0 : Int32) &&& 31)).toInt8.toInt32)), (.int ((c0 >>> ((8 : Int32) &&& 31)).toInt8.toInt32)), (.int ((c1 >>> ((0 : Int32) &&& 31)).toInt8.toInt32)), (.int ((c1 >>> ((8 : Int32) &&& 31)).toInt8.toInt32)), (.int ((c2 >>> ((0 : Int32) &&& 31)).toInt8.toInt32)), (.int ((c2 >>> ((8 : Int32) &&& 31)).toInt8.toInt32)), (.int ((c3 >>> ((0 : Int32) &&& 31)).toInt8.toInt32)), (.int ((c3 >>> ((8 : Int32) &&& 31)).toInt8.toInt32)), (.int ((c4 >>> ((0 : Int32) &&& 31)).toInt8.toInt32)), (.int ((c4 >>> ((8 : Int32) &&& 31)).toInt8.toInt32))] c0 c1 c2 c3 c4 := Or.inr ⟨rfl, rfl⟩
          refine own_retR X278 hx hby hlk hrt rfl d_cpB_56 (by decide) (by decide) rfl ?_
          show Q_cpB Z a0 kc c0 c1 c2 c3 c4 h0 n0 _ T278.heap _
          rw [eq278]
          exact ⟨ob_269, kb_269, (10 : Int32), [(.int ((c0 >>> ((0 : Int32) &&& 31)).toInt8.toInt32)), (.int ((c0 >>> ((8 : Int32) &&& 31)).toInt8.toInt32)), (.int ((c1 >>> ((0 : Int32) &&& 31)).toInt8.toInt32)), (.int ((c1 >>> ((8 : Int32) &&& 31)).toInt8.toInt32)), (.int ((c2 >>> ((0 : Int32) &&& 31)).toInt8.toInt32)), (.int ((c2 >>> ((8 : Int32) &&& 31)).toInt8.toInt32)), (.int ((c3 >>> ((0 : Int32) &&& 31)).toInt8.toInt32)), (.int ((c3 >>> ((8 : Int32) &&& 31)).toInt8.toInt32)), (.int ((c4 >>> ((0 : Int32) &&& 31)).toInt8.toInt32)), (.int ((c4 >>> ((8 : Int32) &&& 31)).toInt8.toInt32))], rfl, N278, KC269, sz277, q269_1, q269_2, o282⟩
        · by_cases c283 : (255 : Int32) < c4
          · refine g_iloadN X0 hx hby d_cpB_0 rfl (rfl : 0 + 1 = 1) ?_
            obtain ⟨T284, h284, k284, X284, e284, E284, A284, B284, st284⟩ := newPE X0 hx hZ (hw _ (own_M 19 rfl)) e0 (g := (mkF m 1 #[.val (.ref a0), .val (.int (0 : Int32)), .val (.int (5 : Int32)), .unset, .unset, .unset] [(.int (5 : Int32))])) rfl (hb hby d_cpB_1) rfl (by decide) (cap := 5) (by decide) (by decide) (by decide) (by decide) (ad := "[B") (by decide +kernel)
            obtain ⟨b284, g284⟩ : ∃ z, z = h0.size := ⟨_, rfl⟩
            rw [← g284] at A284 B284 st284
            have ne285 : a0 ≠ b284 := Nat.ne_of_lt (Nat.lt_of_lt_of_le (hp0).lt (Nat.le_of_eq g284.symm))
            have Z284 : n0 ≤ h284.size := Nat.le_trans Z0 E284.1
            have K284 : Keep h0 h284 [] := (Keep.refl h0 []).ext E284
            have ge284 : n0 ≤ b284 := Nat.le_trans Z0 (Nat.le_of_eq g284.symm)
            have sz284 : h0.size ≤ b284 := Nat.le_trans (Keep.refl h0 []).1 (Nat.le_of_eq g284.symm)
            have V284 : Arv Z h284 b284 k284 .byte (5 : Int32) [(.int (0 : Int32)), (.int (0 : Int32)), (.int (0 : Int32)), (.int (0 : Int32)), (.int (0 : Int32))] (.int (0 : Int32)) := (Arv.new A284 (by decide)).pad (pad_rep [] _ 5)
            refine own_go st284 ?_
            show own_Got p e below _ T284 (mkF m 3 #[.val (.ref a0), .val (.int (0 : Int32)), .val (.int (5 : Int32)), .unset, .unset, .unset] [(.ref b284)])
            refine g_astoreN X284 hx hby #[.val (.ref a0), .val (.int (0 : Int32)), .val (.int (5 : Int32)), .val (.ref b284), .unset, .unset] d_cpB_3 rfl rfl (rfl : 3 + 1 = 4) ?_
            refine g_aloadN X284 hx hby d_cpB_4 rfl rfl (rfl : 4 + 1 = 5) ?_
            refine g_iloadN X284 hx hby d_cpB_5 rfl (rfl : 5 + 1 = 6) ?_
            refine g_aloadN X284 hx hby d_cpB_6 rfl rfl (rfl : 6 + 1 = 7) ?_
            refine g_iconst X284 hx hby (0 : Int32) d_cpB_7 (by decide) (rfl : 7 + 1 = 8) ?_
            refine g_iloadN X284 hx hby d_cpB_8 rfl (rfl : 8 + 1 = 9) ?_
            have f287 : Arv Z h284 a0 kc .char (5 : Int32) [(.int c0), (.int c1), (.int c2), (.int c3), (.int c4)] (.int (0 : Int32)) := (hp0.ext E284)
            obtain ⟨_, _, ⟨T286, L286, k286, n286⟩, -, X286, ⟨Lc286, hQ286, l286, y286, z286⟩, st286⟩ := Jvm.LawKit.callS X284 hx (y := mN17) hown (mvT hZ (hw _ (own_M 20 rfl))) (mvT hZ (hw _ (own_M 21 rfl))) (mvT hZ (hw _ (own_M 17 rfl))) (mvT hZ (hw _ (own_M 22 rfl))) (by decide) (backOf (W := 0) (rm_cpI4 l Z aT hw [] a0 b284 kc c0 c1 c2 c3 c4 k284 h284 n0 Z284 f287 B284 V284 ge284 ne285 c207 c226 c245 c264 c283) hZ (hw _ (own_M 22 rfl)) (hw _ (own_M 17 rfl)) (by decide) (by decide)) (g := (mkF m 9 #[.val (.ref a0), .val (.int (0 : Int32)), .val (.int (5 : Int32)), .val (.ref b284), .unset, .unset] [(.int (5 : Int32)), (.int (0 : Int32)), (.ref b284), (.int (0 : Int32)), (.ref a0)])) rfl (by rw [hml]; rfl) (argsL := [(.ref a0), (.int (0 : Int32)), (.ref b284), (.int (0 : Int32)), (.int (5 : Int32))]) (rest := []) (lenOf pd10 rfl) rfl (by show 2 * 0 + _ ≤ _; exact Nat.le_of_eq rfl) (hb hby d_cpB_9) (fun _ _ => ⟨rfl, e284, (by decide : 1 + 0 ≤ _), (by decide : 5 + 0 ≤ _)⟩)
            dsimp only [Pt.U, Pt.locs, Pt.cells, Pt.slots] at X286 l286 y286 z286 st286 hQ286
            subst l286 y286 z286
            obtain ⟨rfl, N286q, K286, q286_0⟩ := hQ286
            have N286 := Fr.app N0 N286q
            have Z286 : n0 ≤ T286.heap.size := Nat.le_trans Z284 K286.1
            have KC286 : Keep h0 T286.heap [] := K284.trans K286 (allS (Or.inr sz284) all0)
            refine own_go st286 ?_
            show own_Got p e below _ T286 (mkF m 12 #[.val (.ref a0), .val (.int (0 : Int32)), .val (.int (5 : Int32)), .val (.ref b284), .unset, .unset] [(.int (4 : Int32))])
            refine g_istore X286 hx hby #[.val (.ref a0), .val (.int (0 : Int32)), .val (.int (5 : Int32)), .val (.ref b284), .val (.int (4 : Int32)), .unset] d_cpB_12 rfl (rfl : 12 + 2 = 14) ?_
            refine g_iload X286 hx hby d_cpB_14 rfl (rfl : 14 + 2 = 16) ?_
            refine g_iloadN X286 hx hby d_cpB_16 rfl (rfl : 16 + 1 = 17) ?_
            refine g_icF X286 hx hby d_cpB_17 (feq (by decide : ¬ ((4 : Int32) = (5 : Int32)))).1 (rfl : 17 + 3 = 20) ?_
            refine g_aloadN X286 hx hby d_cpB_20 rfl rfl (rfl : 20 + 1 = 21) ?_
            refine g_iloadN X286 hx hby d_cpB_21 rfl (rfl : 21 + 1 = 22) ?_
            refine g_iloadN X286 hx hby d_cpB_22 rfl (rfl : 22 + 1 = 23) ?_
            have f289 : Arv Z T286.heap a0 kc .char (5 : Int32) [(.int c0), (.int c1), (.int c2), (.int c3), (.int c4)] (.int (0 : Int32)) := (Arv.keep f287 K286 (ninS ne285 nin0))
            have f290 : Sta Z T286.heap "java/lang/StringUTF16" "$assertionsDisabled" "Z" (.int (1 : Int32)) := (own_stakeep (Sta.ext E284 hp1) K286 B284)
            have f291 : Sta Z T286.heap "java/lang/StringUTF16" "HI_BYTE_SHIFT" "I" (.int (0 : Int32)) := (own_stakeep (Sta.ext E284 hp2) K286 B284)
            have f292 : Sta Z T286.heap "java/lang/StringUTF16" "LO_BYTE_SHIFT" "I" (.int (8 : Int32)) := (own_stakeep (Sta.ext E284 hp3) K286 B284)
            obtain ⟨_, _, ⟨T288, L288, k288, n288⟩, -, X288, ⟨Lc288, hQ288, l288, y288, z288⟩, st288⟩ := Jvm.LawKit.callS X286 hx (y := mN23) hown (mvT hZ (hw _ (own_M 103 rfl))) (mvT hZ (hw _ (own_M 104 rfl))) (mvT hZ (hw _ (own_M 17 rfl))) (mvT hZ (hw _ (own_M 105 rfl))) (by decide) (backOf (W := 0) (rm_toB l Z aT hw [] a0 kc c0 c1 c2 c3 c4 T286.heap n0 Z286 f289 f290 f291 f292) hZ (hw _ (own_M 105 rfl)) (hw _ (own_M 17 rfl)) (by decide) (by decide)) (g := (mkF m 23 #[.val (.ref a0), .val (.int (0 : Int32)), .val (.int (5 : Int32)), .val (.ref b284), .val (.int (4 : Int32)), .unset] [(.int (5 : Int32)), (.int (0 : Int32)), (.ref a0)])) rfl (by rw [hml]; rfl) (argsL := [(.ref a0), (.int (0 : Int32)), (.int (5 : Int32))]) (rest := []) (lenOf pd11 rfl) rfl (by show 2 * 0 + _ ≤ _; exact Nat.le_of_eq rfl) (hb hby d_cpB_23) (fun _ _ => ⟨rfl, rfl, (by decide : 1 + 1 ≤ _), (by decide : 5 + 10 ≤ _)⟩)
            dsimp only [Pt.U, Pt.locs, Pt.cells, Pt.slots] at X288 l288 y288 z288 st288 hQ288
            subst l288 y288 z288
            obtain ⟨ob_288, kb_288, rfl, N288q, K288, q288_0, q288_1, q288_2⟩ := hQ288
            have N288 := Fr.app N286 N288q
            have Z288 : n0 ≤ T288.heap.size := Nat.le_trans Z286 K288.1
            have KC288 : Keep h0 T288.heap [] := KC286.trans K288 all0
            have ne293 : a0 ≠ ob_288 := Nat.ne_of_lt (Nat.lt_of_lt_of_le (f289).lt q288_0)
            have ne294 : b284 ≠ ob_288 := Nat.ne_of_lt (Nat.lt_of_lt_of_le (q286_0).lt q288_0)
            have ge295 : n0 ≤ ob_288 := Nat.le_trans Z286 q288_0
            have sz296 : h0.size ≤ ob_288 := Nat.le_trans KC286.1 q288_0
            refine own_go st288 ?_
            show own_Got p e below _ T288 (mkF m 26 #[.val (.ref a0), .val (.int (0 : Int32)), .val (.int (5 : Int32)), .val (.ref b284), .val (.int (4 : Int32)), .unset] [(.ref ob_288)])
            refine g_astore X288 hx hby #[.val (.ref a0), .val (.int (0 : Int32)), .val (.int (5 : Int32)), .val (.ref b284), .val (.int (4 : Int32)), .val (.ref ob_288)] d_cpB_26 rfl rfl (rfl : 26 + 2 = 28) ?_
            refine g_aload X288 hx hby d_cpB_28 rfl rfl (rfl : 28 + 2 = 30) ?_
            refine g_iload X288 hx hby d_cpB_30 rfl (rfl : 30 + 2 = 32) ?_
            have f298 : Sta Z T288.heap "java/lang/StringUTF16" "$assertionsDisabled" "Z" (.int (1 : Int32)) := (own_stakeep0 f290 K288)
            have f299 : Sta Z T288.heap "java/lang/StringUTF16" "HI_BYTE_SHIFT" "I" (.int (0 : Int32)) := (own_stakeep0 f291 K288)
            have f300 : Sta Z T288.heap "java/lang/StringUTF16" "LO_BYTE_SHIFT" "I" (.int (8 : Int32)) := (own_stakeep0 f292 K288)
            obtain ⟨_, _, ⟨T297, L297, k297, n297⟩, -, X297, ⟨Lc297, hQ297, l297, y297, z297⟩, st297⟩ := Jvm.LawKit.callS X288 hx (y := mN18) hown (mvT hZ (hw _ (own_M 119 rfl))) (mvT hZ (hw _ (own_M 120 rfl))) (mvT hZ (hw _ (own_M 17 rfl))) (mvT hZ (hw _ (own_M 121 rfl))) (by decide) (backOf (W := 0) (rm_gch4 l Z aT hw [] ob_288 kb_288 _ _ _ _ _ T288.heap n0 Z288 q288_2 f298 f299 f300 hr4) hZ (hw _ (own_M 121 rfl)) (hw _ (own_M 17 rfl)) (by decide) (by decide)) (g := (mkF m 32 #[.val (.ref a0), .val (.int (0 : Int32)), .val (.int (5 : Int32)), .val (.ref b284), .val (.int (4 : Int32)), .val (.ref ob_288)] [(.int (4 : Int32)), (.ref ob_288)])) rfl (by rw [hml]; rfl) (argsL := [(.ref ob_288), (.int (4 : Int32))]) (rest := []) (lenOf pd4 rfl) rfl (by show 2 * 0 + _ ≤ _; exact Nat.le_of_eq rfl) (hb hby d_cpB_32) (fun _ _ => ⟨rfl, rfl, (by decide : 2 + 0 ≤ _), (by decide : 15 + 0 ≤ _)⟩)
            dsimp only [Pt.U, Pt.locs, Pt.cells, Pt.slots] at X297 l297 y297 z297 st297 hQ297
            subst l297 y297 z297
            obtain ⟨rfl, N297q, eq297⟩ := hQ297
            have N297 := Fr.app N288 N297q
            refine own_go st297 ?_
            show own_Got p e below _ T297 (mkF m 35 #[.val (.ref a0), .val (.int (0 : Int32)), .val (.int (5 : Int32)), .val (.ref b284), .val (.int (4 : Int32)), .val (.ref ob_288)] [(.int c4)])
            refine g_sipush X297 hx hby (255 : Int32) d_cpB_35 (by decide) (rfl : 35 + 3 = 38) ?_
            refine g_icT X297 hx hby d_cpB_38 (tlt c283).2.2.1 (by decide) (pc' := 54) (by decide) ?_
            refine g_aload X297 hx hby d_cpB_54 rfl rfl (rfl : 54 + 2 = 56) ?_
            have o301 : own_cn (10 : Int32) [(.int ((c0 >>> ((0 : Int32) &&& 31)).toInt8.toInt32)), (.int ((c0 >>> ((8 : Int32) &&& 31)).toInt8.toInt32)), (.int ((c1 >>> ((0 : Int32) &&& 31)).toInt8.toInt32)), (.int ((c1 >>> ((8 : Int32) &&& 31)).toInt8.toInt32)), (.int ((c2 >>> ((0 : Int32) &&& 31)).toInt8.toInt32)), (.int ((c2 >>> ((8 : Int32) &&& 31)).toInt8.toInt32)), (.int ((c3 >>> ((0 : Int32) &&& 31)).toInt8.toInt32)), (.int ((c3 >>> ((8 : Int32) &&& 31)).toInt8.toInt32)), (.int ((c4 >>> ((0 : Int32) &&& 31)).toInt8.toInt32)), (.int ((c4 >>> ((8 : Int32) &&& 31)).toInt8.toInt32))] c0 c1 c2 c3 c4 := Or.inr ⟨rfl, rfl⟩
            refine own_retR X297 hx hby hlk hrt rfl d_cpB_56 (by decide) (by decide) rfl ?_
            show Q_cpB Z a0 kc c0 c1 c2 c3 c4 h0 n0 _ T297.heap _
            rw [eq297]
            exact ⟨ob_288, kb_288, (10 : Int32), [(.int ((c0 >>> ((0 : Int32) &&& 31)).toInt8.toInt32)), (.int ((c0 >>> ((8 : Int32) &&& 31)).toInt8.toInt32)), (.int ((c1 >>> ((0 : Int32) &&& 31)).toInt8.toInt32)), (.int ((c1 >>> ((8 : Int32) &&& 31)).toInt8.toInt32)), (.int ((c2 >>> ((0 : Int32) &&& 31)).toInt8.toInt32)), (.int ((c2 >>> ((8 : Int32) &&& 31)).toInt8.toInt32)), (.int ((c3 >>> ((0 : Int32) &&& 31)).toInt8.toInt32)), (.int ((c3 >>> ((8 : Int32) &&& 31)).toInt8.toInt32)), (.int ((c4 >>> ((0 : Int32) &&& 31)).toInt8.toInt32)), (.int ((c4 >>> ((8 : Int32) &&& 31)).toInt8.toInt32))], rfl, N297, KC288, sz296, q288_1, q288_2, o301⟩
          · refine g_iloadN X0 hx hby d_cpB_0 rfl (rfl : 0 + 1 = 1) ?_
            obtain ⟨T302, h302, k302, X302, e302, E302, A302, B302, st302⟩ := newPE X0 hx hZ (hw _ (own_M 19 rfl)) e0 (g := (mkF m 1 #[.val (.ref a0), .val (.int (0 : Int32)), .val (.int (5 : Int32)), .unset, .unset, .unset] [(.int (5 : Int32))])) rfl (hb hby d_cpB_1) rfl (by decide) (cap := 5) (by decide) (by decide) (by decide) (by decide) (ad := "[B") (by decide +kernel)
            obtain ⟨b302, g302⟩ : ∃ z, z = h0.size := ⟨_, rfl⟩
            rw [← g302] at A302 B302 st302
            have ne303 : a0 ≠ b302 := Nat.ne_of_lt (Nat.lt_of_lt_of_le (hp0).lt (Nat.le_of_eq g302.symm))
            have Z302 : n0 ≤ h302.size := Nat.le_trans Z0 E302.1
            have K302 : Keep h0 h302 [] := (Keep.refl h0 []).ext E302
            have ge302 : n0 ≤ b302 := Nat.le_trans Z0 (Nat.le_of_eq g302.symm)
            have sz302 : h0.size ≤ b302 := Nat.le_trans (Keep.refl h0 []).1 (Nat.le_of_eq g302.symm)
            have V302 : Arv Z h302 b302 k302 .byte (5 : Int32) [(.int (0 : Int32)), (.int (0 : Int32)), (.int (0 : Int32)), (.int (0 : Int32)), (.int (0 : Int32))] (.int (0 : Int32)) := (Arv.new A302 (by decide)).pad (pad_rep [] _ 5)
            refine own_go st302 ?_
            show own_Got p e below _ T302 (mkF m 3 #[.val (.ref a0), .val (.int (0 : Int32)), .val (.int (5 : Int32)), .unset, .unset, .unset] [(.ref b302)])
            refine g_astoreN X302 hx hby #[.val (.ref a0), .val (.int (0 : Int32)), .val (.int (5 : Int32)), .val (.ref b302), .unset, .unset] d_cpB_3 rfl rfl (rfl : 3 + 1 = 4) ?_
            refine g_aloadN X302 hx hby d_cpB_4 rfl rfl (rfl : 4 + 1 = 5) ?_
            refine g_iloadN X302 hx hby d_cpB_5 rfl (rfl : 5 + 1 = 6) ?_
            refine g_aloadN X302 hx hby d_cpB_6 rfl rfl (rfl : 6 + 1 = 7) ?_
            refine g_iconst X302 hx hby (0 : Int32) d_cpB_7 (by decide) (rfl : 7 + 1 = 8) ?_
            refine g_iloadN X302 hx hby d_cpB_8 rfl (rfl : 8 + 1 = 9) ?_
            have f305 : Arv Z h302 a0 kc .char (5 : Int32) [(.int c0), (.int c1), (.int c2), (.int c3), (.int c4)] (.int (0 : Int32)) := (hp0.ext E302)
            obtain ⟨_, _, ⟨T304, L304, k304, n304⟩, -, X304, ⟨Lc304, hQ304, l304, y304, z304⟩, st304⟩ := Jvm.LawKit.callS X302 hx (y := mN17) hown (mvT hZ (hw _ (own_M 20 rfl))) (mvT hZ (hw _ (own_M 21 rfl))) (mvT hZ (hw _ (own_M 17 rfl))) (mvT hZ (hw _ (own_M 22 rfl))) (by decide) (backOf (W := 0) (rm_cpI l Z aT hw [] a0 b302 kc c0 c1 c2 c3 c4 k302 h302 n0 Z302 f305 B302 V302 ge302 ne303 c207 c226 c245 c264 c283) hZ (hw _ (own_M 22 rfl)) (hw _ (own_M 17 rfl)) (by decide) (by decide)) (g := (mkF m 9 #[.val (.ref a0), .val (.int (0 : Int32)), .val (.int (5 : Int32)), .val (.ref b302), .unset, .unset] [(.int (5 : Int32)), (.int (0 : Int32)), (.ref b302), (.int (0 : Int32)), (.ref a0)])) rfl (by rw [hml]; rfl) (argsL := [(.ref a0), (.int (0 : Int32)), (.ref b302), (.int (0 : Int32)), (.int (5 : Int32))]) (rest := []) (lenOf pd10 rfl) rfl (by show 2 * 0 + _ ≤ _; exact Nat.le_of_eq rfl) (hb hby d_cpB_9) (fun _ _ => ⟨rfl, e302, (by decide : 1 + 0 ≤ _), (by decide : 5 + 0 ≤ _)⟩)
            dsimp only [Pt.U, Pt.locs, Pt.cells, Pt.slots] at X304 l304 y304 z304 st304 hQ304
            subst l304 y304 z304
            obtain ⟨rfl, N304q, K304, q304_0, q304_1⟩ := hQ304
            have N304 := Fr.app N0 N304q
            have Z304 : n0 ≤ T304.heap.size := Nat.le_trans Z302 K304.1
            have KC304 : Keep h0 T304.heap [] := K302.trans K304 (allS (Or.inr sz302) all0)
            refine own_go st304 ?_
            show own_Got p e below _ T304 (mkF m 12 #[.val (.ref a0), .val (.int (0 : Int32)), .val (.int (5 : Int32)), .val (.ref b302), .unset, .unset] [(.int (5 : Int32))])
            refine g_istore X304 hx hby #[.val (.ref a0), .val (.int (0 : Int32)), .val (.int (5 : Int32)), .val (.ref b302), .val (.int (5 : Int32)), .unset] d_cpB_12 rfl (rfl : 12 + 2 = 14) ?_
            refine g_iload X304 hx hby d_cpB_14 rfl (rfl : 14 + 2 = 16) ?_
            refine g_iloadN X304 hx hby d_cpB_16 rfl (rfl : 16 + 1 = 17) ?_
            refine g_icT X304 hx hby d_cpB_17 (teq (by decide : (5 : Int32) = (5 : Int32))).1 (by decide) (pc' := 57) (by decide) ?_
            refine g_aloadN X304 hx hby d_cpB_57 rfl rfl (rfl : 57 + 1 = 58) ?_
            have o306 : own_cn (5 : Int32) [(.int (c0.toInt8.toInt32)), (.int (c1.toInt8.toInt32)), (.int (c2.toInt8.toInt32)), (.int (c3.toInt8.toInt32)), (.int (c4.toInt8.toInt32))] c0 c1 c2 c3 c4 := Or.inl ⟨rfl, rfl, c207, c226, c245, c264, c283⟩
            refine own_retR X304 hx hby hlk hrt rfl d_cpB_58 (by decide) (by decide) rfl ?_
            show Q_cpB Z a0 kc c0 c1 c2 c3 c4 h0 n0 _ T304.heap _
            exact ⟨b302, k302, (5 : Int32), [(.int (c0.toInt8.toInt32)), (.int (c1.toInt8.toInt32)), (.int (c2.toInt8.toInt32)), (.int (c3.toInt8.toInt32)), (.int (c4.toInt8.toInt32))], rfl, N304, KC304, sz302, q304_0, q304_1, o306⟩
theorem d_cfl_0 : decode jdk_52_method_15_code 0 = .ok (.iload_n 1, 1) := by decide +kernel
theorem d_cfl_1 : decode jdk_52_method_15_code 1 = .ok (.aload_n 0, 1) := by decide +kernel
theorem d_cfl_2 : decode jdk_52_method_15_code 2 = .ok (.arraylength, 1) := by decide +kernel
theorem d_cfl_3 : decode jdk_52_method_15_code 3 = .ok (.isub, 1) := by decide +kernel
theorem d_cfl_4 : decode jdk_52_method_15_code 4 = .ok (.bipush 31, 2) := by decide +kernel
theorem d_cfl_6 : decode jdk_52_method_15_code 6 = .ok (.iushr, 1) := by decide +kernel
theorem d_cfl_7 : decode jdk_52_method_15_code 7 = .ok (.i2b, 1) := by decide +kernel
theorem d_cfl_8 : decode jdk_52_method_15_code 8 = .ok (.ireturn, 1) := by decide +kernel
theorem ef_cfl (m : MethodId) (a0 : Addr) : entryFrame m #[(.ref a0), (.int (5 : Int32))] 2 = mkF m 0 #[.val (.ref a0), .val (.int (5 : Int32))] [] := by first | (simp [entryFrame, mkF, argsToLocals, Value.category]; done) | rfl
def F_cfl (n : Int32) : Int32 := (nar .byte (((((5 : Int32) - n).toUInt32 >>> ((31 : Int32) &&& 31).toUInt32).toInt32).toInt8.toInt32))
def Q_cfl (Z : State) (a0 : Addr) (kb : ClassId) (n : Int32) (vs : List Value) (h0 : Heap) (n0 : Nat) (v : Option Value) (h : Heap) (L : List Loc) : Prop := v = some (.int (F_cfl n)) ∧ Fr n0 L ∧ h = h0
set_option maxRecDepth 65536 in
set_option maxHeartbeats 40000000 in
theorem rm_cfl (l : Launch) (Z : State) (aT : Array Value) (hw : ∀ d ∈ tables_1, d.before aT Z = true) (ws : List Jvm.Cond) (a0 : Addr) (kb : ClassId) (n : Int32) (vs : List Value) (h0 : Heap) (n0 : Nat) (Z0 : n0 ≤ h0.size) (hp0 : Arv Z h0 a0 kb .byte n vs (.int (0 : Int32))) :
    MetFree l mN15 (head1 (Jvm.Cond.code mN15 jdk_52_method_15_code 2 (some .byte) :: ws) ({ frames := 0, cells := 0, slots := 0, locals := 0 } : Room)) (fun a U => a = #[(.ref a0), (.int (5 : Int32))] ∧ Z.Warmed39 U.vm ∧ U.heap = h0) (fun _ _ _ _ _ => True) (fun _ U o U' => ∃ v L, o = .returned v ∧ Q_cfl Z a0 kb n vs h0 n0 v U'.heap L ∧ FrameEnd U o U' L ({ frames := 0, cells := 0, slots := 0, locals := 0 } : Room).cells ({ frames := 0, cells := 0, slots := 0, locals := 0 } : Room).slots) := by
  refine MetFree.of_bodySF (plainFor_of_name pn2) hisR ?_
  intro p e s m args below meth c s₁ Bd hml0 hP hK
  obtain ⟨rfl, hZ, hh⟩ := hP
  have hx := Bd.exec
  have hby := Bd.bytes
  have hml : c.maxLocals = 2 := hml0
  have hown : s.vm.findClass "java/lang/StringUTF16" = some m.cls := findClass_of_methodNamed Bd.named
  have hnm := (name_of_methodNamed Bd.named Bd.method).1
  have hlk := Bd.notSynchronized
  have hrt := Bd.returns
  have X0 : Stand p l e ({ frames := 0, cells := 0, slots := 0, locals := 0 } : Room) s m #[(.ref a0), (.int (5 : Int32))] below meth c s₁ [] 0 0 := Stand.of_body Bd
  have e0 : s₁.heap = h0 := by rw [← hh, Bd.state]; rfl
  have N0 := Fr.nil n0
  refine own_cast (P := own_End s (Q_cfl Z a0 kb n vs h0 n0) ({ frames := 0, cells := 0, slots := 0, locals := 0 } : Room).cells ({ frames := 0, cells := 0, slots := 0, locals := 0 } : Room).slots) (ef_cfl m a0) ?_
  refine g_iloadN X0 hx hby d_cfl_0 rfl (rfl : 0 + 1 = 1) ?_
  refine g_aloadN X0 hx hby d_cfl_1 rfl rfl (rfl : 1 + 1 = 2) ?_
  refine g_alen X0 hx hby hZ e0 hp0 d_cfl_2 (rfl : 2 + 1 = 3) ?_
  refine g_isub X0 hx hby d_cfl_3 (rfl : 3 + 1 = 4) ?_
  refine g_bipush X0 hx hby (31 : Int32) d_cfl_4 (by decide) (rfl : 4 + 2 = 6) ?_
  refine g_iushr X0 hx hby d_cfl_6 (rfl : 6 + 1 = 7) ?_
  refine g_i2b X0 hx hby d_cfl_7 (rfl : 7 + 1 = 8) ?_
  refine own_retN X0 hx hby hlk (t := .byte) hrt (by simp) d_cfl_8 (by decide) (by decide) ?_
  show Q_cfl Z a0 kb n vs h0 n0 _ s₁.heap _
  exact ⟨rfl, N0, e0⟩
theorem own_ch_of {n : Int32} {vs : List Value} {c0 c1 c2 c3 c4 : Int32} (h : own_cn n vs c0 c1 c2 c3 c4) : own_ch ((F_cfl n).toInt8.toInt32) n vs c0 c1 c2 c3 c4 := by
  rcases h with ⟨rfl, h⟩ | ⟨rfl, h⟩
  · exact Or.inl ⟨by decide +kernel, rfl, h⟩
  · exact Or.inr ⟨by decide +kernel, rfl, h⟩
theorem d_si2_0 : decode jdk_42_method_149_code 0 = .ok (.aload_n 0, 1) := by decide +kernel
theorem d_si2_1 : decode jdk_42_method_149_code 1 = .ok (.invokespecial 1, 3) := by decide +kernel
theorem d_si2_4 : decode jdk_42_method_149_code 4 = .ok (.iload_n 3, 1) := by decide +kernel
theorem d_si2_5 : decode jdk_42_method_149_code 5 = .ok (.ifCond .ne 22, 3) := by decide +kernel
theorem d_si2_27 : decode jdk_42_method_149_code 27 = .ok (.getstatic 38, 3) := by decide +kernel
theorem d_si2_30 : decode jdk_42_method_149_code 30 = .ok (.ifCond .eq 28, 3) := by decide +kernel
theorem d_si2_33 : decode jdk_42_method_149_code 33 = .ok (.aload_n 1, 1) := by decide +kernel
theorem d_si2_34 : decode jdk_42_method_149_code 34 = .ok (.iload_n 2, 1) := by decide +kernel
theorem d_si2_35 : decode jdk_42_method_149_code 35 = .ok (.iload_n 3, 1) := by decide +kernel
theorem d_si2_36 : decode jdk_42_method_149_code 36 = .ok (.invokestatic 177, 3) := by decide +kernel
theorem d_si2_39 : decode jdk_42_method_149_code 39 = .ok (.astore 5, 2) := by decide +kernel
theorem d_si2_41 : decode jdk_42_method_149_code 41 = .ok (.aload_n 0, 1) := by decide +kernel
theorem d_si2_42 : decode jdk_42_method_149_code 42 = .ok (.aload 5, 2) := by decide +kernel
theorem d_si2_44 : decode jdk_42_method_149_code 44 = .ok (.iload_n 3, 1) := by decide +kernel
theorem d_si2_45 : decode jdk_42_method_149_code 45 = .ok (.invokestatic 47, 3) := by decide +kernel
theorem d_si2_48 : decode jdk_42_method_149_code 48 = .ok (.putfield 15, 3) := by decide +kernel
theorem d_si2_51 : decode jdk_42_method_149_code 51 = .ok (.aload_n 0, 1) := by decide +kernel
theorem d_si2_52 : decode jdk_42_method_149_code 52 = .ok (.aload 5, 2) := by decide +kernel
theorem d_si2_54 : decode jdk_42_method_149_code 54 = .ok (.putfield 9, 3) := by decide +kernel
theorem d_si2_57 : decode jdk_42_method_149_code 57 = .ok (.return_, 1) := by decide +kernel
theorem pd12 : parseMethodDescriptor "([BI)B" = some ⟨[(.array .byte), .int], some .byte⟩ := by decide +kernel
theorem ef_si2 (m : MethodId) (a0 : Addr) (a1 : Addr) : entryFrame m #[(.ref a0), (.ref a1), (.int (0 : Int32)), (.int (5 : Int32)), .null] 6 = mkF m 0 #[.val (.ref a0), .val (.ref a1), .val (.int (0 : Int32)), .val (.int (5 : Int32)), .val .null, .unset] [] := by first | (simp [entryFrame, mkF, argsToLocals, Value.category]; done) | rfl
def Q_si2 (Z : State) (a0 : Addr) (a1 : Addr) (kc : ClassId) (c0 : Int32) (c1 : Int32) (c2 : Int32) (c3 : Int32) (c4 : Int32) (g1 : Int32) (h0 : Heap) (n0 : Nat) (v : Option Value) (h : Heap) (L : List Loc) : Prop := ∃ (ob : Addr), ∃ (kb : ClassId), ∃ (cd : Int32), ∃ (n : Int32), ∃ (vs : List Value), v = none ∧ Fr n0 L ∧ Keep h0 h [a0] ∧ Exa Z h a0 "java/lang/String" ∧ Fld Z h a0 "java/lang/String" "coder" "B" (.int cd) ∧ Fld Z h a0 "java/lang/String" "value" "[B" (.ref ob) ∧ Arv Z h ob kb .byte n vs (.int (0 : Int32)) ∧ h0.size ≤ ob ∧ Exa Z h ob "[B" ∧ own_ch cd n vs c0 c1 c2 c3 c4
set_option maxRecDepth 65536 in
set_option maxHeartbeats 40000000 in
theorem rm_si2 (l : Launch) (Z : State) (aT : Array Value) (hw : ∀ d ∈ tables_1, d.before aT Z = true) (ws : List Jvm.Cond) (a0 : Addr) (a1 : Addr) (kc : ClassId) (c0 : Int32) (c1 : Int32) (c2 : Int32) (c3 : Int32) (c4 : Int32) (g1 : Int32) (h0 : Heap) (n0 : Nat) (Z0 : n0 ≤ h0.size) (hp0 : Exa Z h0 a0 "java/lang/String") (hp1 : Fld Z h0 a0 "java/lang/String" "value" "[B" .null) (hp2 : Fld Z h0 a0 "java/lang/String" "coder" "B" (.int (0 : Int32))) (hp3 : n0 ≤ a0) (hp4 : Arv Z h0 a1 kc .char (5 : Int32) [(.int c0), (.int c1), (.int c2), (.int c3), (.int c4)] (.int (0 : Int32))) (hp5 : Sta Z h0 "java/lang/String" "COMPACT_STRINGS" "Z" (.int g1)) (hp6 : Sta Z h0 "java/lang/StringUTF16" "$assertionsDisabled" "Z" (.int (1 : Int32))) (hp7 : Sta Z h0 "java/lang/StringUTF16" "HI_BYTE_SHIFT" "I" (.int (0 : Int32))) (hp8 : Sta Z h0 "java/lang/StringUTF16" "LO_BYTE_SHIFT" "I" (.int (8 : Int32))) (hr0 : own_chr c0) (hr1 : own_chr c1) (hr2 : own_chr c2) (hr3 : own_chr c3) (hr4 : own_chr c4) (hg1 : ¬ (g1 = (0 : Int32))) :
    MetFree l mN6 (head1 (Jvm.Cond.code mN6 jdk_42_method_149_code 6 none :: ws) ({ frames := 4, cells := 2, slots := 15, locals := 57 } : Room)) (fun a U => a = #[(.ref a0), (.ref a1), (.int (0 : Int32)), (.int (5 : Int32)), .null] ∧ Z.Warmed39 U.vm ∧ U.heap = h0) (fun _ _ _ _ _ => True) (fun _ U o U' => ∃ v L, o = .returned v ∧ Q_si2 Z a0 a1 kc c0 c1 c2 c3 c4 g1 h0 n0 v U'.heap L ∧ FrameEnd U o U' L ({ frames := 4, cells := 2, slots := 15, locals := 57 } : Room).cells ({ frames := 4, cells := 2, slots := 15, locals := 57 } : Room).slots) := by
  refine MetFree.of_bodySF (plainFor_of_name pn0) hisR ?_
  intro p e s m args below meth c s₁ Bd hml0 hP hK
  obtain ⟨rfl, hZ, hh⟩ := hP
  have hx := Bd.exec
  have hby := Bd.bytes
  have hml : c.maxLocals = 6 := hml0
  have hown : s.vm.findClass "java/lang/String" = some m.cls := findClass_of_methodNamed Bd.named
  have hnm := (name_of_methodNamed Bd.named Bd.method).1
  have hlk := Bd.notSynchronized
  have hrt := Bd.returns
  have X0 : Stand p l e ({ frames := 4, cells := 2, slots := 15, locals := 57 } : Room) s m #[(.ref a0), (.ref a1), (.int (0 : Int32)), (.int (5 : Int32)), .null] below meth c s₁ [] 0 0 := Stand.of_body Bd
  have e0 : s₁.heap = h0 := by rw [← hh, Bd.state]; rfl
  have N0 := Fr.nil n0
  refine own_cast (P := own_End s (Q_si2 Z a0 a1 kc c0 c1 c2 c3 c4 g1 h0 n0) ({ frames := 4, cells := 2, slots := 15, locals := 57 } : Room).cells ({ frames := 4, cells := 2, slots := 15, locals := 57 } : Room).slots) (ef_si2 m a0 a1) ?_
  refine g_aloadN X0 hx hby d_si2_0 rfl rfl (rfl : 0 + 1 = 1) ?_
  obtain ⟨T307, X307, e307, st307⟩ := initO X0 hx hZ hown (hw _ (own_M 11 rfl)) (hw _ (own_M 12 rfl)) (hw _ (own_M 13 rfl)) e0 (g := (mkF m 1 #[.val (.ref a0), .val (.ref a1), .val (.int (0 : Int32)), .val (.int (5 : Int32)), .val .null, .unset] [(.ref a0)])) rfl (by rw [hml]; rfl) rfl (hb hby d_si2_1) (by decide) (W := 0) (by show 2 * 0 + _ ≤ _; exact Nat.le_of_eq rfl) (by decide)
  refine own_go st307 ?_
  show own_Got p e below _ T307 (mkF m 4 #[.val (.ref a0), .val (.ref a1), .val (.int (0 : Int32)), .val (.int (5 : Int32)), .val .null, .unset] [])
  refine g_iloadN X307 hx hby d_si2_4 rfl (rfl : 4 + 1 = 5) ?_
  refine g_ifT X307 hx hby d_si2_5 ((if0 _ _).trans (feq (by decide : ¬ ((5 : Int32) = (0 : Int32)))).2) (by decide) (pc' := 27) (by decide) ?_
  obtain ⟨T308, X308, e308, st308⟩ := getS2 X307 hx hZ hown (host := "") (Or.inl (hw _ (own_M 14 rfl))) Via.refl e307 hp5 (g := (mkF m 27 #[.val (.ref a0), .val (.ref a1), .val (.int (0 : Int32)), .val (.int (5 : Int32)), .val .null, .unset] [])) rfl (hb hby d_si2_27)
  refine own_go st308 ?_
  show own_Got p e below _ T308 (mkF m 30 #[.val (.ref a0), .val (.ref a1), .val (.int (0 : Int32)), .val (.int (5 : Int32)), .val .null, .unset] [(.int g1)])
  refine g_ifF X308 hx hby d_si2_30 ((if0 _ _).trans (feq hg1).1) (rfl : 30 + 3 = 33) ?_
  refine g_aloadN X308 hx hby d_si2_33 rfl rfl (rfl : 33 + 1 = 34) ?_
  refine g_iloadN X308 hx hby d_si2_34 rfl (rfl : 34 + 1 = 35) ?_
  refine g_iloadN X308 hx hby d_si2_35 rfl (rfl : 35 + 1 = 36) ?_
  obtain ⟨_, _, ⟨T309, L309, k309, n309⟩, -, X309, ⟨Lc309, hQ309, l309, y309, z309⟩, st309⟩ := Jvm.LawKit.callS X308 hx (y := mN16) hown (mvT hZ (hw _ (own_M 15 rfl))) (mvT hZ (hw _ (own_M 16 rfl))) (mvT hZ (hw _ (own_M 17 rfl))) (mvT hZ (hw _ (own_M 18 rfl))) (by decide) (backOf (W := 0) (rm_cpB l Z aT hw [] a1 kc c0 c1 c2 c3 c4 h0 n0 Z0 hp4 hp6 hp7 hp8 hr0 hr1 hr2 hr3 hr4) hZ (hw _ (own_M 18 rfl)) (hw _ (own_M 17 rfl)) (by decide) (by decide)) (g := (mkF m 36 #[.val (.ref a0), .val (.ref a1), .val (.int (0 : Int32)), .val (.int (5 : Int32)), .val .null, .unset] [(.int (5 : Int32)), (.int (0 : Int32)), (.ref a1)])) rfl (by rw [hml]; rfl) (argsL := [(.ref a1), (.int (0 : Int32)), (.int (5 : Int32))]) (rest := []) (lenOf pd11 rfl) rfl (by show 2 * 0 + _ ≤ _; exact Nat.le_of_eq rfl) (hb hby d_si2_36) (fun _ _ => ⟨rfl, e308, (by decide : 0 + 2 ≤ _), (by decide : 0 + 15 ≤ _)⟩)
  dsimp only [Pt.U, Pt.locs, Pt.cells, Pt.slots] at X309 l309 y309 z309 st309 hQ309
  subst l309 y309 z309
  obtain ⟨ob_309, kb_309, n_309, vs_309, rfl, N309q, K309, q309_0, q309_1, q309_2, q309_3⟩ := hQ309
  have N309 := Fr.app N0 N309q
  have Z309 : n0 ≤ T309.heap.size := Nat.le_trans Z0 K309.1
  have KC309 : Keep h0 T309.heap [a0] := (Keep.refl h0 [a0]).trans K309 all0
  have ne310 : a0 ≠ ob_309 := Nat.ne_of_lt (Nat.lt_of_lt_of_le (hp0).lt q309_0)
  have ne311 : a1 ≠ ob_309 := Nat.ne_of_lt (Nat.lt_of_lt_of_le (hp4).lt q309_0)
  have ge312 : n0 ≤ ob_309 := Nat.le_trans Z0 q309_0
  have sz313 : h0.size ≤ ob_309 := Nat.le_trans (Keep.refl h0 [a0]).1 q309_0
  refine own_go st309 ?_
  show own_Got p e below _ T309 (mkF m 39 #[.val (.ref a0), .val (.ref a1), .val (.int (0 : Int32)), .val (.int (5 : Int32)), .val .null, .unset] [(.ref ob_309)])
  refine g_astore X309 hx hby #[.val (.ref a0), .val (.ref a1), .val (.int (0 : Int32)), .val (.int (5 : Int32)), .val .null, .val (.ref ob_309)] d_si2_39 rfl rfl (rfl : 39 + 2 = 41) ?_
  refine g_aloadN X309 hx hby d_si2_41 rfl rfl (rfl : 41 + 1 = 42) ?_
  refine g_aload X309 hx hby d_si2_42 rfl rfl (rfl : 42 + 2 = 44) ?_
  refine g_iloadN X309 hx hby d_si2_44 rfl (rfl : 44 + 1 = 45) ?_
  obtain ⟨_, _, ⟨T314, L314, k314, n314⟩, -, X314, ⟨Lc314, hQ314, l314, y314, z314⟩, st314⟩ := Jvm.LawKit.callS X309 hx (y := mN15) hown (mvT hZ (hw _ (own_M 23 rfl))) (mvT hZ (hw _ (own_M 24 rfl))) (mvT hZ (hw _ (own_M 17 rfl))) (mvT hZ (hw _ (own_M 25 rfl))) (by decide) (backOf (W := 1) (rm_cfl l Z aT hw [] ob_309 kb_309 n_309 vs_309 T309.heap n0 Z309 q309_2) hZ (hw _ (own_M 25 rfl)) (hw _ (own_M 17 rfl)) (by decide) (by decide)) (g := (mkF m 45 #[.val (.ref a0), .val (.ref a1), .val (.int (0 : Int32)), .val (.int (5 : Int32)), .val .null, .val (.ref ob_309)] [(.int (5 : Int32)), (.ref ob_309), (.ref a0)])) rfl (by rw [hml]; rfl) (argsL := [(.ref ob_309), (.int (5 : Int32))]) (rest := [(.ref a0)]) (lenOf pd12 rfl) rfl (by show 2 * 0 + _ ≤ _; exact Nat.le_of_eq rfl) (hb hby d_si2_45) (fun _ _ => ⟨rfl, rfl, (by decide : 2 + 0 ≤ _), (by decide : 15 + 0 ≤ _)⟩)
  dsimp only [Pt.U, Pt.locs, Pt.cells, Pt.slots] at X314 l314 y314 z314 st314 hQ314
  subst l314 y314 z314
  obtain ⟨rfl, N314q, eq314⟩ := hQ314
  have N314 := Fr.app N309 N314q
  refine own_go st314 ?_
  show own_Got p e below _ T314 (mkF m 48 #[.val (.ref a0), .val (.ref a1), .val (.int (0 : Int32)), .val (.int (5 : Int32)), .val .null, .val (.ref ob_309)] [(.int (F_cfl n_309)), (.ref a0)])
  have f315 : Fld Z T309.heap a0 "java/lang/String" "coder" "B" (.int (0 : Int32)) := (Fld.keep hp2 K309 nin0)
  have f316 : Exa Z T309.heap a0 "java/lang/String" := (Exa.keep hp0 K309)
  obtain ⟨T317, h317, X317, e317, W317, st317⟩ := putFN X314 hx hZ hown (hw _ (own_M 26 rfl)) Via.refl eq314 f315 f316 (Or.inr ⟨(hw _ (own_M 27 rfl)), rfl, hnm⟩) (hw _ (own_M 2 rfl)) (ty := .byte) (v' := (.int ((F_cfl n_309).toInt8.toInt32))) (by decide) rfl (fits_nar_byte _) (g := (mkF m 48 #[.val (.ref a0), .val (.ref a1), .val (.int (0 : Int32)), .val (.int (5 : Int32)), .val .null, .val (.ref ob_309)] [(.int (F_cfl n_309)), (.ref a0)])) rfl rfl (hb hby d_si2_48)
  have Z317 : n0 ≤ h317.size := Nat.le_trans Z309 (Keep.of_wr W317).1
  have N317 := Fr.snoc X317 N314 hp3
  have K317 : Keep h0 h317 [a0] := KC309.wr W317 (Or.inl (List.mem_of_getElem? (i := 0) rfl))
  have f317 : Fld Z h317 a0 "java/lang/String" "coder" "B" (.int ((F_cfl n_309).toInt8.toInt32)) := Fld.same W317 f315
  refine own_go st317 ?_
  show own_Got p e below _ T317 (mkF m 51 #[.val (.ref a0), .val (.ref a1), .val (.int (0 : Int32)), .val (.int (5 : Int32)), .val .null, .val (.ref ob_309)] [])
  refine g_aloadN X317 hx hby d_si2_51 rfl rfl (rfl : 51 + 1 = 52) ?_
  refine g_aload X317 hx hby d_si2_52 rfl rfl (rfl : 52 + 2 = 54) ?_
  have f318 : Fld Z h317 a0 "java/lang/String" "value" "[B" .null := (Fld.other W317 (Fld.keep hp1 K309 nin0) (Or.inr (slot_ne (Or.inr (hw _ (own_M 29 rfl))) (Or.inr (hw _ (own_M 27 rfl))) (by decide) (t := (.array .byte)) (t' := .byte) (by decide) (by decide))))
  have f319 : Exa Z h317 a0 "java/lang/String" := (Exa.wr W317 f316)
  obtain ⟨T320, h320, X320, e320, W320, st320⟩ := putF X317 hx hZ hown (host := "") (Or.inl (hw _ (own_M 28 rfl))) Via.refl e317 f318 f319 (Or.inr ⟨(hw _ (own_M 29 rfl)), rfl, hnm⟩) (hw _ (own_M 2 rfl)) (ty := (.array .byte)) (by decide) rfl rfl (g := (mkF m 54 #[.val (.ref a0), .val (.ref a1), .val (.int (0 : Int32)), .val (.int (5 : Int32)), .val .null, .val (.ref ob_309)] [(.ref ob_309), (.ref a0)])) rfl rfl (hb hby d_si2_54)
  have Z320 : n0 ≤ h320.size := Nat.le_trans Z317 (Keep.of_wr W320).1
  have N320 := Fr.snoc X320 N317 hp3
  have K320 : Keep h0 h320 [a0] := K317.wr W320 (Or.inl (List.mem_of_getElem? (i := 0) rfl))
  have f320 : Fld Z h320 a0 "java/lang/String" "value" "[B" (.ref ob_309) := Fld.same W320 f318
  refine own_go st320 ?_
  show own_Got p e below _ T320 (mkF m 57 #[.val (.ref a0), .val (.ref a1), .val (.int (0 : Int32)), .val (.int (5 : Int32)), .val .null, .val (.ref ob_309)] [])
  have o321 : own_ch ((F_cfl n_309).toInt8.toInt32) n_309 vs_309 c0 c1 c2 c3 c4 := own_ch_of q309_3
  have f322 : Exa Z h320 a0 "java/lang/String" := (Exa.wr W320 f319)
  have f323 : Fld Z h320 a0 "java/lang/String" "coder" "B" (.int ((F_cfl n_309).toInt8.toInt32)) := (Fld.other W320 f317 (Or.inr (slot_ne (Or.inr (hw _ (own_M 27 rfl))) (Or.inr (hw _ (own_M 29 rfl))) (by decide) (t := .byte) (t' := (.array .byte)) (by decide) (by decide))))
  have f324 : Arv Z h320 ob_309 kb_309 .byte n_309 vs_309 (.int (0 : Int32)) := (Arv.other (Arv.other q309_2 W317 (Ne.symm ne310)) W320 (Ne.symm ne310))
  have f325 : Exa Z h320 ob_309 "[B" := (Exa.wr W320 (Exa.wr W317 q309_1))
  refine own_retV X320 hx hby hlk hrt d_si2_57 (by decide) (by decide) ?_
  show Q_si2 Z a0 a1 kc c0 c1 c2 c3 c4 g1 h0 n0 _ T320.heap _
  rw [e320]
  exact ⟨ob_309, kb_309, ((F_cfl n_309).toInt8.toInt32), n_309, vs_309, rfl, N320, K320, f322, f323, f320, f324, sz313, f325, o321⟩
theorem d_si1_0 : decode jdk_42_method_3_code 0 = .ok (.aload_n 0, 1) := by decide +kernel
theorem d_si1_1 : decode jdk_42_method_3_code 1 = .ok (.aload_n 1, 1) := by decide +kernel
theorem d_si1_2 : decode jdk_42_method_3_code 2 = .ok (.iconst 0, 1) := by decide +kernel
theorem d_si1_3 : decode jdk_42_method_3_code 3 = .ok (.aload_n 1, 1) := by decide +kernel
theorem d_si1_4 : decode jdk_42_method_3_code 4 = .ok (.arraylength, 1) := by decide +kernel
theorem d_si1_5 : decode jdk_42_method_3_code 5 = .ok (.aconst_null, 1) := by decide +kernel
theorem d_si1_6 : decode jdk_42_method_3_code 6 = .ok (.invokespecial 27, 3) := by decide +kernel
theorem d_si1_9 : decode jdk_42_method_3_code 9 = .ok (.return_, 1) := by decide +kernel
theorem pd13 : parseMethodDescriptor "([CIILjava/lang/Void;)V" = some ⟨[(.array .char), .int, .int, (.object "java/lang/Void")], none⟩ := by decide +kernel
theorem ef_si1 (m : MethodId) (a0 : Addr) (a1 : Addr) : entryFrame m #[(.ref a0), (.ref a1)] 2 = mkF m 0 #[.val (.ref a0), .val (.ref a1)] [] := by first | (simp [entryFrame, mkF, argsToLocals, Value.category]; done) | rfl
def Q_si1 (Z : State) (a0 : Addr) (a1 : Addr) (kc : ClassId) (c0 : Int32) (c1 : Int32) (c2 : Int32) (c3 : Int32) (c4 : Int32) (g1 : Int32) (h0 : Heap) (n0 : Nat) (v : Option Value) (h : Heap) (L : List Loc) : Prop := ∃ (ob : Addr), ∃ (kb : ClassId), ∃ (cd : Int32), ∃ (n : Int32), ∃ (vs : List Value), v = none ∧ Fr n0 L ∧ Keep h0 h [a0] ∧ Exa Z h a0 "java/lang/String" ∧ Fld Z h a0 "java/lang/String" "coder" "B" (.int cd) ∧ Fld Z h a0 "java/lang/String" "value" "[B" (.ref ob) ∧ Arv Z h ob kb .byte n vs (.int (0 : Int32)) ∧ h0.size ≤ ob ∧ Exa Z h ob "[B" ∧ own_ch cd n vs c0 c1 c2 c3 c4
set_option maxRecDepth 65536 in
set_option maxHeartbeats 40000000 in
theorem rm_si1 (l : Launch) (Z : State) (aT : Array Value) (hw : ∀ d ∈ tables_1, d.before aT Z = true) (ws : List Jvm.Cond) (a0 : Addr) (a1 : Addr) (kc : ClassId) (c0 : Int32) (c1 : Int32) (c2 : Int32) (c3 : Int32) (c4 : Int32) (g1 : Int32) (h0 : Heap) (n0 : Nat) (Z0 : n0 ≤ h0.size) (hp0 : Exa Z h0 a0 "java/lang/String") (hp1 : Fld Z h0 a0 "java/lang/String" "value" "[B" .null) (hp2 : Fld Z h0 a0 "java/lang/String" "coder" "B" (.int (0 : Int32))) (hp3 : n0 ≤ a0) (hp4 : Arv Z h0 a1 kc .char (5 : Int32) [(.int c0), (.int c1), (.int c2), (.int c3), (.int c4)] (.int (0 : Int32))) (hp5 : Sta Z h0 "java/lang/String" "COMPACT_STRINGS" "Z" (.int g1)) (hp6 : Sta Z h0 "java/lang/StringUTF16" "$assertionsDisabled" "Z" (.int (1 : Int32))) (hp7 : Sta Z h0 "java/lang/StringUTF16" "HI_BYTE_SHIFT" "I" (.int (0 : Int32))) (hp8 : Sta Z h0 "java/lang/StringUTF16" "LO_BYTE_SHIFT" "I" (.int (8 : Int32))) (hr0 : own_chr c0) (hr1 : own_chr c1) (hr2 : own_chr c2) (hr3 : own_chr c3) (hr4 : own_chr c4) (hg1 : ¬ (g1 = (0 : Int32))) :
    MetFree l mN5 (head1 (Jvm.Cond.code mN5 jdk_42_method_3_code 2 none :: ws) ({ frames := 5, cells := 2, slots := 15, locals := 74 } : Room)) (fun a U => a = #[(.ref a0), (.ref a1)] ∧ Z.Warmed39 U.vm ∧ U.heap = h0) (fun _ _ _ _ _ => True) (fun _ U o U' => ∃ v L, o = .returned v ∧ Q_si1 Z a0 a1 kc c0 c1 c2 c3 c4 g1 h0 n0 v U'.heap L ∧ FrameEnd U o U' L ({ frames := 5, cells := 2, slots := 15, locals := 74 } : Room).cells ({ frames := 5, cells := 2, slots := 15, locals := 74 } : Room).slots) := by
  refine MetFree.of_bodySF (plainFor_of_name pn0) hisR ?_
  intro p e s m args below meth c s₁ Bd hml0 hP hK
  obtain ⟨rfl, hZ, hh⟩ := hP
  have hx := Bd.exec
  have hby := Bd.bytes
  have hml : c.maxLocals = 2 := hml0
  have hown : s.vm.findClass "java/lang/String" = some m.cls := findClass_of_methodNamed Bd.named
  have hnm := (name_of_methodNamed Bd.named Bd.method).1
  have hlk := Bd.notSynchronized
  have hrt := Bd.returns
  have X0 : Stand p l e ({ frames := 5, cells := 2, slots := 15, locals := 74 } : Room) s m #[(.ref a0), (.ref a1)] below meth c s₁ [] 0 0 := Stand.of_body Bd
  have e0 : s₁.heap = h0 := by rw [← hh, Bd.state]; rfl
  have N0 := Fr.nil n0
  refine own_cast (P := own_End s (Q_si1 Z a0 a1 kc c0 c1 c2 c3 c4 g1 h0 n0) ({ frames := 5, cells := 2, slots := 15, locals := 74 } : Room).cells ({ frames := 5, cells := 2, slots := 15, locals := 74 } : Room).slots) (ef_si1 m a0 a1) ?_
  refine g_aloadN X0 hx hby d_si1_0 rfl rfl (rfl : 0 + 1 = 1) ?_
  refine g_aloadN X0 hx hby d_si1_1 rfl rfl (rfl : 1 + 1 = 2) ?_
  refine g_iconst X0 hx hby (0 : Int32) d_si1_2 (by decide) (rfl : 2 + 1 = 3) ?_
  refine g_aloadN X0 hx hby d_si1_3 rfl rfl (rfl : 3 + 1 = 4) ?_
  refine g_alen X0 hx hby hZ e0 hp4 d_si1_4 (rfl : 4 + 1 = 5) ?_
  refine g_anull X0 hx hby d_si1_5 (rfl : 5 + 1 = 6) ?_
  obtain ⟨_, _, ⟨T326, L326, k326, n326⟩, -, X326, ⟨Lc326, hQ326, l326, y326, z326⟩, st326⟩ := X0.specialBack hx (y := mN6) rfl hown (mvT hZ (hw _ (own_M 7 rfl))) (mvT hZ (hw _ (own_M 8 rfl))) (mvT hZ (hw _ (own_M 10 rfl))) (by decide) (backOf (W := 0) (rm_si2 l Z aT hw [] a0 a1 kc c0 c1 c2 c3 c4 g1 h0 n0 Z0 hp0 hp1 hp2 hp3 hp4 hp5 hp6 hp7 hp8 hr0 hr1 hr2 hr3 hr4 hg1) hZ (hw _ (own_M 10 rfl)) (hw _ (own_M 3 rfl)) (by decide) (by decide)) (g := (mkF m 6 #[.val (.ref a0), .val (.ref a1)] [.null, (.int (5 : Int32)), (.int (0 : Int32)), (.ref a1), (.ref a0)])) rfl (by rw [hml]; rfl) (Steps.refl _) (a := a0) (argsL := [(.ref a1), (.int (0 : Int32)), (.int (5 : Int32)), .null]) (rest := []) (lenOf pd13 rfl) rfl (by show 2 * 0 + _ ≤ _; exact Nat.le_of_eq rfl) (hb hby d_si1_6) (fun _ _ => ⟨rfl, e0, (by decide : 0 + 2 ≤ _), (by decide : 0 + 15 ≤ _)⟩)
  dsimp only [Pt.U, Pt.locs, Pt.cells, Pt.slots] at X326 l326 y326 z326 st326 hQ326
  subst l326 y326 z326
  obtain ⟨ob_326, kb_326, cd_326, n_326, vs_326, rfl, N326q, K326, q326_0, q326_1, q326_2, q326_3, q326_4, q326_5, q326_6⟩ := hQ326
  have N326 := Fr.app N0 N326q
  have Z326 : n0 ≤ T326.heap.size := Nat.le_trans Z0 K326.1
  have KC326 : Keep h0 T326.heap [a0] := (Keep.refl h0 [a0]).trans K326 (allS (Or.inl (List.mem_of_getElem? (i := 0) rfl)) all0)
  have ne327 : a0 ≠ ob_326 := Nat.ne_of_lt (Nat.lt_of_lt_of_le (hp0).lt q326_4)
  have ne328 : a1 ≠ ob_326 := Nat.ne_of_lt (Nat.lt_of_lt_of_le (hp4).lt q326_4)
  have ge329 : n0 ≤ ob_326 := Nat.le_trans Z0 q326_4
  have sz330 : h0.size ≤ ob_326 := Nat.le_trans (Keep.refl h0 [a0]).1 q326_4
  refine own_tr st326 ?_
  show own_Got p e below _ T326 (mkF m 9 #[.val (.ref a0), .val (.ref a1)] [])
  refine own_retV X326 hx hby hlk hrt d_si1_9 (by decide) (by decide) ?_
  show Q_si1 Z a0 a1 kc c0 c1 c2 c3 c4 g1 h0 n0 _ T326.heap _
  exact ⟨ob_326, kb_326, cd_326, n_326, vs_326, rfl, N326, KC326, q326_0, q326_1, q326_2, q326_3, sz330, q326_5, q326_6⟩
theorem d_pft_0 : decode jdk_41_method_12_code 0 = .ok (.iload_n 0, 1) := by decide +kernel
theorem d_pft_1 : decode jdk_41_method_12_code 1 = .ok (.ifCond .lt 13, 3) := by decide +kernel
theorem d_pft_4 : decode jdk_41_method_12_code 4 = .ok (.iload_n 0, 1) := by decide +kernel
theorem d_pft_5 : decode jdk_41_method_12_code 5 = .ok (.iload_n 1, 1) := by decide +kernel
theorem d_pft_6 : decode jdk_41_method_12_code 6 = .ok (.if_icmp .gt 8, 3) := by decide +kernel
theorem d_pft_9 : decode jdk_41_method_12_code 9 = .ok (.iload_n 1, 1) := by decide +kernel
theorem d_pft_10 : decode jdk_41_method_12_code 10 = .ok (.iload_n 2, 1) := by decide +kernel
theorem d_pft_11 : decode jdk_41_method_12_code 11 = .ok (.if_icmp .le 11, 3) := by decide +kernel
theorem d_pft_22 : decode jdk_41_method_12_code 22 = .ok (.iload_n 0, 1) := by decide +kernel
theorem d_pft_23 : decode jdk_41_method_12_code 23 = .ok (.ireturn, 1) := by decide +kernel
theorem ef_pft (m : MethodId) (x : Int32) (y : Int32) : entryFrame m #[(.int x), (.int y), (.int (5 : Int32)), .null] 4 = mkF m 0 #[.val (.int x), .val (.int y), .val (.int (5 : Int32)), .val .null] [] := by first | (simp [entryFrame, mkF, argsToLocals, Value.category]; done) | rfl
def Q_pft (Z : State) (x : Int32) (y : Int32) (h0 : Heap) (n0 : Nat) (v : Option Value) (h : Heap) (L : List Loc) : Prop := v = some (.int x) ∧ Fr n0 L ∧ h = h0
set_option maxRecDepth 65536 in
set_option maxHeartbeats 40000000 in
theorem rm_pft (l : Launch) (Z : State) (aT : Array Value) (hw : ∀ d ∈ tables_1, d.before aT Z = true) (ws : List Jvm.Cond) (x : Int32) (y : Int32) (h0 : Heap) (n0 : Nat) (Z0 : n0 ≤ h0.size) (hs0 : ¬ (x < (0 : Int32))) (hs1 : ¬ (y < x)) (hs2 : ¬ ((5 : Int32) < y)) :
    MetFree l mN25 (head1 (Jvm.Cond.code mN25 jdk_41_method_12_code 4 (some .int) :: ws) ({ frames := 0, cells := 0, slots := 0, locals := 0 } : Room)) (fun a U => a = #[(.int x), (.int y), (.int (5 : Int32)), .null] ∧ Z.Warmed39 U.vm ∧ U.heap = h0) (fun _ _ _ _ _ => True) (fun _ U o U' => ∃ v L, o = .returned v ∧ Q_pft Z x y h0 n0 v U'.heap L ∧ FrameEnd U o U' L ({ frames := 0, cells := 0, slots := 0, locals := 0 } : Room).cells ({ frames := 0, cells := 0, slots := 0, locals := 0 } : Room).slots) := by
  refine MetFree.of_bodySF (plainFor_of_name pn1) hisR ?_
  intro p e s m args below meth c s₁ Bd hml0 hP hK
  obtain ⟨rfl, hZ, hh⟩ := hP
  have hx := Bd.exec
  have hby := Bd.bytes
  have hml : c.maxLocals = 4 := hml0
  have hown : s.vm.findClass "jdk/internal/util/Preconditions" = some m.cls := findClass_of_methodNamed Bd.named
  have hnm := (name_of_methodNamed Bd.named Bd.method).1
  have hlk := Bd.notSynchronized
  have hrt := Bd.returns
  have X0 : Stand p l e ({ frames := 0, cells := 0, slots := 0, locals := 0 } : Room) s m #[(.int x), (.int y), (.int (5 : Int32)), .null] below meth c s₁ [] 0 0 := Stand.of_body Bd
  have e0 : s₁.heap = h0 := by rw [← hh, Bd.state]; rfl
  have N0 := Fr.nil n0
  refine own_cast (P := own_End s (Q_pft Z x y h0 n0) ({ frames := 0, cells := 0, slots := 0, locals := 0 } : Room).cells ({ frames := 0, cells := 0, slots := 0, locals := 0 } : Room).slots) (ef_pft m x y) ?_
  refine g_iloadN X0 hx hby d_pft_0 rfl (rfl : 0 + 1 = 1) ?_
  refine g_ifF X0 hx hby d_pft_1 ((if0 _ _).trans (flt hs0).1) (rfl : 1 + 3 = 4) ?_
  refine g_iloadN X0 hx hby d_pft_4 rfl (rfl : 4 + 1 = 5) ?_
  refine g_iloadN X0 hx hby d_pft_5 rfl (rfl : 5 + 1 = 6) ?_
  refine g_icF X0 hx hby d_pft_6 (flt hs1).2.2.1 (rfl : 6 + 3 = 9) ?_
  refine g_iloadN X0 hx hby d_pft_9 rfl (rfl : 9 + 1 = 10) ?_
  refine g_iloadN X0 hx hby d_pft_10 rfl (rfl : 10 + 1 = 11) ?_
  refine g_icT X0 hx hby d_pft_11 (flt hs2).2.2.2 (by decide) (pc' := 22) (by decide) ?_
  refine g_iloadN X0 hx hby d_pft_22 rfl (rfl : 22 + 1 = 23) ?_
  refine own_retI X0 hx hby hlk hrt d_pft_23 (by decide) (by decide) ?_
  show Q_pft Z x y h0 n0 _ s₁.heap _
  exact ⟨rfl, N0, e0⟩
theorem d_oft_0 : decode jdk_31_method_18_code 0 = .ok (.iload_n 0, 1) := by decide +kernel
theorem d_oft_1 : decode jdk_31_method_18_code 1 = .ok (.iload_n 1, 1) := by decide +kernel
theorem d_oft_2 : decode jdk_31_method_18_code 2 = .ok (.iload_n 2, 1) := by decide +kernel
theorem d_oft_3 : decode jdk_31_method_18_code 3 = .ok (.aconst_null, 1) := by decide +kernel
theorem d_oft_4 : decode jdk_31_method_18_code 4 = .ok (.invokestatic 111, 3) := by decide +kernel
theorem d_oft_7 : decode jdk_31_method_18_code 7 = .ok (.ireturn, 1) := by decide +kernel
theorem pn4 : plainName "java/util/Objects" = true := by first | (simp [plainName, overriddenIn]; done) | decide +kernel
theorem pd14 : parseMethodDescriptor "(IIILjava/util/function/BiFunction;)I" = some ⟨[.int, .int, .int, (.object "java/util/function/BiFunction")], some .int⟩ := by decide +kernel
theorem ef_oft (m : MethodId) (x : Int32) (y : Int32) : entryFrame m #[(.int x), (.int y), (.int (5 : Int32))] 3 = mkF m 0 #[.val (.int x), .val (.int y), .val (.int (5 : Int32))] [] := by first | (simp [entryFrame, mkF, argsToLocals, Value.category]; done) | rfl
def Q_oft (Z : State) (x : Int32) (y : Int32) (h0 : Heap) (n0 : Nat) (v : Option Value) (h : Heap) (L : List Loc) : Prop := v = some (.int x) ∧ Fr n0 L ∧ h = h0
set_option maxRecDepth 65536 in
set_option maxHeartbeats 40000000 in
theorem rm_oft (l : Launch) (Z : State) (aT : Array Value) (hw : ∀ d ∈ tables_1, d.before aT Z = true) (ws : List Jvm.Cond) (x : Int32) (y : Int32) (h0 : Heap) (n0 : Nat) (Z0 : n0 ≤ h0.size) (hs0 : ¬ (x < (0 : Int32))) (hs1 : ¬ (y < x)) (hs2 : ¬ ((5 : Int32) < y)) :
    MetFree l mN24 (head1 (Jvm.Cond.code mN24 jdk_31_method_18_code 3 (some .int) :: ws) ({ frames := 1, cells := 0, slots := 0, locals := 15 } : Room)) (fun a U => a = #[(.int x), (.int y), (.int (5 : Int32))] ∧ Z.Warmed39 U.vm ∧ U.heap = h0) (fun _ _ _ _ _ => True) (fun _ U o U' => ∃ v L, o = .returned v ∧ Q_oft Z x y h0 n0 v U'.heap L ∧ FrameEnd U o U' L ({ frames := 1, cells := 0, slots := 0, locals := 15 } : Room).cells ({ frames := 1, cells := 0, slots := 0, locals := 15 } : Room).slots) := by
  refine MetFree.of_bodySF (plainFor_of_name pn4) hisR ?_
  intro p e s m args below meth c s₁ Bd hml0 hP hK
  obtain ⟨rfl, hZ, hh⟩ := hP
  have hx := Bd.exec
  have hby := Bd.bytes
  have hml : c.maxLocals = 3 := hml0
  have hown : s.vm.findClass "java/util/Objects" = some m.cls := findClass_of_methodNamed Bd.named
  have hnm := (name_of_methodNamed Bd.named Bd.method).1
  have hlk := Bd.notSynchronized
  have hrt := Bd.returns
  have X0 : Stand p l e ({ frames := 1, cells := 0, slots := 0, locals := 15 } : Room) s m #[(.int x), (.int y), (.int (5 : Int32))] below meth c s₁ [] 0 0 := Stand.of_body Bd
  have e0 : s₁.heap = h0 := by rw [← hh, Bd.state]; rfl
  have N0 := Fr.nil n0
  refine own_cast (P := own_End s (Q_oft Z x y h0 n0) ({ frames := 1, cells := 0, slots := 0, locals := 15 } : Room).cells ({ frames := 1, cells := 0, slots := 0, locals := 15 } : Room).slots) (ef_oft m x y) ?_
  refine g_iloadN X0 hx hby d_oft_0 rfl (rfl : 0 + 1 = 1) ?_
  refine g_iloadN X0 hx hby d_oft_1 rfl (rfl : 1 + 1 = 2) ?_
  refine g_iloadN X0 hx hby d_oft_2 rfl (rfl : 2 + 1 = 3) ?_
  refine g_anull X0 hx hby d_oft_3 (rfl : 3 + 1 = 4) ?_
  obtain ⟨_, _, ⟨T331, L331, k331, n331⟩, -, X331, ⟨Lc331, hQ331, l331, y331, z331⟩, st331⟩ := Jvm.LawKit.callS X0 hx (y := mN25) hown (mvT hZ (hw _ (own_M 56 rfl))) (mvT hZ (hw _ (own_M 57 rfl))) (mvT hZ (hw _ (own_M 58 rfl))) (mvT hZ (hw _ (own_M 59 rfl))) (by decide) (backOf (W := 0) (rm_pft l Z aT hw [] x y h0 n0 Z0 hs0 hs1 hs2) hZ (hw _ (own_M 59 rfl)) (hw _ (own_M 58 rfl)) (by decide) (by decide)) (g := (mkF m 4 #[.val (.int x), .val (.int y), .val (.int (5 : Int32))] [.null, (.int (5 : Int32)), (.int y), (.int x)])) rfl (by rw [hml]; rfl) (argsL := [(.int x), (.int y), (.int (5 : Int32)), .null]) (rest := []) (lenOf pd14 rfl) rfl (by show 2 * 0 + _ ≤ _; exact Nat.le_of_eq rfl) (hb hby d_oft_4) (fun _ _ => ⟨rfl, e0, (by decide : 0 + 0 ≤ _), (by decide : 0 + 0 ≤ _)⟩)
  dsimp only [Pt.U, Pt.locs, Pt.cells, Pt.slots] at X331 l331 y331 z331 st331 hQ331
  subst l331 y331 z331
  obtain ⟨rfl, N331q, eq331⟩ := hQ331
  have N331 := Fr.app N0 N331q
  refine own_go st331 ?_
  show own_Got p e below _ T331 (mkF m 7 #[.val (.int x), .val (.int y), .val (.int (5 : Int32))] [(.int x)])
  refine own_retI X331 hx hby hlk hrt d_oft_7 (by decide) (by decide) ?_
  show Q_oft Z x y h0 n0 _ T331.heap _
  exact ⟨rfl, N331, eq331⟩
theorem d_tsi_0 : decode prog_29_method_1_code 0 = .ok (.aload_n 0, 1) := by decide +kernel
theorem d_tsi_1 : decode prog_29_method_1_code 1 = .ok (.invokespecial 1, 3) := by decide +kernel
theorem d_tsi_4 : decode prog_29_method_1_code 4 = .ok (.iload_n 2, 1) := by decide +kernel
theorem d_tsi_5 : decode prog_29_method_1_code 5 = .ok (.iload_n 3, 1) := by decide +kernel
theorem d_tsi_6 : decode prog_29_method_1_code 6 = .ok (.aload_n 1, 1) := by decide +kernel
theorem d_tsi_7 : decode prog_29_method_1_code 7 = .ok (.invokevirtual 7, 3) := by decide +kernel
theorem d_tsi_10 : decode prog_29_method_1_code 10 = .ok (.invokestatic 13, 3) := by decide +kernel
theorem d_tsi_13 : decode prog_29_method_1_code 13 = .ok (.pop, 1) := by decide +kernel
theorem d_tsi_14 : decode prog_29_method_1_code 14 = .ok (.aload_n 0, 1) := by decide +kernel
theorem d_tsi_15 : decode prog_29_method_1_code 15 = .ok (.aload_n 1, 1) := by decide +kernel
theorem d_tsi_16 : decode prog_29_method_1_code 16 = .ok (.putfield 19, 3) := by decide +kernel
theorem d_tsi_19 : decode prog_29_method_1_code 19 = .ok (.aload_n 0, 1) := by decide +kernel
theorem d_tsi_20 : decode prog_29_method_1_code 20 = .ok (.iload_n 2, 1) := by decide +kernel
theorem d_tsi_21 : decode prog_29_method_1_code 21 = .ok (.putfield 25, 3) := by decide +kernel
theorem d_tsi_24 : decode prog_29_method_1_code 24 = .ok (.aload_n 0, 1) := by decide +kernel
theorem d_tsi_25 : decode prog_29_method_1_code 25 = .ok (.iload_n 3, 1) := by decide +kernel
theorem d_tsi_26 : decode prog_29_method_1_code 26 = .ok (.putfield 29, 3) := by decide +kernel
theorem d_tsi_29 : decode prog_29_method_1_code 29 = .ok (.return_, 1) := by decide +kernel
theorem pn5 : plainName "com/example/lexsign/lexsign/json/TextSpan" = true := by first | (simp [plainName, overriddenIn]; done) | decide +kernel
theorem pd15 : parseMethodDescriptor "()I" = some ⟨[], some .int⟩ := by decide +kernel
theorem pd16 : parseMethodDescriptor "(III)I" = some ⟨[.int, .int, .int], some .int⟩ := by decide +kernel
theorem ef_tsi (m : MethodId) (a0 : Addr) (a1 : Addr) (x : Int32) (y : Int32) : entryFrame m #[(.ref a0), (.ref a1), (.int x), (.int y)] 4 = mkF m 0 #[.val (.ref a0), .val (.ref a1), .val (.int x), .val (.int y)] [] := by first | (simp [entryFrame, mkF, argsToLocals, Value.category]; done) | rfl
def Q_tsi (Z : State) (a0 : Addr) (a1 : Addr) (x : Int32) (y : Int32) (ob : Addr) (kb : ClassId) (cd : Int32) (n : Int32) (vs : List Value) (c0 : Int32) (c1 : Int32) (c2 : Int32) (c3 : Int32) (c4 : Int32) (g1 : Int32) (h0 : Heap) (n0 : Nat) (v : Option Value) (h : Heap) (L : List Loc) : Prop := v = none ∧ Fr n0 L ∧ Keep h0 h [a0] ∧ Exa Z h a0 "com/example/lexsign/lexsign/json/JsonString" ∧ Fld Z h a0 "com/example/lexsign/lexsign/json/TextSpan" "text" "Ljava/lang/String;" (.ref a1) ∧ Fld Z h a0 "com/example/lexsign/lexsign/json/TextSpan" "start" "I" (.int x) ∧ Fld Z h a0 "com/example/lexsign/lexsign/json/TextSpan" "end" "I" (.int y)
set_option maxRecDepth 65536 in
set_option maxHeartbeats 40000000 in
theorem rm_tsi (l : Launch) (Z : State) (aT : Array Value) (hw : ∀ d ∈ tables_1, d.before aT Z = true) (ws : List Jvm.Cond) (a0 : Addr) (a1 : Addr) (x : Int32) (y : Int32) (ob : Addr) (kb : ClassId) (cd : Int32) (n : Int32) (vs : List Value) (c0 : Int32) (c1 : Int32) (c2 : Int32) (c3 : Int32) (c4 : Int32) (g1 : Int32) (h0 : Heap) (n0 : Nat) (Z0 : n0 ≤ h0.size) (hp0 : Exa Z h0 a0 "com/example/lexsign/lexsign/json/JsonString") (hp1 : Fld Z h0 a0 "com/example/lexsign/lexsign/json/TextSpan" "text" "Ljava/lang/String;" .null) (hp2 : Fld Z h0 a0 "com/example/lexsign/lexsign/json/TextSpan" "start" "I" (.int (0 : Int32))) (hp3 : Fld Z h0 a0 "com/example/lexsign/lexsign/json/TextSpan" "end" "I" (.int (0 : Int32))) (hp4 : n0 ≤ a0) (hp5 : Exa Z h0 a1 "java/lang/String") (hp6 : Fld Z h0 a1 "java/lang/String" "coder" "B" (.int cd)) (hp7 : Fld Z h0 a1 "java/lang/String" "value" "[B" (.ref ob)) (hp8 : Arv Z h0 ob kb .byte n vs (.int (0 : Int32))) (hp9 : Sta Z h0 "java/lang/String" "COMPACT_STRINGS" "Z" (.int g1)) (hs0 : ¬ (x < (0 : Int32))) (hs1 : ¬ (y < x)) (hs2 : ¬ ((5 : Int32) < y)) (hg1 : ¬ (g1 = (0 : Int32))) (hch : own_ch cd n vs c0 c1 c2 c3 c4) :
    MetFree l mN2 (head1 (Jvm.Cond.code mN2 prog_29_method_1_code 4 none :: ws) ({ frames := 2, cells := 0, slots := 0, locals := 29 } : Room)) (fun a U => a = #[(.ref a0), (.ref a1), (.int x), (.int y)] ∧ Z.Warmed39 U.vm ∧ U.heap = h0) (fun _ _ _ _ _ => True) (fun _ U o U' => ∃ v L, o = .returned v ∧ Q_tsi Z a0 a1 x y ob kb cd n vs c0 c1 c2 c3 c4 g1 h0 n0 v U'.heap L ∧ FrameEnd U o U' L ({ frames := 2, cells := 0, slots := 0, locals := 29 } : Room).cells ({ frames := 2, cells := 0, slots := 0, locals := 29 } : Room).slots) := by
  refine MetFree.of_bodySF (plainFor_of_name pn5) hisR ?_
  intro p e s m args below meth c s₁ Bd hml0 hP hK
  obtain ⟨rfl, hZ, hh⟩ := hP
  have hx := Bd.exec
  have hby := Bd.bytes
  have hml : c.maxLocals = 4 := hml0
  have hown : s.vm.findClass "com/example/lexsign/lexsign/json/TextSpan" = some m.cls := findClass_of_methodNamed Bd.named
  have hnm := (name_of_methodNamed Bd.named Bd.method).1
  have hlk := Bd.notSynchronized
  have hrt := Bd.returns
  have X0 : Stand p l e ({ frames := 2, cells := 0, slots := 0, locals := 29 } : Room) s m #[(.ref a0), (.ref a1), (.int x), (.int y)] below meth c s₁ [] 0 0 := Stand.of_body Bd
  have e0 : s₁.heap = h0 := by rw [← hh, Bd.state]; rfl
  have N0 := Fr.nil n0
  refine own_cast (P := own_End s (Q_tsi Z a0 a1 x y ob kb cd n vs c0 c1 c2 c3 c4 g1 h0 n0) ({ frames := 2, cells := 0, slots := 0, locals := 29 } : Room).cells ({ frames := 2, cells := 0, slots := 0, locals := 29 } : Room).slots) (ef_tsi m a0 a1 x y) ?_
  refine g_aloadN X0 hx hby d_tsi_0 rfl rfl (rfl : 0 + 1 = 1) ?_
  obtain ⟨T332, X332, e332, st332⟩ := initO X0 hx hZ hown (hw _ (own_M 41 rfl)) (hw _ (own_M 12 rfl)) (hw _ (own_M 13 rfl)) e0 (g := (mkF m 1 #[.val (.ref a0), .val (.ref a1), .val (.int x), .val (.int y)] [(.ref a0)])) rfl (by rw [hml]; rfl) rfl (hb hby d_tsi_1) (by decide) (W := 0) (by show 2 * 0 + _ ≤ _; exact Nat.le_of_eq rfl) (by decide)
  refine own_go st332 ?_
  show own_Got p e below _ T332 (mkF m 4 #[.val (.ref a0), .val (.ref a1), .val (.int x), .val (.int y)] [])
  refine g_iloadN X332 hx hby d_tsi_4 rfl (rfl : 4 + 1 = 5) ?_
  refine g_iloadN X332 hx hby d_tsi_5 rfl (rfl : 5 + 1 = 6) ?_
  refine g_aloadN X332 hx hby d_tsi_6 rfl rfl (rfl : 6 + 1 = 7) ?_
  obtain ⟨cq333, kq333, q333a, q333b, q333c⟩ := isOf hZ e332 hp5
  obtain ⟨_, _, ⟨T333, L333, k333, n333⟩, -, X333, ⟨Lc333, hQ333, l333, y333, z333⟩, st333⟩ := X332.virtualBack hx (y := mN11) (z := mN11) hown (mvT hZ (hw _ (own_M 42 rfl))) (mvT hZ (hw _ (own_M 43 rfl))) (notFace_of_selects (args := #[]) (mvT hZ (hw _ (own_M 45 rfl)))) (mvT hZ (hw _ (own_M 45 rfl))) (mvT hZ (hw _ (own_M 44 rfl))) (by decide) (backOf (W := 2) (rm_len l Z aT hw [] a1 ob kb cd n vs _ _ _ _ _ g1 h0 n0 Z0 hp5 hp6 hp7 hp8 hp9 hg1 hch) hZ (hw _ (own_M 46 rfl)) (hw _ (own_M 3 rfl)) (by decide) (by decide)) q333a q333c (g := (mkF m 7 #[.val (.ref a0), .val (.ref a1), .val (.int x), .val (.int y)] [(.ref a1), (.int y), (.int x)])) rfl (by rw [hml]; rfl) (Steps.refl _) (argsL := []) (rest := [(.int y), (.int x)]) (lenOf pd15 rfl) rfl (by show 2 * 0 + _ ≤ _; exact Nat.le_of_eq rfl) (hb hby d_tsi_7) (fun _ _ => ⟨rfl, e332, (by decide : 0 + 0 ≤ _), (by decide : 0 + 0 ≤ _)⟩)
  dsimp only [Pt.U, Pt.locs, Pt.cells, Pt.slots] at X333 l333 y333 z333 st333 hQ333
  subst l333 y333 z333
  obtain ⟨rfl, N333q, eq333⟩ := hQ333
  have N333 := Fr.app N0 N333q
  refine own_tr st333 ?_
  show own_Got p e below _ T333 (mkF m 10 #[.val (.ref a0), .val (.ref a1), .val (.int x), .val (.int y)] [(.int (5 : Int32)), (.int y), (.int x)])
  obtain ⟨_, _, ⟨T334, L334, k334, n334⟩, -, X334, ⟨Lc334, hQ334, l334, y334, z334⟩, st334⟩ := Jvm.LawKit.callS X333 hx (y := mN24) hown (mvT hZ (hw _ (own_M 52 rfl))) (mvT hZ (hw _ (own_M 53 rfl))) (mvT hZ (hw _ (own_M 54 rfl))) (mvT hZ (hw _ (own_M 55 rfl))) (by decide) (backOf (W := 0) (rm_oft l Z aT hw [] x y h0 n0 Z0 hs0 hs1 hs2) hZ (hw _ (own_M 55 rfl)) (hw _ (own_M 54 rfl)) (by decide) (by decide)) (g := (mkF m 10 #[.val (.ref a0), .val (.ref a1), .val (.int x), .val (.int y)] [(.int (5 : Int32)), (.int y), (.int x)])) rfl (by rw [hml]; rfl) (argsL := [(.int x), (.int y), (.int (5 : Int32))]) (rest := []) (lenOf pd16 rfl) rfl (by show 2 * 0 + _ ≤ _; exact Nat.le_of_eq rfl) (hb hby d_tsi_10) (fun _ _ => ⟨rfl, eq333, (by decide : 0 + 0 ≤ _), (by decide : 0 + 0 ≤ _)⟩)
  dsimp only [Pt.U, Pt.locs, Pt.cells, Pt.slots] at X334 l334 y334 z334 st334 hQ334
  subst l334 y334 z334
  obtain ⟨rfl, N334q, eq334⟩ := hQ334
  have N334 := Fr.app N333 N334q
  refine own_go st334 ?_
  show own_Got p e below _ T334 (mkF m 13 #[.val (.ref a0), .val (.ref a1), .val (.int x), .val (.int y)] [(.int x)])
  refine g_pop X334 hx hby d_tsi_13 rfl (rfl : 13 + 1 = 14) ?_
  refine g_aloadN X334 hx hby d_tsi_14 rfl rfl (rfl : 14 + 1 = 15) ?_
  refine g_aloadN X334 hx hby d_tsi_15 rfl rfl (rfl : 15 + 1 = 16) ?_
  obtain ⟨T335, h335, X335, e335, W335, st335⟩ := putF X334 hx hZ hown (host := "") (Or.inl (hw _ (own_M 60 rfl))) Via.refl eq334 hp1 hp0 (Or.inr ⟨(hw _ (own_M 61 rfl)), rfl, hnm⟩) (hw _ (own_M 31 rfl)) (ty := (.object "java/lang/String")) (by decide) rfl rfl (g := (mkF m 16 #[.val (.ref a0), .val (.ref a1), .val (.int x), .val (.int y)] [(.ref a1), (.ref a0)])) rfl rfl (hb hby d_tsi_16)
  have Z335 : n0 ≤ h335.size := Nat.le_trans Z0 (Keep.of_wr W335).1
  have N335 := Fr.snoc X335 N334 hp4
  have K335 : Keep h0 h335 [a0] := (Keep.refl h0 [a0]).wr W335 (Or.inl (List.mem_of_getElem? (i := 0) rfl))
  have f335 : Fld Z h335 a0 "com/example/lexsign/lexsign/json/TextSpan" "text" "Ljava/lang/String;" (.ref a1) := Fld.same W335 hp1
  refine own_go st335 ?_
  show own_Got p e below _ T335 (mkF m 19 #[.val (.ref a0), .val (.ref a1), .val (.int x), .val (.int y)] [])
  refine g_aloadN X335 hx hby d_tsi_19 rfl rfl (rfl : 19 + 1 = 20) ?_
  refine g_iloadN X335 hx hby d_tsi_20 rfl (rfl : 20 + 1 = 21) ?_
  have f336 : Fld Z h335 a0 "com/example/lexsign/lexsign/json/TextSpan" "start" "I" (.int (0 : Int32)) := (Fld.other W335 hp2 (Or.inr (slot_ne (Or.inr (hw _ (own_M 63 rfl))) (Or.inr (hw _ (own_M 61 rfl))) (by decide) (t := .int) (t' := (.object "java/lang/String")) (by decide) (by decide))))
  have f337 : Exa Z h335 a0 "com/example/lexsign/lexsign/json/JsonString" := (Exa.wr W335 hp0)
  obtain ⟨T338, h338, X338, e338, W338, st338⟩ := putF X335 hx hZ hown (host := "") (Or.inl (hw _ (own_M 62 rfl))) Via.refl e335 f336 f337 (Or.inr ⟨(hw _ (own_M 63 rfl)), rfl, hnm⟩) (hw _ (own_M 31 rfl)) (ty := .int) (by decide) rfl rfl (g := (mkF m 21 #[.val (.ref a0), .val (.ref a1), .val (.int x), .val (.int y)] [(.int x), (.ref a0)])) rfl rfl (hb hby d_tsi_21)
  have Z338 : n0 ≤ h338.size := Nat.le_trans Z335 (Keep.of_wr W338).1
  have N338 := Fr.snoc X338 N335 hp4
  have K338 : Keep h0 h338 [a0] := K335.wr W338 (Or.inl (List.mem_of_getElem? (i := 0) rfl))
  have f338 : Fld Z h338 a0 "com/example/lexsign/lexsign/json/TextSpan" "start" "I" (.int x) := Fld.same W338 f336
  refine own_go st338 ?_
  show own_Got p e below _ T338 (mkF m 24 #[.val (.ref a0), .val (.ref a1), .val (.int x), .val (.int y)] [])
  refine g_aloadN X338 hx hby d_tsi_24 rfl rfl (rfl : 24 + 1 = 25) ?_
  refine g_iloadN X338 hx hby d_tsi_25 rfl (rfl : 25 + 1 = 26) ?_
  have f339 : Fld Z h338 a0 "com/example/lexsign/lexsign/json/TextSpan" "end" "I" (.int (0 : Int32)) := (Fld.other W338 (Fld.other W335 hp3 (Or.inr (slot_ne (Or.inr (hw _ (own_M 65 rfl))) (Or.inr (hw _ (own_M 61 rfl))) (by decide) (t := .int) (t' := (.object "java/lang/String")) (by decide) (by decide)))) (Or.inr (slot_ne (Or.inr (hw _ (own_M 65 rfl))) (Or.inr (hw _ (own_M 63 rfl))) (by decide) (t := .int) (t' := .int) (by decide) (by decide))))
  have f340 : Exa Z h338 a0 "com/example/lexsign/lexsign/json/JsonString" := (Exa.wr W338 f337)
  obtain ⟨T341, h341, X341, e341, W341, st341⟩ := putF X338 hx hZ hown (host := "") (Or.inl (hw _ (own_M 64 rfl))) Via.refl e338 f339 f340 (Or.inr ⟨(hw _ (own_M 65 rfl)), rfl, hnm⟩) (hw _ (own_M 31 rfl)) (ty := .int) (by decide) rfl rfl (g := (mkF m 26 #[.val (.ref a0), .val (.ref a1), .val (.int x), .val (.int y)] [(.int y), (.ref a0)])) rfl rfl (hb hby d_tsi_26)
  have Z341 : n0 ≤ h341.size := Nat.le_trans Z338 (Keep.of_wr W341).1
  have N341 := Fr.snoc X341 N338 hp4
  have K341 : Keep h0 h341 [a0] := K338.wr W341 (Or.inl (List.mem_of_getElem? (i := 0) rfl))
  have f341 : Fld Z h341 a0 "com/example/lexsign/lexsign/json/TextSpan" "end" "I" (.int y) := Fld.same W341 f339
  refine own_go st341 ?_
  show own_Got p e below _ T341 (mkF m 29 #[.val (.ref a0), .val (.ref a1), .val (.int x), .val (.int y)] [])
  have f342 : Exa Z h341 a0 "com/example/lexsign/lexsign/json/JsonString" := (Exa.wr W341 f340)
  have f343 : Fld Z h341 a0 "com/example/lexsign/lexsign/json/TextSpan" "text" "Ljava/lang/String;" (.ref a1) := (Fld.other W341 (Fld.other W338 f335 (Or.inr (slot_ne (Or.inr (hw _ (own_M 61 rfl))) (Or.inr (hw _ (own_M 63 rfl))) (by decide) (t := (.object "java/lang/String")) (t' := .int) (by decide) (by decide)))) (Or.inr (slot_ne (Or.inr (hw _ (own_M 61 rfl))) (Or.inr (hw _ (own_M 65 rfl))) (by decide) (t := (.object "java/lang/String")) (t' := .int) (by decide) (by decide))))
  have f344 : Fld Z h341 a0 "com/example/lexsign/lexsign/json/TextSpan" "start" "I" (.int x) := (Fld.other W341 f338 (Or.inr (slot_ne (Or.inr (hw _ (own_M 63 rfl))) (Or.inr (hw _ (own_M 65 rfl))) (by decide) (t := .int) (t' := .int) (by decide) (by decide))))
  refine own_retV X341 hx hby hlk hrt d_tsi_29 (by decide) (by decide) ?_
  show Q_tsi Z a0 a1 x y ob kb cd n vs c0 c1 c2 c3 c4 g1 h0 n0 _ T341.heap _
  rw [e341]
  exact ⟨rfl, N341, K341, f342, f343, f344, f341⟩
theorem d_jsi_0 : decode prog_23_method_2_code 0 = .ok (.aload_n 0, 1) := by decide +kernel
theorem d_jsi_1 : decode prog_23_method_2_code 1 = .ok (.aload_n 1, 1) := by decide +kernel
theorem d_jsi_2 : decode prog_23_method_2_code 2 = .ok (.iload_n 2, 1) := by decide +kernel
theorem d_jsi_3 : decode prog_23_method_2_code 3 = .ok (.iload_n 3, 1) := by decide +kernel
theorem d_jsi_4 : decode prog_23_method_2_code 4 = .ok (.invokespecial 13, 3) := by decide +kernel
theorem d_jsi_7 : decode prog_23_method_2_code 7 = .ok (.return_, 1) := by decide +kernel
theorem pn6 : plainName "com/example/lexsign/lexsign/json/JsonString" = true := by first | (simp [plainName, overriddenIn]; done) | decide +kernel
theorem pd17 : parseMethodDescriptor "(Ljava/lang/String;II)V" = some ⟨[(.object "java/lang/String"), .int, .int], none⟩ := by decide +kernel
theorem ef_jsi (m : MethodId) (a0 : Addr) (a1 : Addr) (x : Int32) (y : Int32) : entryFrame m #[(.ref a0), (.ref a1), (.int x), (.int y)] 4 = mkF m 0 #[.val (.ref a0), .val (.ref a1), .val (.int x), .val (.int y)] [] := by first | (simp [entryFrame, mkF, argsToLocals, Value.category]; done) | rfl
def Q_jsi (Z : State) (a0 : Addr) (a1 : Addr) (x : Int32) (y : Int32) (ob : Addr) (kb : ClassId) (cd : Int32) (n : Int32) (vs : List Value) (c0 : Int32) (c1 : Int32) (c2 : Int32) (c3 : Int32) (c4 : Int32) (g1 : Int32) (h0 : Heap) (n0 : Nat) (v : Option Value) (h : Heap) (L : List Loc) : Prop := v = none ∧ Fr n0 L ∧ Keep h0 h [a0] ∧ Exa Z h a0 "com/example/lexsign/lexsign/json/JsonString" ∧ Fld Z h a0 "com/example/lexsign/lexsign/json/TextSpan" "text" "Ljava/lang/String;" (.ref a1) ∧ Fld Z h a0 "com/example/lexsign/lexsign/json/TextSpan" "start" "I" (.int x) ∧ Fld Z h a0 "com/example/lexsign/lexsign/json/TextSpan" "end" "I" (.int y)
set_option maxRecDepth 65536 in
set_option maxHeartbeats 40000000 in
theorem rm_jsi (l : Launch) (Z : State) (aT : Array Value) (hw : ∀ d ∈ tables_1, d.before aT Z = true) (ws : List Jvm.Cond) (a0 : Addr) (a1 : Addr) (x : Int32) (y : Int32) (ob : Addr) (kb : ClassId) (cd : Int32) (n : Int32) (vs : List Value) (c0 : Int32) (c1 : Int32) (c2 : Int32) (c3 : Int32) (c4 : Int32) (g1 : Int32) (h0 : Heap) (n0 : Nat) (Z0 : n0 ≤ h0.size) (hp0 : Exa Z h0 a0 "com/example/lexsign/lexsign/json/JsonString") (hp1 : Fld Z h0 a0 "com/example/lexsign/lexsign/json/TextSpan" "text" "Ljava/lang/String;" .null) (hp2 : Fld Z h0 a0 "com/example/lexsign/lexsign/json/TextSpan" "start" "I" (.int (0 : Int32))) (hp3 : Fld Z h0 a0 "com/example/lexsign/lexsign/json/TextSpan" "end" "I" (.int (0 : Int32))) (hp4 : n0 ≤ a0) (hp5 : Exa Z h0 a1 "java/lang/String") (hp6 : Fld Z h0 a1 "java/lang/String" "coder" "B" (.int cd)) (hp7 : Fld Z h0 a1 "java/lang/String" "value" "[B" (.ref ob)) (hp8 : Arv Z h0 ob kb .byte n vs (.int (0 : Int32))) (hp9 : Sta Z h0 "java/lang/String" "COMPACT_STRINGS" "Z" (.int g1)) (hs0 : ¬ (x < (0 : Int32))) (hs1 : ¬ (y < x)) (hs2 : ¬ ((5 : Int32) < y)) (hg1 : ¬ (g1 = (0 : Int32))) (hch : own_ch cd n vs c0 c1 c2 c3 c4) :
    MetFree l mN0 (head1 (Jvm.Cond.code mN0 prog_23_method_2_code 4 none :: ws) ({ frames := 3, cells := 0, slots := 0, locals := 44 } : Room)) (fun a U => a = #[(.ref a0), (.ref a1), (.int x), (.int y)] ∧ Z.Warmed39 U.vm ∧ U.heap = h0) (fun _ _ _ _ _ => True) (fun _ U o U' => ∃ v L, o = .returned v ∧ Q_jsi Z a0 a1 x y ob kb cd n vs c0 c1 c2 c3 c4 g1 h0 n0 v U'.heap L ∧ FrameEnd U o U' L ({ frames := 3, cells := 0, slots := 0, locals := 44 } : Room).cells ({ frames := 3, cells := 0, slots := 0, locals := 44 } : Room).slots) := by
  refine MetFree.of_bodySF (plainFor_of_name pn6) hisR ?_
  intro p e s m args below meth c s₁ Bd hml0 hP hK
  obtain ⟨rfl, hZ, hh⟩ := hP
  have hx := Bd.exec
  have hby := Bd.bytes
  have hml : c.maxLocals = 4 := hml0
  have hown : s.vm.findClass "com/example/lexsign/lexsign/json/JsonString" = some m.cls := findClass_of_methodNamed Bd.named
  have hnm := (name_of_methodNamed Bd.named Bd.method).1
  have hlk := Bd.notSynchronized
  have hrt := Bd.returns
  have X0 : Stand p l e ({ frames := 3, cells := 0, slots := 0, locals := 44 } : Room) s m #[(.ref a0), (.ref a1), (.int x), (.int y)] below meth c s₁ [] 0 0 := Stand.of_body Bd
  have e0 : s₁.heap = h0 := by rw [← hh, Bd.state]; rfl
  have N0 := Fr.nil n0
  refine own_cast (P := own_End s (Q_jsi Z a0 a1 x y ob kb cd n vs c0 c1 c2 c3 c4 g1 h0 n0) ({ frames := 3, cells := 0, slots := 0, locals := 44 } : Room).cells ({ frames := 3, cells := 0, slots := 0, locals := 44 } : Room).slots) (ef_jsi m a0 a1 x y) ?_
  refine g_aloadN X0 hx hby d_jsi_0 rfl rfl (rfl : 0 + 1 = 1) ?_
  refine g_aloadN X0 hx hby d_jsi_1 rfl rfl (rfl : 1 + 1 = 2) ?_
  refine g_iloadN X0 hx hby d_jsi_2 rfl (rfl : 2 + 1 = 3) ?_
  refine g_iloadN X0 hx hby d_jsi_3 rfl (rfl : 3 + 1 = 4) ?_
  obtain ⟨_, _, ⟨T345, L345, k345, n345⟩, -, X345, ⟨Lc345, hQ345, l345, y345, z345⟩, st345⟩ := X0.specialBack hx (y := mN2) rfl hown (mvT hZ (hw _ (own_M 36 rfl))) (mvT hZ (hw _ (own_M 37 rfl))) (mvT hZ (hw _ (own_M 40 rfl))) (by decide) (backOf (W := 0) (rm_tsi l Z aT hw [] a0 a1 x y ob kb cd n vs _ _ _ _ _ g1 h0 n0 Z0 hp0 hp1 hp2 hp3 hp4 hp5 hp6 hp7 hp8 hp9 hs0 hs1 hs2 hg1 hch) hZ (hw _ (own_M 40 rfl)) (hw _ (own_M 39 rfl)) (by decide) (by decide)) (g := (mkF m 4 #[.val (.ref a0), .val (.ref a1), .val (.int x), .val (.int y)] [(.int y), (.int x), (.ref a1), (.ref a0)])) rfl (by rw [hml]; rfl) (Steps.refl _) (a := a0) (argsL := [(.ref a1), (.int x), (.int y)]) (rest := []) (lenOf pd17 rfl) rfl (by show 2 * 0 + _ ≤ _; exact Nat.le_of_eq rfl) (hb hby d_jsi_4) (fun _ _ => ⟨rfl, e0, (by decide : 0 + 0 ≤ _), (by decide : 0 + 0 ≤ _)⟩)
  dsimp only [Pt.U, Pt.locs, Pt.cells, Pt.slots] at X345 l345 y345 z345 st345 hQ345
  subst l345 y345 z345
  obtain ⟨rfl, N345q, K345, q345_0, q345_1, q345_2, q345_3⟩ := hQ345
  have N345 := Fr.app N0 N345q
  have Z345 : n0 ≤ T345.heap.size := Nat.le_trans Z0 K345.1
  have KC345 : Keep h0 T345.heap [a0] := (Keep.refl h0 [a0]).trans K345 (allS (Or.inl (List.mem_of_getElem? (i := 0) rfl)) all0)
  refine own_tr st345 ?_
  show own_Got p e below _ T345 (mkF m 7 #[.val (.ref a0), .val (.ref a1), .val (.int x), .val (.int y)] [])
  refine own_retV X345 hx hby hlk hrt d_jsi_7 (by decide) (by decide) ?_
  show Q_jsi Z a0 a1 x y ob kb cd n vs c0 c1 c2 c3 c4 g1 h0 n0 _ T345.heap _
  exact ⟨rfl, N345, KC345, q345_0, q345_1, q345_2, q345_3⟩
theorem d_trm0_0 : decode method_3_code 0 = .ok (.iload_n 3, 1) := by decide +kernel
theorem d_trm0_1 : decode method_3_code 1 = .ok (.iload_n 2, 1) := by decide +kernel
theorem d_trm0_2 : decode method_3_code 2 = .ok (.if_icmp .gt 22, 3) := by decide +kernel
theorem d_trm0_5 : decode method_3_code 5 = .ok (.iload_n 2, 1) := by decide +kernel
theorem d_trm0_6 : decode method_3_code 6 = .ok (.iload 4, 2) := by decide +kernel
theorem d_trm0_8 : decode method_3_code 8 = .ok (.if_icmp .ge 16, 3) := by decide +kernel
theorem d_trm0_11 : decode method_3_code 11 = .ok (.aload_n 0, 1) := by decide +kernel
theorem d_trm0_12 : decode method_3_code 12 = .ok (.iload_n 2, 1) := by decide +kernel
theorem d_trm0_13 : decode method_3_code 13 = .ok (.caload, 1) := by decide +kernel
theorem d_trm0_14 : decode method_3_code 14 = .ok (.aload_n 1, 1) := by decide +kernel
theorem d_trm0_15 : decode method_3_code 15 = .ok (.iload 4, 2) := by decide +kernel
theorem d_trm0_17 : decode method_3_code 17 = .ok (.iconst 1, 1) := by decide +kernel
theorem d_trm0_18 : decode method_3_code 18 = .ok (.isub, 1) := by decide +kernel
theorem d_trm0_19 : decode method_3_code 19 = .ok (.iload_n 2, 1) := by decide +kernel
theorem d_trm0_20 : decode method_3_code 20 = .ok (.isub, 1) := by decide +kernel
theorem d_trm0_21 : decode method_3_code 21 = .ok (.iaload, 1) := by decide +kernel
theorem d_trm0_22 : decode method_3_code 22 = .ok (.imul, 1) := by decide +kernel
theorem d_trm0_23 : decode method_3_code 23 = .ok (.ireturn, 1) := by decide +kernel
theorem d_trm0_24 : decode method_3_code 24 = .ok (.iconst 0, 1) := by decide +kernel
theorem d_trm0_25 : decode method_3_code 25 = .ok (.ireturn, 1) := by decide +kernel
theorem pn7 : plainName "com/example/lexsign/lexsign/json/TextSpanHashCodePinLaw" = true := by first | (simp [plainName, overriddenIn]; done) | decide +kernel
theorem ef_trm0 (m : MethodId) (a0 : Addr) (a1 : Addr) (x : Int32) (y : Int32) : entryFrame m #[(.ref a0), (.ref a1), (.int (0 : Int32)), (.int x), (.int y)] 5 = mkF m 0 #[.val (.ref a0), .val (.ref a1), .val (.int (0 : Int32)), .val (.int x), .val (.int y)] [] := by first | (simp [entryFrame, mkF, argsToLocals, Value.category]; done) | rfl
def F_trm0 (x : Int32) (y : Int32) (c0 : Int32) : Int32 := if (0 : Int32) < x then ((0 : Int32)) else (if (0 : Int32) < y then ((c0 * (own_pw ((y - (1 : Int32)) - (0 : Int32))))) else ((0 : Int32)))
def Q_trm0 (Z : State) (a0 : Addr) (a1 : Addr) (x : Int32) (y : Int32) (kc : ClassId) (c0 : Int32) (c1 : Int32) (c2 : Int32) (c3 : Int32) (c4 : Int32) (ki : ClassId) (h0 : Heap) (n0 : Nat) (v : Option Value) (h : Heap) (L : List Loc) : Prop := v = some (.int (F_trm0 x y c0)) ∧ Fr n0 L ∧ h = h0
set_option maxRecDepth 65536 in
set_option maxHeartbeats 40000000 in
theorem rm_trm0 (l : Launch) (Z : State) (aT : Array Value) (hw : ∀ d ∈ tables_1, d.before aT Z = true) (ws : List Jvm.Cond) (a0 : Addr) (a1 : Addr) (x : Int32) (y : Int32) (kc : ClassId) (c0 : Int32) (c1 : Int32) (c2 : Int32) (c3 : Int32) (c4 : Int32) (ki : ClassId) (h0 : Heap) (n0 : Nat) (Z0 : n0 ≤ h0.size) (hp0 : Arv Z h0 a0 kc .char (5 : Int32) [(.int c0), (.int c1), (.int c2), (.int c3), (.int c4)] (.int (0 : Int32))) (hp1 : Arv Z h0 a1 ki .int (5 : Int32) [(.int (1 : Int32)), (.int (31 : Int32)), (.int (961 : Int32)), (.int (29791 : Int32)), (.int (923521 : Int32))] (.int (0 : Int32))) (hse : own_se x y) :
    MetFree l mN4 (head1 (Jvm.Cond.code mN4 method_3_code 5 (some .int) :: ws) ({ frames := 0, cells := 0, slots := 0, locals := 0 } : Room)) (fun a U => a = #[(.ref a0), (.ref a1), (.int (0 : Int32)), (.int x), (.int y)] ∧ Z.Warmed39 U.vm ∧ U.heap = h0) (fun _ _ _ _ _ => True) (fun _ U o U' => ∃ v L, o = .returned v ∧ Q_trm0 Z a0 a1 x y kc c0 c1 c2 c3 c4 ki h0 n0 v U'.heap L ∧ FrameEnd U o U' L ({ frames := 0, cells := 0, slots := 0, locals := 0 } : Room).cells ({ frames := 0, cells := 0, slots := 0, locals := 0 } : Room).slots) := by
  refine MetFree.of_bodySF (plainFor_of_name pn7) hisR ?_
  intro p e s m args below meth c s₁ Bd hml0 hP hK
  obtain ⟨rfl, hZ, hh⟩ := hP
  have hx := Bd.exec
  have hby := Bd.bytes
  have hml : c.maxLocals = 5 := hml0
  have hown : s.vm.findClass "com/example/lexsign/lexsign/json/TextSpanHashCodePinLaw" = some m.cls := findClass_of_methodNamed Bd.named
  have hnm := (name_of_methodNamed Bd.named Bd.method).1
  have hlk := Bd.notSynchronized
  have hrt := Bd.returns
  have X0 : Stand p l e ({ frames := 0, cells := 0, slots := 0, locals := 0 } : Room) s m #[(.ref a0), (.ref a1), (.int (0 : Int32)), (.int x), (.int y)] below meth c s₁ [] 0 0 := Stand.of_body Bd
  have e0 : s₁.heap = h0 := by rw [← hh, Bd.state]; rfl
  have N0 := Fr.nil n0
  refine own_cast (P := own_End s (Q_trm0 Z a0 a1 x y kc c0 c1 c2 c3 c4 ki h0 n0) ({ frames := 0, cells := 0, slots := 0, locals := 0 } : Room).cells ({ frames := 0, cells := 0, slots := 0, locals := 0 } : Room).slots) (ef_trm0 m a0 a1 x y) ?_
  refine g_iloadN X0 hx hby d_trm0_0 rfl (rfl : 0 + 1 = 1) ?_
  refine g_iloadN X0 hx hby d_trm0_1 rfl (rfl : 1 + 1 = 2) ?_
  by_cases c346 : (0 : Int32) < x
  · refine g_icT X0 hx hby d_trm0_2 (tlt c346).2.2.1 (by decide) (pc' := 24) (by decide) ?_
    refine g_iconst X0 hx hby (0 : Int32) d_trm0_24 (by decide) (rfl : 24 + 1 = 25) ?_
    refine own_retI X0 hx hby hlk hrt d_trm0_25 (by decide) (by decide) ?_
    show Q_trm0 Z a0 a1 x y kc c0 c1 c2 c3 c4 ki h0 n0 _ s₁.heap _
    exact ⟨(congrArg (fun z => some (Value.int z)) (by rw [F_trm0, if_pos c346] <;> rfl)), N0, e0⟩
  · refine g_icF X0 hx hby d_trm0_2 (flt c346).2.2.1 (rfl : 2 + 3 = 5) ?_
    refine g_iloadN X0 hx hby d_trm0_5 rfl (rfl : 5 + 1 = 6) ?_
    refine g_iload X0 hx hby d_trm0_6 rfl (rfl : 6 + 2 = 8) ?_
    by_cases c347 : (0 : Int32) < y
    · refine g_icF X0 hx hby d_trm0_8 (tlt c347).2.1 (rfl : 8 + 3 = 11) ?_
      refine g_aloadN X0 hx hby d_trm0_11 rfl rfl (rfl : 11 + 1 = 12) ?_
      refine g_iloadN X0 hx hby d_trm0_12 rfl (rfl : 12 + 1 = 13) ?_
      refine g_caload X0 hx hby hZ e0 (v := (.int c0)) hp0 ⟨by decide, by decide⟩ rfl d_trm0_13 (rfl : 13 + 1 = 14) ?_
      refine g_aloadN X0 hx hby d_trm0_14 rfl rfl (rfl : 14 + 1 = 15) ?_
      refine g_iload X0 hx hby d_trm0_15 rfl (rfl : 15 + 2 = 17) ?_
      refine g_iconst X0 hx hby (1 : Int32) d_trm0_17 (by decide) (rfl : 17 + 1 = 18) ?_
      refine g_isub X0 hx hby d_trm0_18 (rfl : 18 + 1 = 19) ?_
      refine g_iloadN X0 hx hby d_trm0_19 rfl (rfl : 19 + 1 = 20) ?_
      refine g_isub X0 hx hby d_trm0_20 (rfl : 20 + 1 = 21) ?_
      refine g_iaload X0 hx hby hZ e0 (v := (.int (own_pw ((y - (1 : Int32)) - (0 : Int32))))) hp1 ⟨(own_tl hse (i := 0) (by decide) c347).1, (own_tl hse (i := 0) (by decide) c347).2⟩ (own_epw _) d_trm0_21 (rfl : 21 + 1 = 22) ?_
      refine g_imul X0 hx hby d_trm0_22 (rfl : 22 + 1 = 23) ?_
      refine own_retI X0 hx hby hlk hrt d_trm0_23 (by decide) (by decide) ?_
      show Q_trm0 Z a0 a1 x y kc c0 c1 c2 c3 c4 ki h0 n0 _ s₁.heap _
      exact ⟨(congrArg (fun z => some (Value.int z)) (by rw [F_trm0, if_neg c346, if_pos c347] <;> rfl)), N0, e0⟩
    · refine g_icT X0 hx hby d_trm0_8 (flt c347).2.1 (by decide) (pc' := 24) (by decide) ?_
      refine g_iconst X0 hx hby (0 : Int32) d_trm0_24 (by decide) (rfl : 24 + 1 = 25) ?_
      refine own_retI X0 hx hby hlk hrt d_trm0_25 (by decide) (by decide) ?_
      show Q_trm0 Z a0 a1 x y kc c0 c1 c2 c3 c4 ki h0 n0 _ s₁.heap _
      exact ⟨(congrArg (fun z => some (Value.int z)) (by rw [F_trm0, if_neg c346, if_neg c347] <;> rfl)), N0, e0⟩
theorem d_trm1_0 : decode method_3_code 0 = .ok (.iload_n 3, 1) := by decide +kernel
theorem d_trm1_1 : decode method_3_code 1 = .ok (.iload_n 2, 1) := by decide +kernel
theorem d_trm1_2 : decode method_3_code 2 = .ok (.if_icmp .gt 22, 3) := by decide +kernel
theorem d_trm1_5 : decode method_3_code 5 = .ok (.iload_n 2, 1) := by decide +kernel
theorem d_trm1_6 : decode method_3_code 6 = .ok (.iload 4, 2) := by decide +kernel
theorem d_trm1_8 : decode method_3_code 8 = .ok (.if_icmp .ge 16, 3) := by decide +kernel
theorem d_trm1_11 : decode method_3_code 11 = .ok (.aload_n 0, 1) := by decide +kernel
theorem d_trm1_12 : decode method_3_code 12 = .ok (.iload_n 2, 1) := by decide +kernel
theorem d_trm1_13 : decode method_3_code 13 = .ok (.caload, 1) := by decide +kernel
theorem d_trm1_14 : decode method_3_code 14 = .ok (.aload_n 1, 1) := by decide +kernel
theorem d_trm1_15 : decode method_3_code 15 = .ok (.iload 4, 2) := by decide +kernel
theorem d_trm1_17 : decode method_3_code 17 = .ok (.iconst 1, 1) := by decide +kernel
theorem d_trm1_18 : decode method_3_code 18 = .ok (.isub, 1) := by decide +kernel
theorem d_trm1_19 : decode method_3_code 19 = .ok (.iload_n 2, 1) := by decide +kernel
theorem d_trm1_20 : decode method_3_code 20 = .ok (.isub, 1) := by decide +kernel
theorem d_trm1_21 : decode method_3_code 21 = .ok (.iaload, 1) := by decide +kernel
theorem d_trm1_22 : decode method_3_code 22 = .ok (.imul, 1) := by decide +kernel
theorem d_trm1_23 : decode method_3_code 23 = .ok (.ireturn, 1) := by decide +kernel
theorem d_trm1_24 : decode method_3_code 24 = .ok (.iconst 0, 1) := by decide +kernel
theorem d_trm1_25 : decode method_3_code 25 = .ok (.ireturn, 1) := by decide +kernel
theorem ef_trm1 (m : MethodId) (a0 : Addr) (a1 : Addr) (x : Int32) (y : Int32) : entryFrame m #[(.ref a0), (.ref a1), (.int (1 : Int32)), (.int x), (.int y)] 5 = mkF m 0 #[.val (.ref a0), .val (.ref a1), .val (.int (1 : Int32)), .val (.int x), .val (.int y)] [] := by first | (simp [entryFrame, mkF, argsToLocals, Value.category]; done) | rfl
def F_trm1 (x : Int32) (y : Int32) (c1 : Int32) : Int32 := if (1 : Int32) < x then ((0 : Int32)) else (if (1 : Int32) < y then ((c1 * (own_pw ((y - (1 : Int32)) - (1 : Int32))))) else ((0 : Int32)))
def Q_trm1 (Z : State) (a0 : Addr) (a1 : Addr) (x : Int32) (y : Int32) (kc : ClassId) (c0 : Int32) (c1 : Int32) (c2 : Int32) (c3 : Int32) (c4 : Int32) (ki : ClassId) (h0 : Heap) (n0 : Nat) (v : Option Value) (h : Heap) (L : List Loc) : Prop := v = some (.int (F_trm1 x y c1)) ∧ Fr n0 L ∧ h = h0
set_option maxRecDepth 65536 in
set_option maxHeartbeats 40000000 in
theorem rm_trm1 (l : Launch) (Z : State) (aT : Array Value) (hw : ∀ d ∈ tables_1, d.before aT Z = true) (ws : List Jvm.Cond) (a0 : Addr) (a1 : Addr) (x : Int32) (y : Int32) (kc : ClassId) (c0 : Int32) (c1 : Int32) (c2 : Int32) (c3 : Int32) (c4 : Int32) (ki : ClassId) (h0 : Heap) (n0 : Nat) (Z0 : n0 ≤ h0.size) (hp0 : Arv Z h0 a0 kc .char (5 : Int32) [(.int c0), (.int c1), (.int c2), (.int c3), (.int c4)] (.int (0 : Int32))) (hp1 : Arv Z h0 a1 ki .int (5 : Int32) [(.int (1 : Int32)), (.int (31 : Int32)), (.int (961 : Int32)), (.int (29791 : Int32)), (.int (923521 : Int32))] (.int (0 : Int32))) (hse : own_se x y) :
    MetFree l mN4 (head1 (Jvm.Cond.code mN4 method_3_code 5 (some .int) :: ws) ({ frames := 0, cells := 0, slots := 0, locals := 0 } : Room)) (fun a U => a = #[(.ref a0), (.ref a1), (.int (1 : Int32)), (.int x), (.int y)] ∧ Z.Warmed39 U.vm ∧ U.heap = h0) (fun _ _ _ _ _ => True) (fun _ U o U' => ∃ v L, o = .returned v ∧ Q_trm1 Z a0 a1 x y kc c0 c1 c2 c3 c4 ki h0 n0 v U'.heap L ∧ FrameEnd U o U' L ({ frames := 0, cells := 0, slots := 0, locals := 0 } : Room).cells ({ frames := 0, cells := 0, slots := 0, locals := 0 } : Room).slots) := by
  refine MetFree.of_bodySF (plainFor_of_name pn7) hisR ?_
  intro p e s m args below meth c s₁ Bd hml0 hP hK
  obtain ⟨rfl, hZ, hh⟩ := hP
  have hx := Bd.exec
  have hby := Bd.bytes
  have hml : c.maxLocals = 5 := hml0
  have hown : s.vm.findClass "com/example/lexsign/lexsign/json/TextSpanHashCodePinLaw" = some m.cls := findClass_of_methodNamed Bd.named
  have hnm := (name_of_methodNamed Bd.named Bd.method).1
  have hlk := Bd.notSynchronized
  have hrt := Bd.returns
  have X0 : Stand p l e ({ frames := 0, cells := 0, slots := 0, locals := 0 } : Room) s m #[(.ref a0), (.ref a1), (.int (1 : Int32)), (.int x), (.int y)] below meth c s₁ [] 0 0 := Stand.of_body Bd
  have e0 : s₁.heap = h0 := by rw [← hh, Bd.state]; rfl
  have N0 := Fr.nil n0
  refine own_cast (P := own_End s (Q_trm1 Z a0 a1 x y kc c0 c1 c2 c3 c4 ki h0 n0) ({ frames := 0, cells := 0, slots := 0, locals := 0 } : Room).cells ({ frames := 0, cells := 0, slots := 0, locals := 0 } : Room).slots) (ef_trm1 m a0 a1 x y) ?_
  refine g_iloadN X0 hx hby d_trm1_0 rfl (rfl : 0 + 1 = 1) ?_
  refine g_iloadN X0 hx hby d_trm1_1 rfl (rfl : 1 + 1 = 2) ?_
  by_cases c348 : (1 : Int32) < x
  · refine g_icT X0 hx hby d_trm1_2 (tlt c348).2.2.1 (by decide) (pc' := 24) (by decide) ?_
    refine g_iconst X0 hx hby (0 : Int32) d_trm1_24 (by decide) (rfl : 24 + 1 = 25) ?_
    refine own_retI X0 hx hby hlk hrt d_trm1_25 (by decide) (by decide) ?_
    show Q_trm1 Z a0 a1 x y kc c0 c1 c2 c3 c4 ki h0 n0 _ s₁.heap _
    exact ⟨(congrArg (fun z => some (Value.int z)) (by rw [F_trm1, if_pos c348] <;> rfl)), N0, e0⟩
  · refine g_icF X0 hx hby d_trm1_2 (flt c348).2.2.1 (rfl : 2 + 3 = 5) ?_
    refine g_iloadN X0 hx hby d_trm1_5 rfl (rfl : 5 + 1 = 6) ?_
    refine g_iload X0 hx hby d_trm1_6 rfl (rfl : 6 + 2 = 8) ?_
    by_cases c349 : (1 : Int32) < y
    · refine g_icF X0 hx hby d_trm1_8 (tlt c349).2.1 (rfl : 8 + 3 = 11) ?_
      refine g_aloadN X0 hx hby d_trm1_11 rfl rfl (rfl : 11 + 1 = 12) ?_
      refine g_iloadN X0 hx hby d_trm1_12 rfl (rfl : 12 + 1 = 13) ?_
      refine g_caload X0 hx hby hZ e0 (v := (.int c1)) hp0 ⟨by decide, by decide⟩ rfl d_trm1_13 (rfl : 13 + 1 = 14) ?_
      refine g_aloadN X0 hx hby d_trm1_14 rfl rfl (rfl : 14 + 1 = 15) ?_
      refine g_iload X0 hx hby d_trm1_15 rfl (rfl : 15 + 2 = 17) ?_
      refine g_iconst X0 hx hby (1 : Int32) d_trm1_17 (by decide) (rfl : 17 + 1 = 18) ?_
      refine g_isub X0 hx hby d_trm1_18 (rfl : 18 + 1 = 19) ?_
      refine g_iloadN X0 hx hby d_trm1_19 rfl (rfl : 19 + 1 = 20) ?_
      refine g_isub X0 hx hby d_trm1_20 (rfl : 20 + 1 = 21) ?_
      refine g_iaload X0 hx hby hZ e0 (v := (.int (own_pw ((y - (1 : Int32)) - (1 : Int32))))) hp1 ⟨(own_tl hse (i := 1) (by decide) c349).1, (own_tl hse (i := 1) (by decide) c349).2⟩ (own_epw _) d_trm1_21 (rfl : 21 + 1 = 22) ?_
      refine g_imul X0 hx hby d_trm1_22 (rfl : 22 + 1 = 23) ?_
      refine own_retI X0 hx hby hlk hrt d_trm1_23 (by decide) (by decide) ?_
      show Q_trm1 Z a0 a1 x y kc c0 c1 c2 c3 c4 ki h0 n0 _ s₁.heap _
      exact ⟨(congrArg (fun z => some (Value.int z)) (by rw [F_trm1, if_neg c348, if_pos c349] <;> rfl)), N0, e0⟩
    · refine g_icT X0 hx hby d_trm1_8 (flt c349).2.1 (by decide) (pc' := 24) (by decide) ?_
      refine g_iconst X0 hx hby (0 : Int32) d_trm1_24 (by decide) (rfl : 24 + 1 = 25) ?_
      refine own_retI X0 hx hby hlk hrt d_trm1_25 (by decide) (by decide) ?_
      show Q_trm1 Z a0 a1 x y kc c0 c1 c2 c3 c4 ki h0 n0 _ s₁.heap _
      exact ⟨(congrArg (fun z => some (Value.int z)) (by rw [F_trm1, if_neg c348, if_neg c349] <;> rfl)), N0, e0⟩
theorem d_trm2_0 : decode method_3_code 0 = .ok (.iload_n 3, 1) := by decide +kernel
theorem d_trm2_1 : decode method_3_code 1 = .ok (.iload_n 2, 1) := by decide +kernel
theorem d_trm2_2 : decode method_3_code 2 = .ok (.if_icmp .gt 22, 3) := by decide +kernel
theorem d_trm2_5 : decode method_3_code 5 = .ok (.iload_n 2, 1) := by decide +kernel
theorem d_trm2_6 : decode method_3_code 6 = .ok (.iload 4, 2) := by decide +kernel
theorem d_trm2_8 : decode method_3_code 8 = .ok (.if_icmp .ge 16, 3) := by decide +kernel
theorem d_trm2_11 : decode method_3_code 11 = .ok (.aload_n 0, 1) := by decide +kernel
theorem d_trm2_12 : decode method_3_code 12 = .ok (.iload_n 2, 1) := by decide +kernel
theorem d_trm2_13 : decode method_3_code 13 = .ok (.caload, 1) := by decide +kernel
theorem d_trm2_14 : decode method_3_code 14 = .ok (.aload_n 1, 1) := by decide +kernel
theorem d_trm2_15 : decode method_3_code 15 = .ok (.iload 4, 2) := by decide +kernel
theorem d_trm2_17 : decode method_3_code 17 = .ok (.iconst 1, 1) := by decide +kernel
theorem d_trm2_18 : decode method_3_code 18 = .ok (.isub, 1) := by decide +kernel
theorem d_trm2_19 : decode method_3_code 19 = .ok (.iload_n 2, 1) := by decide +kernel
theorem d_trm2_20 : decode method_3_code 20 = .ok (.isub, 1) := by decide +kernel
theorem d_trm2_21 : decode method_3_code 21 = .ok (.iaload, 1) := by decide +kernel
theorem d_trm2_22 : decode method_3_code 22 = .ok (.imul, 1) := by decide +kernel
theorem d_trm2_23 : decode method_3_code 23 = .ok (.ireturn, 1) := by decide +kernel
theorem d_trm2_24 : decode method_3_code 24 = .ok (.iconst 0, 1) := by decide +kernel
theorem d_trm2_25 : decode method_3_code 25 = .ok (.ireturn, 1) := by decide +kernel
theorem ef_trm2 (m : MethodId) (a0 : Addr) (a1 : Addr) (x : Int32) (y : Int32) : entryFrame m #[(.ref a0), (.ref a1), (.int (2 : Int32)), (.int x), (.int y)] 5 = mkF m 0 #[.val (.ref a0), .val (.ref a1), .val (.int (2 : Int32)), .val (.int x), .val (.int y)] [] := by first | (simp [entryFrame, mkF, argsToLocals, Value.category]; done) | rfl
def F_trm2 (x : Int32) (y : Int32) (c2 : Int32) : Int32 := if (2 : Int32) < x then ((0 : Int32)) else (if (2 : Int32) < y then ((c2 * (own_pw ((y - (1 : Int32)) - (2 : Int32))))) else ((0 : Int32)))
def Q_trm2 (Z : State) (a0 : Addr) (a1 : Addr) (x : Int32) (y : Int32) (kc : ClassId) (c0 : Int32) (c1 : Int32) (c2 : Int32) (c3 : Int32) (c4 : Int32) (ki : ClassId) (h0 : Heap) (n0 : Nat) (v : Option Value) (h : Heap) (L : List Loc) : Prop := v = some (.int (F_trm2 x y c2)) ∧ Fr n0 L ∧ h = h0
set_option maxRecDepth 65536 in
set_option maxHeartbeats 40000000 in
theorem rm_trm2 (l : Launch) (Z : State) (aT : Array Value) (hw : ∀ d ∈ tables_1, d.before aT Z = true) (ws : List Jvm.Cond) (a0 : Addr) (a1 : Addr) (x : Int32) (y : Int32) (kc : ClassId) (c0 : Int32) (c1 : Int32) (c2 : Int32) (c3 : Int32) (c4 : Int32) (ki : ClassId) (h0 : Heap) (n0 : Nat) (Z0 : n0 ≤ h0.size) (hp0 : Arv Z h0 a0 kc .char (5 : Int32) [(.int c0), (.int c1), (.int c2), (.int c3), (.int c4)] (.int (0 : Int32))) (hp1 : Arv Z h0 a1 ki .int (5 : Int32) [(.int (1 : Int32)), (.int (31 : Int32)), (.int (961 : Int32)), (.int (29791 : Int32)), (.int (923521 : Int32))] (.int (0 : Int32))) (hse : own_se x y) :
    MetFree l mN4 (head1 (Jvm.Cond.code mN4 method_3_code 5 (some .int) :: ws) ({ frames := 0, cells := 0, slots := 0, locals := 0 } : Room)) (fun a U => a = #[(.ref a0), (.ref a1), (.int (2 : Int32)), (.int x), (.int y)] ∧ Z.Warmed39 U.vm ∧ U.heap = h0) (fun _ _ _ _ _ => True) (fun _ U o U' => ∃ v L, o = .returned v ∧ Q_trm2 Z a0 a1 x y kc c0 c1 c2 c3 c4 ki h0 n0 v U'.heap L ∧ FrameEnd U o U' L ({ frames := 0, cells := 0, slots := 0, locals := 0 } : Room).cells ({ frames := 0, cells := 0, slots := 0, locals := 0 } : Room).slots) := by
  refine MetFree.of_bodySF (plainFor_of_name pn7) hisR ?_
  intro p e s m args below meth c s₁ Bd hml0 hP hK
  obtain ⟨rfl, hZ, hh⟩ := hP
  have hx := Bd.exec
  have hby := Bd.bytes
  have hml : c.maxLocals = 5 := hml0
  have hown : s.vm.findClass "com/example/lexsign/lexsign/json/TextSpanHashCodePinLaw" = some m.cls := findClass_of_methodNamed Bd.named
  have hnm := (name_of_methodNamed Bd.named Bd.method).1
  have hlk := Bd.notSynchronized
  have hrt := Bd.returns
  have X0 : Stand p l e ({ frames := 0, cells := 0, slots := 0, locals := 0 } : Room) s m #[(.ref a0), (.ref a1), (.int (2 : Int32)), (.int x), (.int y)] below meth c s₁ [] 0 0 := Stand.of_body Bd
  have e0 : s₁.heap = h0 := by rw [← hh, Bd.state]; rfl
  have N0 := Fr.nil n0
  refine own_cast (P := own_End s (Q_trm2 Z a0 a1 x y kc c0 c1 c2 c3 c4 ki h0 n0) ({ frames := 0, cells := 0, slots := 0, locals := 0 } : Room).cells ({ frames := 0, cells := 0, slots := 0, locals := 0 } : Room).slots) (ef_trm2 m a0 a1 x y) ?_
  refine g_iloadN X0 hx hby d_trm2_0 rfl (rfl : 0 + 1 = 1) ?_
  refine g_iloadN X0 hx hby d_trm2_1 rfl (rfl : 1 + 1 = 2) ?_
  by_cases c350 : (2 : Int32) < x
  · refine g_icT X0 hx hby d_trm2_2 (tlt c350).2.2.1 (by decide) (pc' := 24) (by decide) ?_
    refine g_iconst X0 hx hby (0 : Int32) d_trm2_24 (by decide) (rfl : 24 + 1 = 25) ?_
    refine own_retI X0 hx hby hlk hrt d_trm2_25 (by decide) (by decide) ?_
    show Q_trm2 Z a0 a1 x y kc c0 c1 c2 c3 c4 ki h0 n0 _ s₁.heap _
    exact ⟨(congrArg (fun z => some (Value.int z)) (by rw [F_trm2, if_pos c350] <;> rfl)), N0, e0⟩
  · refine g_icF X0 hx hby d_trm2_2 (flt c350).2.2.1 (rfl : 2 + 3 = 5) ?_
    refine g_iloadN X0 hx hby d_trm2_5 rfl (rfl : 5 + 1 = 6) ?_
    refine g_iload X0 hx hby d_trm2_6 rfl (rfl : 6 + 2 = 8) ?_
    by_cases c351 : (2 : Int32) < y
    · refine g_icF X0 hx hby d_trm2_8 (tlt c351).2.1 (rfl : 8 + 3 = 11) ?_
      refine g_aloadN X0 hx hby d_trm2_11 rfl rfl (rfl : 11 + 1 = 12) ?_
      refine g_iloadN X0 hx hby d_trm2_12 rfl (rfl : 12 + 1 = 13) ?_
      refine g_caload X0 hx hby hZ e0 (v := (.int c2)) hp0 ⟨by decide, by decide⟩ rfl d_trm2_13 (rfl : 13 + 1 = 14) ?_
      refine g_aloadN X0 hx hby d_trm2_14 rfl rfl (rfl : 14 + 1 = 15) ?_
      refine g_iload X0 hx hby d_trm2_15 rfl (rfl : 15 + 2 = 17) ?_
      refine g_iconst X0 hx hby (1 : Int32) d_trm2_17 (by decide) (rfl : 17 + 1 = 18) ?_
      refine g_isub X0 hx hby d_trm2_18 (rfl : 18 + 1 = 19) ?_
      refine g_iloadN X0 hx hby d_trm2_19 rfl (rfl : 19 + 1 = 20) ?_
      refine g_isub X0 hx hby d_trm2_20 (rfl : 20 + 1 = 21) ?_
      refine g_iaload X0 hx hby hZ e0 (v := (.int (own_pw ((y - (1 : Int32)) - (2 : Int32))))) hp1 ⟨(own_tl hse (i := 2) (by decide) c351).1, (own_tl hse (i := 2) (by decide) c351).2⟩ (own_epw _) d_trm2_21 (rfl : 21 + 1 = 22) ?_
      refine g_imul X0 hx hby d_trm2_22 (rfl : 22 + 1 = 23) ?_
      refine own_retI X0 hx hby hlk hrt d_trm2_23 (by decide) (by decide) ?_
      show Q_trm2 Z a0 a1 x y kc c0 c1 c2 c3 c4 ki h0 n0 _ s₁.heap _
      exact ⟨(congrArg (fun z => some (Value.int z)) (by rw [F_trm2, if_neg c350, if_pos c351] <;> rfl)), N0, e0⟩
    · refine g_icT X0 hx hby d_trm2_8 (flt c351).2.1 (by decide) (pc' := 24) (by decide) ?_
      refine g_iconst X0 hx hby (0 : Int32) d_trm2_24 (by decide) (rfl : 24 + 1 = 25) ?_
      refine own_retI X0 hx hby hlk hrt d_trm2_25 (by decide) (by decide) ?_
      show Q_trm2 Z a0 a1 x y kc c0 c1 c2 c3 c4 ki h0 n0 _ s₁.heap _
      exact ⟨(congrArg (fun z => some (Value.int z)) (by rw [F_trm2, if_neg c350, if_neg c351] <;> rfl)), N0, e0⟩
theorem d_trm3_0 : decode method_3_code 0 = .ok (.iload_n 3, 1) := by decide +kernel
theorem d_trm3_1 : decode method_3_code 1 = .ok (.iload_n 2, 1) := by decide +kernel
theorem d_trm3_2 : decode method_3_code 2 = .ok (.if_icmp .gt 22, 3) := by decide +kernel
theorem d_trm3_5 : decode method_3_code 5 = .ok (.iload_n 2, 1) := by decide +kernel
theorem d_trm3_6 : decode method_3_code 6 = .ok (.iload 4, 2) := by decide +kernel
theorem d_trm3_8 : decode method_3_code 8 = .ok (.if_icmp .ge 16, 3) := by decide +kernel
theorem d_trm3_11 : decode method_3_code 11 = .ok (.aload_n 0, 1) := by decide +kernel
theorem d_trm3_12 : decode method_3_code 12 = .ok (.iload_n 2, 1) := by decide +kernel
theorem d_trm3_13 : decode method_3_code 13 = .ok (.caload, 1) := by decide +kernel
theorem d_trm3_14 : decode method_3_code 14 = .ok (.aload_n 1, 1) := by decide +kernel
theorem d_trm3_15 : decode method_3_code 15 = .ok (.iload 4, 2) := by decide +kernel
theorem d_trm3_17 : decode method_3_code 17 = .ok (.iconst 1, 1) := by decide +kernel
theorem d_trm3_18 : decode method_3_code 18 = .ok (.isub, 1) := by decide +kernel
theorem d_trm3_19 : decode method_3_code 19 = .ok (.iload_n 2, 1) := by decide +kernel
theorem d_trm3_20 : decode method_3_code 20 = .ok (.isub, 1) := by decide +kernel
theorem d_trm3_21 : decode method_3_code 21 = .ok (.iaload, 1) := by decide +kernel
theorem d_trm3_22 : decode method_3_code 22 = .ok (.imul, 1) := by decide +kernel
theorem d_trm3_23 : decode method_3_code 23 = .ok (.ireturn, 1) := by decide +kernel
theorem d_trm3_24 : decode method_3_code 24 = .ok (.iconst 0, 1) := by decide +kernel
theorem d_trm3_25 : decode method_3_code 25 = .ok (.ireturn, 1) := by decide +kernel
theorem ef_trm3 (m : MethodId) (a0 : Addr) (a1 : Addr) (x : Int32) (y : Int32) : entryFrame m #[(.ref a0), (.ref a1), (.int (3 : Int32)), (.int x), (.int y)] 5 = mkF m 0 #[.val (.ref a0), .val (.ref a1), .val (.int (3 : Int32)), .val (.int x), .val (.int y)] [] := by first | (simp [entryFrame, mkF, argsToLocals, Value.category]; done) | rfl
def F_trm3 (x : Int32) (y : Int32) (c3 : Int32) : Int32 := if (3 : Int32) < x then ((0 : Int32)) else (if (3 : Int32) < y then ((c3 * (own_pw ((y - (1 : Int32)) - (3 : Int32))))) else ((0 : Int32)))
def Q_trm3 (Z : State) (a0 : Addr) (a1 : Addr) (x : Int32) (y : Int32) (kc : ClassId) (c0 : Int32) (c1 : Int32) (c2 : Int32) (c3 : Int32) (c4 : Int32) (ki : ClassId) (h0 : Heap) (n0 : Nat) (v : Option Value) (h : Heap) (L : List Loc) : Prop := v = some (.int (F_trm3 x y c3)) ∧ Fr n0 L ∧ h = h0
set_option maxRecDepth 65536 in
set_option maxHeartbeats 40000000 in
theorem rm_trm3 (l : Launch) (Z : State) (aT : Array Value) (hw : ∀ d ∈ tables_1, d.before aT Z = true) (ws : List Jvm.Cond) (a0 : Addr) (a1 : Addr) (x : Int32) (y : Int32) (kc : ClassId) (c0 : Int32) (c1 : Int32) (c2 : Int32) (c3 : Int32) (c4 : Int32) (ki : ClassId) (h0 : Heap) (n0 : Nat) (Z0 : n0 ≤ h0.size) (hp0 : Arv Z h0 a0 kc .char (5 : Int32) [(.int c0), (.int c1), (.int c2), (.int c3), (.int c4)] (.int (0 : Int32))) (hp1 : Arv Z h0 a1 ki .int (5 : Int32) [(.int (1 : Int32)), (.int (31 : Int32)), (.int (961 : Int32)), (.int (29791 : Int32)), (.int (923521 : Int32))] (.int (0 : Int32))) (hse : own_se x y) :
    MetFree l mN4 (head1 (Jvm.Cond.code mN4 method_3_code 5 (some .int) :: ws) ({ frames := 0, cells := 0, slots := 0, locals := 0 } : Room)) (fun a U => a = #[(.ref a0), (.ref a1), (.int (3 : Int32)), (.int x), (.int y)] ∧ Z.Warmed39 U.vm ∧ U.heap = h0) (fun _ _ _ _ _ => True) (fun _ U o U' => ∃ v L, o = .returned v ∧ Q_trm3 Z a0 a1 x y kc c0 c1 c2 c3 c4 ki h0 n0 v U'.heap L ∧ FrameEnd U o U' L ({ frames := 0, cells := 0, slots := 0, locals := 0 } : Room).cells ({ frames := 0, cells := 0, slots := 0, locals := 0 } : Room).slots) := by
  refine MetFree.of_bodySF (plainFor_of_name pn7) hisR ?_
  intro p e s m args below meth c s₁ Bd hml0 hP hK
  obtain ⟨rfl, hZ, hh⟩ := hP
  have hx := Bd.exec
  have hby := Bd.bytes
  have hml : c.maxLocals = 5 := hml0
  have hown : s.vm.findClass "com/example/lexsign/lexsign/json/TextSpanHashCodePinLaw" = some m.cls := findClass_of_methodNamed Bd.named
  have hnm := (name_of_methodNamed Bd.named Bd.method).1
  have hlk := Bd.notSynchronized
  have hrt := Bd.returns
  have X0 : Stand p l e ({ frames := 0, cells := 0, slots := 0, locals := 0 } : Room) s m #[(.ref a0), (.ref a1), (.int (3 : Int32)), (.int x), (.int y)] below meth c s₁ [] 0 0 := Stand.of_body Bd
  have e0 : s₁.heap = h0 := by rw [← hh, Bd.state]; rfl
  have N0 := Fr.nil n0
  refine own_cast (P := own_End s (Q_trm3 Z a0 a1 x y kc c0 c1 c2 c3 c4 ki h0 n0) ({ frames := 0, cells := 0, slots := 0, locals := 0 } : Room).cells ({ frames := 0, cells := 0, slots := 0, locals := 0 } : Room).slots) (ef_trm3 m a0 a1 x y) ?_
  refine g_iloadN X0 hx hby d_trm3_0 rfl (rfl : 0 + 1 = 1) ?_
  refine g_iloadN X0 hx hby d_trm3_1 rfl (rfl : 1 + 1 = 2) ?_
  by_cases c352 : (3 : Int32) < x
  · refine g_icT X0 hx hby d_trm3_2 (tlt c352).2.2.1 (by decide) (pc' := 24) (by decide) ?_
    refine g_iconst X0 hx hby (0 : Int32) d_trm3_24 (by decide) (rfl : 24 + 1 = 25) ?_
    refine own_retI X0 hx hby hlk hrt d_trm3_25 (by decide) (by decide) ?_
    show Q_trm3 Z a0 a1 x y kc c0 c1 c2 c3 c4 ki h0 n0 _ s₁.heap _
    exact ⟨(congrArg (fun z => some (Value.int z)) (by rw [F_trm3, if_pos c352] <;> rfl)), N0, e0⟩
  · refine g_icF X0 hx hby d_trm3_2 (flt c352).2.2.1 (rfl : 2 + 3 = 5) ?_
    refine g_iloadN X0 hx hby d_trm3_5 rfl (rfl : 5 + 1 = 6) ?_
    refine g_iload X0 hx hby d_trm3_6 rfl (rfl : 6 + 2 = 8) ?_
    by_cases c353 : (3 : Int32) < y
    · refine g_icF X0 hx hby d_trm3_8 (tlt c353).2.1 (rfl : 8 + 3 = 11) ?_
      refine g_aloadN X0 hx hby d_trm3_11 rfl rfl (rfl : 11 + 1 = 12) ?_
      refine g_iloadN X0 hx hby d_trm3_12 rfl (rfl : 12 + 1 = 13) ?_
      refine g_caload X0 hx hby hZ e0 (v := (.int c3)) hp0 ⟨by decide, by decide⟩ rfl d_trm3_13 (rfl : 13 + 1 = 14) ?_
      refine g_aloadN X0 hx hby d_trm3_14 rfl rfl (rfl : 14 + 1 = 15) ?_
      refine g_iload X0 hx hby d_trm3_15 rfl (rfl : 15 + 2 = 17) ?_
      refine g_iconst X0 hx hby (1 : Int32) d_trm3_17 (by decide) (rfl : 17 + 1 = 18) ?_
      refine g_isub X0 hx hby d_trm3_18 (rfl : 18 + 1 = 19) ?_
      refine g_iloadN X0 hx hby d_trm3_19 rfl (rfl : 19 + 1 = 20) ?_
      refine g_isub X0 hx hby d_trm3_20 (rfl : 20 + 1 = 21) ?_
      refine g_iaload X0 hx hby hZ e0 (v := (.int (own_pw ((y - (1 : Int32)) - (3 : Int32))))) hp1 ⟨(own_tl hse (i := 3) (by decide) c353).1, (own_tl hse (i := 3) (by decide) c353).2⟩ (own_epw _) d_trm3_21 (rfl : 21 + 1 = 22) ?_
      refine g_imul X0 hx hby d_trm3_22 (rfl : 22 + 1 = 23) ?_
      refine own_retI X0 hx hby hlk hrt d_trm3_23 (by decide) (by decide) ?_
      show Q_trm3 Z a0 a1 x y kc c0 c1 c2 c3 c4 ki h0 n0 _ s₁.heap _
      exact ⟨(congrArg (fun z => some (Value.int z)) (by rw [F_trm3, if_neg c352, if_pos c353] <;> rfl)), N0, e0⟩
    · refine g_icT X0 hx hby d_trm3_8 (flt c353).2.1 (by decide) (pc' := 24) (by decide) ?_
      refine g_iconst X0 hx hby (0 : Int32) d_trm3_24 (by decide) (rfl : 24 + 1 = 25) ?_
      refine own_retI X0 hx hby hlk hrt d_trm3_25 (by decide) (by decide) ?_
      show Q_trm3 Z a0 a1 x y kc c0 c1 c2 c3 c4 ki h0 n0 _ s₁.heap _
      exact ⟨(congrArg (fun z => some (Value.int z)) (by rw [F_trm3, if_neg c352, if_neg c353] <;> rfl)), N0, e0⟩
theorem d_trm4_0 : decode method_3_code 0 = .ok (.iload_n 3, 1) := by decide +kernel
theorem d_trm4_1 : decode method_3_code 1 = .ok (.iload_n 2, 1) := by decide +kernel
theorem d_trm4_2 : decode method_3_code 2 = .ok (.if_icmp .gt 22, 3) := by decide +kernel
theorem d_trm4_5 : decode method_3_code 5 = .ok (.iload_n 2, 1) := by decide +kernel
theorem d_trm4_6 : decode method_3_code 6 = .ok (.iload 4, 2) := by decide +kernel
theorem d_trm4_8 : decode method_3_code 8 = .ok (.if_icmp .ge 16, 3) := by decide +kernel
theorem d_trm4_11 : decode method_3_code 11 = .ok (.aload_n 0, 1) := by decide +kernel
theorem d_trm4_12 : decode method_3_code 12 = .ok (.iload_n 2, 1) := by decide +kernel
theorem d_trm4_13 : decode method_3_code 13 = .ok (.caload, 1) := by decide +kernel
theorem d_trm4_14 : decode method_3_code 14 = .ok (.aload_n 1, 1) := by decide +kernel
theorem d_trm4_15 : decode method_3_code 15 = .ok (.iload 4, 2) := by decide +kernel
theorem d_trm4_17 : decode method_3_code 17 = .ok (.iconst 1, 1) := by decide +kernel
theorem d_trm4_18 : decode method_3_code 18 = .ok (.isub, 1) := by decide +kernel
theorem d_trm4_19 : decode method_3_code 19 = .ok (.iload_n 2, 1) := by decide +kernel
theorem d_trm4_20 : decode method_3_code 20 = .ok (.isub, 1) := by decide +kernel
theorem d_trm4_21 : decode method_3_code 21 = .ok (.iaload, 1) := by decide +kernel
theorem d_trm4_22 : decode method_3_code 22 = .ok (.imul, 1) := by decide +kernel
theorem d_trm4_23 : decode method_3_code 23 = .ok (.ireturn, 1) := by decide +kernel
theorem d_trm4_24 : decode method_3_code 24 = .ok (.iconst 0, 1) := by decide +kernel
theorem d_trm4_25 : decode method_3_code 25 = .ok (.ireturn, 1) := by decide +kernel
theorem ef_trm4 (m : MethodId) (a0 : Addr) (a1 : Addr) (x : Int32) (y : Int32) : entryFrame m #[(.ref a0), (.ref a1), (.int (4 : Int32)), (.int x), (.int y)] 5 = mkF m 0 #[.val (.ref a0), .val (.ref a1), .val (.int (4 : Int32)), .val (.int x), .val (.int y)] [] := by first | (simp [entryFrame, mkF, argsToLocals, Value.category]; done) | rfl
def F_trm4 (x : Int32) (y : Int32) (c4 : Int32) : Int32 := if (4 : Int32) < x then ((0 : Int32)) else (if (4 : Int32) < y then ((c4 * (own_pw ((y - (1 : Int32)) - (4 : Int32))))) else ((0 : Int32)))
def Q_trm4 (Z : State) (a0 : Addr) (a1 : Addr) (x : Int32) (y : Int32) (kc : ClassId) (c0 : Int32) (c1 : Int32) (c2 : Int32) (c3 : Int32) (c4 : Int32) (ki : ClassId) (h0 : Heap) (n0 : Nat) (v : Option Value) (h : Heap) (L : List Loc) : Prop := v = some (.int (F_trm4 x y c4)) ∧ Fr n0 L ∧ h = h0
set_option maxRecDepth 65536 in
set_option maxHeartbeats 40000000 in
theorem rm_trm4 (l : Launch) (Z : State) (aT : Array Value) (hw : ∀ d ∈ tables_1, d.before aT Z = true) (ws : List Jvm.Cond) (a0 : Addr) (a1 : Addr) (x : Int32) (y : Int32) (kc : ClassId) (c0 : Int32) (c1 : Int32) (c2 : Int32) (c3 : Int32) (c4 : Int32) (ki : ClassId) (h0 : Heap) (n0 : Nat) (Z0 : n0 ≤ h0.size) (hp0 : Arv Z h0 a0 kc .char (5 : Int32) [(.int c0), (.int c1), (.int c2), (.int c3), (.int c4)] (.int (0 : Int32))) (hp1 : Arv Z h0 a1 ki .int (5 : Int32) [(.int (1 : Int32)), (.int (31 : Int32)), (.int (961 : Int32)), (.int (29791 : Int32)), (.int (923521 : Int32))] (.int (0 : Int32))) (hse : own_se x y) :
    MetFree l mN4 (head1 (Jvm.Cond.code mN4 method_3_code 5 (some .int) :: ws) ({ frames := 0, cells := 0, slots := 0, locals := 0 } : Room)) (fun a U => a = #[(.ref a0), (.ref a1), (.int (4 : Int32)), (.int x), (.int y)] ∧ Z.Warmed39 U.vm ∧ U.heap = h0) (fun _ _ _ _ _ => True) (fun _ U o U' => ∃ v L, o = .returned v ∧ Q_trm4 Z a0 a1 x y kc c0 c1 c2 c3 c4 ki h0 n0 v U'.heap L ∧ FrameEnd U o U' L ({ frames := 0, cells := 0, slots := 0, locals := 0 } : Room).cells ({ frames := 0, cells := 0, slots := 0, locals := 0 } : Room).slots) := by
  refine MetFree.of_bodySF (plainFor_of_name pn7) hisR ?_
  intro p e s m args below meth c s₁ Bd hml0 hP hK
  obtain ⟨rfl, hZ, hh⟩ := hP
  have hx := Bd.exec
  have hby := Bd.bytes
  have hml : c.maxLocals = 5 := hml0
  have hown : s.vm.findClass "com/example/lexsign/lexsign/json/TextSpanHashCodePinLaw" = some m.cls := findClass_of_methodNamed Bd.named
  have hnm := (name_of_methodNamed Bd.named Bd.method).1
  have hlk := Bd.notSynchronized
  have hrt := Bd.returns
  have X0 : Stand p l e ({ frames := 0, cells := 0, slots := 0, locals := 0 } : Room) s m #[(.ref a0), (.ref a1), (.int (4 : Int32)), (.int x), (.int y)] below meth c s₁ [] 0 0 := Stand.of_body Bd
  have e0 : s₁.heap = h0 := by rw [← hh, Bd.state]; rfl
  have N0 := Fr.nil n0
  refine own_cast (P := own_End s (Q_trm4 Z a0 a1 x y kc c0 c1 c2 c3 c4 ki h0 n0) ({ frames := 0, cells := 0, slots := 0, locals := 0 } : Room).cells ({ frames := 0, cells := 0, slots := 0, locals := 0 } : Room).slots) (ef_trm4 m a0 a1 x y) ?_
  refine g_iloadN X0 hx hby d_trm4_0 rfl (rfl : 0 + 1 = 1) ?_
  refine g_iloadN X0 hx hby d_trm4_1 rfl (rfl : 1 + 1 = 2) ?_
  by_cases c354 : (4 : Int32) < x
  · refine g_icT X0 hx hby d_trm4_2 (tlt c354).2.2.1 (by decide) (pc' := 24) (by decide) ?_
    refine g_iconst X0 hx hby (0 : Int32) d_trm4_24 (by decide) (rfl : 24 + 1 = 25) ?_
    refine own_retI X0 hx hby hlk hrt d_trm4_25 (by decide) (by decide) ?_
    show Q_trm4 Z a0 a1 x y kc c0 c1 c2 c3 c4 ki h0 n0 _ s₁.heap _
    exact ⟨(congrArg (fun z => some (Value.int z)) (by rw [F_trm4, if_pos c354] <;> rfl)), N0, e0⟩
  · refine g_icF X0 hx hby d_trm4_2 (flt c354).2.2.1 (rfl : 2 + 3 = 5) ?_
    refine g_iloadN X0 hx hby d_trm4_5 rfl (rfl : 5 + 1 = 6) ?_
    refine g_iload X0 hx hby d_trm4_6 rfl (rfl : 6 + 2 = 8) ?_
    by_cases c355 : (4 : Int32) < y
    · refine g_icF X0 hx hby d_trm4_8 (tlt c355).2.1 (rfl : 8 + 3 = 11) ?_
      refine g_aloadN X0 hx hby d_trm4_11 rfl rfl (rfl : 11 + 1 = 12) ?_
      refine g_iloadN X0 hx hby d_trm4_12 rfl (rfl : 12 + 1 = 13) ?_
      refine g_caload X0 hx hby hZ e0 (v := (.int c4)) hp0 ⟨by decide, by decide⟩ rfl d_trm4_13 (rfl : 13 + 1 = 14) ?_
      refine g_aloadN X0 hx hby d_trm4_14 rfl rfl (rfl : 14 + 1 = 15) ?_
      refine g_iload X0 hx hby d_trm4_15 rfl (rfl : 15 + 2 = 17) ?_
      refine g_iconst X0 hx hby (1 : Int32) d_trm4_17 (by decide) (rfl : 17 + 1 = 18) ?_
      refine g_isub X0 hx hby d_trm4_18 (rfl : 18 + 1 = 19) ?_
      refine g_iloadN X0 hx hby d_trm4_19 rfl (rfl : 19 + 1 = 20) ?_
      refine g_isub X0 hx hby d_trm4_20 (rfl : 20 + 1 = 21) ?_
      refine g_iaload X0 hx hby hZ e0 (v := (.int (own_pw ((y - (1 : Int32)) - (4 : Int32))))) hp1 ⟨(own_tl hse (i := 4) (by decide) c355).1, (own_tl hse (i := 4) (by decide) c355).2⟩ (own_epw _) d_trm4_21 (rfl : 21 + 1 = 22) ?_
      refine g_imul X0 hx hby d_trm4_22 (rfl : 22 + 1 = 23) ?_
      refine own_retI X0 hx hby hlk hrt d_trm4_23 (by decide) (by decide) ?_
      show Q_trm4 Z a0 a1 x y kc c0 c1 c2 c3 c4 ki h0 n0 _ s₁.heap _
      exact ⟨(congrArg (fun z => some (Value.int z)) (by rw [F_trm4, if_neg c354, if_pos c355] <;> rfl)), N0, e0⟩
    · refine g_icT X0 hx hby d_trm4_8 (flt c355).2.1 (by decide) (pc' := 24) (by decide) ?_
      refine g_iconst X0 hx hby (0 : Int32) d_trm4_24 (by decide) (rfl : 24 + 1 = 25) ?_
      refine own_retI X0 hx hby hlk hrt d_trm4_25 (by decide) (by decide) ?_
      show Q_trm4 Z a0 a1 x y kc c0 c1 c2 c3 c4 ki h0 n0 _ s₁.heap _
      exact ⟨(congrArg (fun z => some (Value.int z)) (by rw [F_trm4, if_neg c354, if_neg c355] <;> rfl)), N0, e0⟩
theorem d_hsh_0 : decode prog_29_method_8_code 0 = .ok (.iconst 0, 1) := by decide +kernel
theorem d_hsh_1 : decode prog_29_method_8_code 1 = .ok (.istore_n 1, 1) := by decide +kernel
theorem d_hsh_2 : decode prog_29_method_8_code 2 = .ok (.aload_n 0, 1) := by decide +kernel
theorem d_hsh_3 : decode prog_29_method_8_code 3 = .ok (.getfield 25, 3) := by decide +kernel
theorem d_hsh_6 : decode prog_29_method_8_code 6 = .ok (.istore_n 2, 1) := by decide +kernel
theorem d_hsh_7 : decode prog_29_method_8_code 7 = .ok (.iload_n 2, 1) := by decide +kernel
theorem d_hsh_8 : decode prog_29_method_8_code 8 = .ok (.aload_n 0, 1) := by decide +kernel
theorem d_hsh_9 : decode prog_29_method_8_code 9 = .ok (.getfield 29, 3) := by decide +kernel
theorem d_hsh_12 : decode prog_29_method_8_code 12 = .ok (.if_icmp .ge 23, 3) := by decide +kernel
theorem d_hsh_15 : decode prog_29_method_8_code 15 = .ok (.bipush 31, 2) := by decide +kernel
theorem d_hsh_17 : decode prog_29_method_8_code 17 = .ok (.iload_n 1, 1) := by decide +kernel
theorem d_hsh_18 : decode prog_29_method_8_code 18 = .ok (.imul, 1) := by decide +kernel
theorem d_hsh_19 : decode prog_29_method_8_code 19 = .ok (.aload_n 0, 1) := by decide +kernel
theorem d_hsh_20 : decode prog_29_method_8_code 20 = .ok (.getfield 19, 3) := by decide +kernel
theorem d_hsh_23 : decode prog_29_method_8_code 23 = .ok (.iload_n 2, 1) := by decide +kernel
theorem d_hsh_24 : decode prog_29_method_8_code 24 = .ok (.invokevirtual 37, 3) := by decide +kernel
theorem d_hsh_27 : decode prog_29_method_8_code 27 = .ok (.iadd, 1) := by decide +kernel
theorem d_hsh_28 : decode prog_29_method_8_code 28 = .ok (.istore_n 1, 1) := by decide +kernel
theorem d_hsh_29 : decode prog_29_method_8_code 29 = .ok (.iinc 2 1, 3) := by decide +kernel
theorem d_hsh_32 : decode prog_29_method_8_code 32 = .ok (.goto (-25), 3) := by decide +kernel
theorem d_hsh_35 : decode prog_29_method_8_code 35 = .ok (.iload_n 1, 1) := by decide +kernel
theorem d_hsh_36 : decode prog_29_method_8_code 36 = .ok (.ireturn, 1) := by decide +kernel
theorem pd18 : parseMethodDescriptor "(I)C" = some ⟨[.int], some .char⟩ := by decide +kernel
theorem ef_hsh (m : MethodId) (a0 : Addr) : entryFrame m #[(.ref a0)] 3 = mkF m 0 #[.val (.ref a0), .unset, .unset] [] := by first | (simp [entryFrame, mkF, argsToLocals, Value.category]; done) | rfl
def F_hsh (x : Int32) (y : Int32) (c0 : Int32) (c1 : Int32) (c2 : Int32) (c3 : Int32) (c4 : Int32) : Int32 := if x = (0 : Int32) then (if y = (0 : Int32) then ((0 : Int32)) else (if y = (1 : Int32) then (((0 : Int32) + c0)) else (if y = (2 : Int32) then ((((31 : Int32) * ((0 : Int32) + c0)) + c1)) else (if y = (3 : Int32) then ((((31 : Int32) * (((31 : Int32) * ((0 : Int32) + c0)) + c1)) + c2)) else (if y = (4 : Int32) then ((((31 : Int32) * (((31 : Int32) * (((31 : Int32) * ((0 : Int32) + c0)) + c1)) + c2)) + c3)) else (if y = (5 : Int32) then ((((31 : Int32) * (((31 : Int32) * (((31 : Int32) * (((31 : Int32) * ((0 : Int32) + c0)) + c1)) + c2)) + c3)) + c4)) else ((0 : Int32)))))))) else (if x = (1 : Int32) then (if y = (0 : Int32) then ((0 : Int32)) else (if y = (1 : Int32) then ((0 : Int32)) else (if y = (2 : Int32) then (((0 : Int32) + c1)) else (if y = (3 : Int32) then ((((31 : Int32) * ((0 : Int32) + c1)) + c2)) else (if y = (4 : Int32) then ((((31 : Int32) * (((31 : Int32) * ((0 : Int32) + c1)) + c2)) + c3)) else (if y = (5 : Int32) then ((((31 : Int32) * (((31 : Int32) * (((31 : Int32) * ((0 : Int32) + c1)) + c2)) + c3)) + c4)) else ((0 : Int32)))))))) else (if x = (2 : Int32) then (if y = (0 : Int32) then ((0 : Int32)) else (if y = (1 : Int32) then ((0 : Int32)) else (if y = (2 : Int32) then ((0 : Int32)) else (if y = (3 : Int32) then (((0 : Int32) + c2)) else (if y = (4 : Int32) then ((((31 : Int32) * ((0 : Int32) + c2)) + c3)) else (if y = (5 : Int32) then ((((31 : Int32) * (((31 : Int32) * ((0 : Int32) + c2)) + c3)) + c4)) else ((0 : Int32)))))))) else (if x = (3 : Int32) then (if y = (0 : Int32) then ((0 : Int32)) else (if y = (1 : Int32) then ((0 : Int32)) else (if y = (2 : Int32) then ((0 : Int32)) else (if y = (3 : Int32) then ((0 : Int32)) else (if y = (4 : Int32) then (((0 : Int32) + c3)) else (if y = (5 : Int32) then ((((31 : Int32) * ((0 : Int32) + c3)) + c4)) else ((0 : Int32)))))))) else (if x = (4 : Int32) then (if y = (0 : Int32) then ((0 : Int32)) else (if y = (1 : Int32) then ((0 : Int32)) else (if y = (2 : Int32) then ((0 : Int32)) else (if y = (3 : Int32) then ((0 : Int32)) else (if y = (4 : Int32) then ((0 : Int32)) else (if y = (5 : Int32) then (((0 : Int32) + c4)) else ((0 : Int32)))))))) else (if x = (5 : Int32) then (if y = (0 : Int32) then ((0 : Int32)) else (if y = (1 : Int32) then ((0 : Int32)) else (if y = (2 : Int32) then ((0 : Int32)) else (if y = (3 : Int32) then ((0 : Int32)) else (if y = (4 : Int32) then ((0 : Int32)) else (if y = (5 : Int32) then ((0 : Int32)) else ((0 : Int32)))))))) else ((0 : Int32)))))))
def Q_hsh (Z : State) (a0 : Addr) (x : Int32) (y : Int32) (ax : Addr) (ob : Addr) (kb : ClassId) (cd : Int32) (n : Int32) (vs : List Value) (c0 : Int32) (c1 : Int32) (c2 : Int32) (c3 : Int32) (c4 : Int32) (g1 : Int32) (w1 : Value) (h0 : Heap) (n0 : Nat) (v : Option Value) (h : Heap) (L : List Loc) : Prop := v = some (.int (F_hsh x y c0 c1 c2 c3 c4)) ∧ Fr n0 L ∧ h = h0
set_option maxRecDepth 65536 in
set_option maxHeartbeats 40000000 in
theorem rm_hsh (l : Launch) (Z : State) (aT : Array Value) (hw : ∀ d ∈ tables_1, d.before aT Z = true) (ws : List Jvm.Cond) (a0 : Addr) (x : Int32) (y : Int32) (ax : Addr) (ob : Addr) (kb : ClassId) (cd : Int32) (n : Int32) (vs : List Value) (c0 : Int32) (c1 : Int32) (c2 : Int32) (c3 : Int32) (c4 : Int32) (g1 : Int32) (w1 : Value) (h0 : Heap) (n0 : Nat) (Z0 : n0 ≤ h0.size) (hp0 : Exa Z h0 a0 "com/example/lexsign/lexsign/json/JsonString") (hp1 : Fld Z h0 a0 "com/example/lexsign/lexsign/json/TextSpan" "text" "Ljava/lang/String;" (.ref ax)) (hp2 : Fld Z h0 a0 "com/example/lexsign/lexsign/json/TextSpan" "start" "I" (.int x)) (hp3 : Fld Z h0 a0 "com/example/lexsign/lexsign/json/TextSpan" "end" "I" (.int y)) (hp4 : Exa Z h0 ax "java/lang/String") (hp5 : Fld Z h0 ax "java/lang/String" "coder" "B" (.int cd)) (hp6 : Fld Z h0 ax "java/lang/String" "value" "[B" (.ref ob)) (hp7 : Arv Z h0 ob kb .byte n vs (.int (0 : Int32))) (hp8 : Sta Z h0 "java/lang/String" "COMPACT_STRINGS" "Z" (.int g1)) (hp9 : Sta Z h0 "jdk/internal/util/Preconditions" "SIOOBE_FORMATTER" "Ljava/util/function/BiFunction;" w1) (hp10 : Sta Z h0 "java/lang/StringUTF16" "$assertionsDisabled" "Z" (.int (1 : Int32))) (hp11 : Sta Z h0 "java/lang/StringUTF16" "HI_BYTE_SHIFT" "I" (.int (0 : Int32))) (hp12 : Sta Z h0 "java/lang/StringUTF16" "LO_BYTE_SHIFT" "I" (.int (8 : Int32))) (hg1 : ¬ (g1 = (0 : Int32))) (hch : own_ch cd n vs c0 c1 c2 c3 c4) (hw1 : w1.isRef = true) (hse : own_se x y) (hr0 : own_chr c0) (hr1 : own_chr c1) (hr2 : own_chr c2) (hr3 : own_chr c3) (hr4 : own_chr c4) :
    MetFree l mN3 (head1 (Jvm.Cond.code mN3 prog_29_method_8_code 3 (some .int) :: ws) ({ frames := 5, cells := 0, slots := 0, locals := 67 } : Room)) (fun a U => a = #[(.ref a0)] ∧ Z.Warmed39 U.vm ∧ U.heap = h0) (fun _ _ _ _ _ => True) (fun _ U o U' => ∃ v L, o = .returned v ∧ Q_hsh Z a0 x y ax ob kb cd n vs c0 c1 c2 c3 c4 g1 w1 h0 n0 v U'.heap L ∧ FrameEnd U o U' L ({ frames := 5, cells := 0, slots := 0, locals := 67 } : Room).cells ({ frames := 5, cells := 0, slots := 0, locals := 67 } : Room).slots) := by
  refine MetFree.of_bodySF (plainFor_of_name pn5) hisR ?_
  intro p e s m args below meth c s₁ Bd hml0 hP hK
  obtain ⟨rfl, hZ, hh⟩ := hP
  have hx := Bd.exec
  have hby := Bd.bytes
  have hml : c.maxLocals = 3 := hml0
  have hown : s.vm.findClass "com/example/lexsign/lexsign/json/TextSpan" = some m.cls := findClass_of_methodNamed Bd.named
  have hnm := (name_of_methodNamed Bd.named Bd.method).1
  have hlk := Bd.notSynchronized
  have hrt := Bd.returns
  have X0 : Stand p l e ({ frames := 5, cells := 0, slots := 0, locals := 67 } : Room) s m #[(.ref a0)] below meth c s₁ [] 0 0 := Stand.of_body Bd
  have e0 : s₁.heap = h0 := by rw [← hh, Bd.state]; rfl
  have N0 := Fr.nil n0
  refine own_cast (P := own_End s (Q_hsh Z a0 x y ax ob kb cd n vs c0 c1 c2 c3 c4 g1 w1 h0 n0) ({ frames := 5, cells := 0, slots := 0, locals := 67 } : Room).cells ({ frames := 5, cells := 0, slots := 0, locals := 67 } : Room).slots) (ef_hsh m a0) ?_
  by_cases c356 : x = (0 : Int32)
  · have r357 : Fld Z h0 a0 "com/example/lexsign/lexsign/json/TextSpan" "start" "I" (.int (0 : Int32)) := by have q := hp2; rw [c356] at q; exact q
    by_cases c358 : y = (0 : Int32)
    · have r359 : Fld Z h0 a0 "com/example/lexsign/lexsign/json/TextSpan" "end" "I" (.int (0 : Int32)) := by have q := hp3; rw [c358] at q; exact q
      refine g_iconst X0 hx hby (0 : Int32) d_hsh_0 (by decide) (rfl : 0 + 1 = 1) ?_
      refine g_istoreN X0 hx hby #[.val (.ref a0), .val (.int (0 : Int32)), .unset] d_hsh_1 rfl (rfl : 1 + 1 = 2) ?_
      refine g_aloadN X0 hx hby d_hsh_2 rfl rfl (rfl : 2 + 1 = 3) ?_
      obtain ⟨T360, X360, e360, st360⟩ := getF X0 hx hZ hown (host := "") (Or.inl (hw _ (own_M 62 rfl))) Via.refl e0 r357 (g := (mkF m 3 #[.val (.ref a0), .val (.int (0 : Int32)), .unset] [(.ref a0)])) rfl rfl (hb hby d_hsh_3)
      refine own_go st360 ?_
      show own_Got p e below _ T360 (mkF m 6 #[.val (.ref a0), .val (.int (0 : Int32)), .unset] [(.int (0 : Int32))])
      refine g_istoreN X360 hx hby #[.val (.ref a0), .val (.int (0 : Int32)), .val (.int (0 : Int32))] d_hsh_6 rfl (rfl : 6 + 1 = 7) ?_
      refine g_iloadN X360 hx hby d_hsh_7 rfl (rfl : 7 + 1 = 8) ?_
      refine g_aloadN X360 hx hby d_hsh_8 rfl rfl (rfl : 8 + 1 = 9) ?_
      obtain ⟨T361, X361, e361, st361⟩ := getF X360 hx hZ hown (host := "") (Or.inl (hw _ (own_M 64 rfl))) Via.refl e360 r359 (g := (mkF m 9 #[.val (.ref a0), .val (.int (0 : Int32)), .val (.int (0 : Int32))] [(.ref a0), (.int (0 : Int32))])) rfl rfl (hb hby d_hsh_9)
      refine own_go st361 ?_
      show own_Got p e below _ T361 (mkF m 12 #[.val (.ref a0), .val (.int (0 : Int32)), .val (.int (0 : Int32))] [(.int (0 : Int32)), (.int (0 : Int32))])
      refine g_icT X361 hx hby d_hsh_12 (flt (by decide : ¬ ((0 : Int32) < (0 : Int32)))).2.1 (by decide) (pc' := 35) (by decide) ?_
      refine g_iloadN X361 hx hby d_hsh_35 rfl (rfl : 35 + 1 = 36) ?_
      refine own_retI X361 hx hby hlk hrt d_hsh_36 (by decide) (by decide) ?_
      show Q_hsh Z a0 x y ax ob kb cd n vs c0 c1 c2 c3 c4 g1 w1 h0 n0 _ T361.heap _
      exact ⟨(congrArg (fun z => some (Value.int z)) (by rw [F_hsh, if_pos c356, if_pos c358] <;> rfl)), N0, e361⟩
    · by_cases c362 : y = (1 : Int32)
      · have r363 : Fld Z h0 a0 "com/example/lexsign/lexsign/json/TextSpan" "end" "I" (.int (1 : Int32)) := by have q := hp3; rw [c362] at q; exact q
        refine g_iconst X0 hx hby (0 : Int32) d_hsh_0 (by decide) (rfl : 0 + 1 = 1) ?_
        refine g_istoreN X0 hx hby #[.val (.ref a0), .val (.int (0 : Int32)), .unset] d_hsh_1 rfl (rfl : 1 + 1 = 2) ?_
        refine g_aloadN X0 hx hby d_hsh_2 rfl rfl (rfl : 2 + 1 = 3) ?_
        obtain ⟨T364, X364, e364, st364⟩ := getF X0 hx hZ hown (host := "") (Or.inl (hw _ (own_M 62 rfl))) Via.refl e0 r357 (g := (mkF m 3 #[.val (.ref a0), .val (.int (0 : Int32)), .unset] [(.ref a0)])) rfl rfl (hb hby d_hsh_3)
        refine own_go st364 ?_
        show own_Got p e below _ T364 (mkF m 6 #[.val (.ref a0), .val (.int (0 : Int32)), .unset] [(.int (0 : Int32))])
        refine g_istoreN X364 hx hby #[.val (.ref a0), .val (.int (0 : Int32)), .val (.int (0 : Int32))] d_hsh_6 rfl (rfl : 6 + 1 = 7) ?_
        refine g_iloadN X364 hx hby d_hsh_7 rfl (rfl : 7 + 1 = 8) ?_
        refine g_aloadN X364 hx hby d_hsh_8 rfl rfl (rfl : 8 + 1 = 9) ?_
        obtain ⟨T365, X365, e365, st365⟩ := getF X364 hx hZ hown (host := "") (Or.inl (hw _ (own_M 64 rfl))) Via.refl e364 r363 (g := (mkF m 9 #[.val (.ref a0), .val (.int (0 : Int32)), .val (.int (0 : Int32))] [(.ref a0), (.int (0 : Int32))])) rfl rfl (hb hby d_hsh_9)
        refine own_go st365 ?_
        show own_Got p e below _ T365 (mkF m 12 #[.val (.ref a0), .val (.int (0 : Int32)), .val (.int (0 : Int32))] [(.int (1 : Int32)), (.int (0 : Int32))])
        refine g_icF X365 hx hby d_hsh_12 (tlt (by decide : (0 : Int32) < (1 : Int32))).2.1 (rfl : 12 + 3 = 15) ?_
        refine g_bipush X365 hx hby (31 : Int32) d_hsh_15 (by decide) (rfl : 15 + 2 = 17) ?_
        refine g_iloadN X365 hx hby d_hsh_17 rfl (rfl : 17 + 1 = 18) ?_
        refine g_imul X365 hx hby d_hsh_18 (rfl : 18 + 1 = 19) ?_
        rw [(by decide : ((31 : Int32) * (0 : Int32)) = (0 : Int32))]
        refine g_aloadN X365 hx hby d_hsh_19 rfl rfl (rfl : 19 + 1 = 20) ?_
        obtain ⟨T366, X366, e366, st366⟩ := getF X365 hx hZ hown (host := "") (Or.inl (hw _ (own_M 60 rfl))) Via.refl e365 hp1 (g := (mkF m 20 #[.val (.ref a0), .val (.int (0 : Int32)), .val (.int (0 : Int32))] [(.ref a0), (.int (0 : Int32))])) rfl rfl (hb hby d_hsh_20)
        refine own_go st366 ?_
        show own_Got p e below _ T366 (mkF m 23 #[.val (.ref a0), .val (.int (0 : Int32)), .val (.int (0 : Int32))] [(.ref ax), (.int (0 : Int32))])
        refine g_iloadN X366 hx hby d_hsh_23 rfl (rfl : 23 + 1 = 24) ?_
        obtain ⟨cq367, kq367, q367a, q367b, q367c⟩ := isOf hZ e366 hp4
        obtain ⟨_, _, ⟨T367, L367, k367, n367⟩, -, X367, ⟨Lc367, hQ367, l367, y367, z367⟩, st367⟩ := X366.virtualBack hx (y := mN7) (z := mN7) hown (mvT hZ (hw _ (own_M 82 rfl))) (mvT hZ (hw _ (own_M 83 rfl))) (notFace_of_selects (args := #[]) (mvT hZ (hw _ (own_M 85 rfl)))) (mvT hZ (hw _ (own_M 85 rfl))) (mvT hZ (hw _ (own_M 84 rfl))) (by decide) (backOf (W := 1) (rm_cha0 l Z aT hw [] ax ob kb cd n vs _ _ _ _ _ g1 w1 h0 n0 Z0 hp4 hp5 hp6 hp7 hp8 hp9 hp10 hp11 hp12 hg1 hch hr0 hw1) hZ (hw _ (own_M 86 rfl)) (hw _ (own_M 3 rfl)) (by decide) (by decide)) q367a q367c (g := (mkF m 24 #[.val (.ref a0), .val (.int (0 : Int32)), .val (.int (0 : Int32))] [(.int (0 : Int32)), (.ref ax), (.int (0 : Int32))])) rfl (by rw [hml]; rfl) (Steps.refl _) (argsL := [(.int (0 : Int32))]) (rest := [(.int (0 : Int32))]) (lenOf pd18 rfl) rfl (by show 2 * 0 + _ ≤ _; exact Nat.le_of_eq rfl) (hb hby d_hsh_24) (fun _ _ => ⟨rfl, e366, (by decide : 0 + 0 ≤ _), (by decide : 0 + 0 ≤ _)⟩)
        dsimp only [Pt.U, Pt.locs, Pt.cells, Pt.slots] at X367 l367 y367 z367 st367 hQ367
        subst l367 y367 z367
        obtain ⟨rfl, N367q, eq367⟩ := hQ367
        have N367 := Fr.app N0 N367q
        refine own_tr st367 ?_
        show own_Got p e below _ T367 (mkF m 27 #[.val (.ref a0), .val (.int (0 : Int32)), .val (.int (0 : Int32))] [(.int c0), (.int (0 : Int32))])
        refine g_iadd X367 hx hby d_hsh_27 (rfl : 27 + 1 = 28) ?_
        refine g_istoreN X367 hx hby #[.val (.ref a0), .val (.int ((0 : Int32) + c0)), .val (.int (0 : Int32))] d_hsh_28 rfl (rfl : 28 + 1 = 29) ?_
        refine g_iinc X367 hx hby #[.val (.ref a0), .val (.int ((0 : Int32) + c0)), .val (.int ((0 : Int32) + (1 : Int32)))] d_hsh_29 rfl rfl (rfl : 29 + 3 = 32) ?_
        rw [(by decide : ((0 : Int32) + (1 : Int32)) = (1 : Int32))]
        refine g_goto X367 hx hby d_hsh_32 (by decide) (pc' := 7) (by decide) ?_
        refine g_iloadN X367 hx hby d_hsh_7 rfl (rfl : 7 + 1 = 8) ?_
        refine g_aloadN X367 hx hby d_hsh_8 rfl rfl (rfl : 8 + 1 = 9) ?_
        obtain ⟨T368, X368, e368, st368⟩ := getF X367 hx hZ hown (host := "") (Or.inl (hw _ (own_M 64 rfl))) Via.refl eq367 r363 (g := (mkF m 9 #[.val (.ref a0), .val (.int ((0 : Int32) + c0)), .val (.int (1 : Int32))] [(.ref a0), (.int (1 : Int32))])) rfl rfl (hb hby d_hsh_9)
        refine own_go st368 ?_
        show own_Got p e below _ T368 (mkF m 12 #[.val (.ref a0), .val (.int ((0 : Int32) + c0)), .val (.int (1 : Int32))] [(.int (1 : Int32)), (.int (1 : Int32))])
        refine g_icT X368 hx hby d_hsh_12 (flt (by decide : ¬ ((1 : Int32) < (1 : Int32)))).2.1 (by decide) (pc' := 35) (by decide) ?_
        refine g_iloadN X368 hx hby d_hsh_35 rfl (rfl : 35 + 1 = 36) ?_
        refine own_retI X368 hx hby hlk hrt d_hsh_36 (by decide) (by decide) ?_
        show Q_hsh Z a0 x y ax ob kb cd n vs c0 c1 c2 c3 c4 g1 w1 h0 n0 _ T368.heap _
        exact ⟨(congrArg (fun z => some (Value.int z)) (by rw [F_hsh, if_pos c356, if_neg c358, if_pos c362] <;> rfl)), N367, e368⟩
      · by_cases c369 : y = (2 : Int32)
        · have r370 : Fld Z h0 a0 "com/example/lexsign/lexsign/json/TextSpan" "end" "I" (.int (2 : Int32)) := by have q := hp3; rw [c369] at q; exact q
          refine g_iconst X0 hx hby (0 : Int32) d_hsh_0 (by decide) (rfl : 0 + 1 = 1) ?_
          refine g_istoreN X0 hx hby #[.val (.ref a0), .val (.int (0 : Int32)), .unset] d_hsh_1 rfl (rfl : 1 + 1 = 2) ?_
          refine g_aloadN X0 hx hby d_hsh_2 rfl rfl (rfl : 2 + 1 = 3) ?_
          obtain ⟨T371, X371, e371, st371⟩ := getF X0 hx hZ hown (host := "") (Or.inl (hw _ (own_M 62 rfl))) Via.refl e0 r357 (g := (mkF m 3 #[.val (.ref a0), .val (.int (0 : Int32)), .unset] [(.ref a0)])) rfl rfl (hb hby d_hsh_3)
          refine own_go st371 ?_
          show own_Got p e below _ T371 (mkF m 6 #[.val (.ref a0), .val (.int (0 : Int32)), .unset] [(.int (0 : Int32))])
          refine g_istoreN X371 hx hby #[.val (.ref a0), .val (.int (0 : Int32)), .val (.int (0 : Int32))] d_hsh_6 rfl (rfl : 6 + 1 = 7) ?_
          refine g_iloadN X371 hx hby d_hsh_7 rfl (rfl : 7 + 1 = 8) ?_
          refine g_aloadN X371 hx hby d_hsh_8 rfl rfl (rfl : 8 + 1 = 9) ?_
          obtain ⟨T372, X372, e372, st372⟩ := getF X371 hx hZ hown (host := "") (Or.inl (hw _ (own_M 64 rfl))) Via.refl e371 r370 (g := (mkF m 9 #[.val (.ref a0), .val (.int (0 : Int32)), .val (.int (0 : Int32))] [(.ref a0), (.int (0 : Int32))])) rfl rfl (hb hby d_hsh_9)
          refine own_go st372 ?_
          show own_Got p e below _ T372 (mkF m 12 #[.val (.ref a0), .val (.int (0 : Int32)), .val (.int (0 : Int32))] [(.int (2 : Int32)), (.int (0 : Int32))])
          refine g_icF X372 hx hby d_hsh_12 (tlt (by decide : (0 : Int32) < (2 : Int32))).2.1 (rfl : 12 + 3 = 15) ?_
          refine g_bipush X372 hx hby (31 : Int32) d_hsh_15 (by decide) (rfl : 15 + 2 = 17) ?_
          refine g_iloadN X372 hx hby d_hsh_17 rfl (rfl : 17 + 1 = 18) ?_
          refine g_imul X372 hx hby d_hsh_18 (rfl : 18 + 1 = 19) ?_
          rw [(by decide : ((31 : Int32) * (0 : Int32)) = (0 : Int32))]
          refine g_aloadN X372 hx hby d_hsh_19 rfl rfl (rfl : 19 + 1 = 20) ?_
          obtain ⟨T373, X373, e373, st373⟩ := getF X372 hx hZ hown (host := "") (Or.inl (hw _ (own_M 60 rfl))) Via.refl e372 hp1 (g := (mkF m 20 #[.val (.ref a0), .val (.int (0 : Int32)), .val (.int (0 : Int32))] [(.ref a0), (.int (0 : Int32))])) rfl rfl (hb hby d_hsh_20)
          refine own_go st373 ?_
          show own_Got p e below _ T373 (mkF m 23 #[.val (.ref a0), .val (.int (0 : Int32)), .val (.int (0 : Int32))] [(.ref ax), (.int (0 : Int32))])
          refine g_iloadN X373 hx hby d_hsh_23 rfl (rfl : 23 + 1 = 24) ?_
          obtain ⟨cq374, kq374, q374a, q374b, q374c⟩ := isOf hZ e373 hp4
          obtain ⟨_, _, ⟨T374, L374, k374, n374⟩, -, X374, ⟨Lc374, hQ374, l374, y374, z374⟩, st374⟩ := X373.virtualBack hx (y := mN7) (z := mN7) hown (mvT hZ (hw _ (own_M 82 rfl))) (mvT hZ (hw _ (own_M 83 rfl))) (notFace_of_selects (args := #[]) (mvT hZ (hw _ (own_M 85 rfl)))) (mvT hZ (hw _ (own_M 85 rfl))) (mvT hZ (hw _ (own_M 84 rfl))) (by decide) (backOf (W := 1) (rm_cha0 l Z aT hw [] ax ob kb cd n vs _ _ _ _ _ g1 w1 h0 n0 Z0 hp4 hp5 hp6 hp7 hp8 hp9 hp10 hp11 hp12 hg1 hch hr0 hw1) hZ (hw _ (own_M 86 rfl)) (hw _ (own_M 3 rfl)) (by decide) (by decide)) q374a q374c (g := (mkF m 24 #[.val (.ref a0), .val (.int (0 : Int32)), .val (.int (0 : Int32))] [(.int (0 : Int32)), (.ref ax), (.int (0 : Int32))])) rfl (by rw [hml]; rfl) (Steps.refl _) (argsL := [(.int (0 : Int32))]) (rest := [(.int (0 : Int32))]) (lenOf pd18 rfl) rfl (by show 2 * 0 + _ ≤ _; exact Nat.le_of_eq rfl) (hb hby d_hsh_24) (fun _ _ => ⟨rfl, e373, (by decide : 0 + 0 ≤ _), (by decide : 0 + 0 ≤ _)⟩)
          dsimp only [Pt.U, Pt.locs, Pt.cells, Pt.slots] at X374 l374 y374 z374 st374 hQ374
          subst l374 y374 z374
          obtain ⟨rfl, N374q, eq374⟩ := hQ374
          have N374 := Fr.app N0 N374q
          refine own_tr st374 ?_
          show own_Got p e below _ T374 (mkF m 27 #[.val (.ref a0), .val (.int (0 : Int32)), .val (.int (0 : Int32))] [(.int c0), (.int (0 : Int32))])
          refine g_iadd X374 hx hby d_hsh_27 (rfl : 27 + 1 = 28) ?_
          refine g_istoreN X374 hx hby #[.val (.ref a0), .val (.int ((0 : Int32) + c0)), .val (.int (0 : Int32))] d_hsh_28 rfl (rfl : 28 + 1 = 29) ?_
          refine g_iinc X374 hx hby #[.val (.ref a0), .val (.int ((0 : Int32) + c0)), .val (.int ((0 : Int32) + (1 : Int32)))] d_hsh_29 rfl rfl (rfl : 29 + 3 = 32) ?_
          rw [(by decide : ((0 : Int32) + (1 : Int32)) = (1 : Int32))]
          refine g_goto X374 hx hby d_hsh_32 (by decide) (pc' := 7) (by decide) ?_
          refine g_iloadN X374 hx hby d_hsh_7 rfl (rfl : 7 + 1 = 8) ?_
          refine g_aloadN X374 hx hby d_hsh_8 rfl rfl (rfl : 8 + 1 = 9) ?_
          obtain ⟨T375, X375, e375, st375⟩ := getF X374 hx hZ hown (host := "") (Or.inl (hw _ (own_M 64 rfl))) Via.refl eq374 r370 (g := (mkF m 9 #[.val (.ref a0), .val (.int ((0 : Int32) + c0)), .val (.int (1 : Int32))] [(.ref a0), (.int (1 : Int32))])) rfl rfl (hb hby d_hsh_9)
          refine own_go st375 ?_
          show own_Got p e below _ T375 (mkF m 12 #[.val (.ref a0), .val (.int ((0 : Int32) + c0)), .val (.int (1 : Int32))] [(.int (2 : Int32)), (.int (1 : Int32))])
          refine g_icF X375 hx hby d_hsh_12 (tlt (by decide : (1 : Int32) < (2 : Int32))).2.1 (rfl : 12 + 3 = 15) ?_
          refine g_bipush X375 hx hby (31 : Int32) d_hsh_15 (by decide) (rfl : 15 + 2 = 17) ?_
          refine g_iloadN X375 hx hby d_hsh_17 rfl (rfl : 17 + 1 = 18) ?_
          refine g_imul X375 hx hby d_hsh_18 (rfl : 18 + 1 = 19) ?_
          refine g_aloadN X375 hx hby d_hsh_19 rfl rfl (rfl : 19 + 1 = 20) ?_
          obtain ⟨T376, X376, e376, st376⟩ := getF X375 hx hZ hown (host := "") (Or.inl (hw _ (own_M 60 rfl))) Via.refl e375 hp1 (g := (mkF m 20 #[.val (.ref a0), .val (.int ((0 : Int32) + c0)), .val (.int (1 : Int32))] [(.ref a0), (.int ((31 : Int32) * ((0 : Int32) + c0)))])) rfl rfl (hb hby d_hsh_20)
          refine own_go st376 ?_
          show own_Got p e below _ T376 (mkF m 23 #[.val (.ref a0), .val (.int ((0 : Int32) + c0)), .val (.int (1 : Int32))] [(.ref ax), (.int ((31 : Int32) * ((0 : Int32) + c0)))])
          refine g_iloadN X376 hx hby d_hsh_23 rfl (rfl : 23 + 1 = 24) ?_
          obtain ⟨cq377, kq377, q377a, q377b, q377c⟩ := isOf hZ e376 hp4
          obtain ⟨_, _, ⟨T377, L377, k377, n377⟩, -, X377, ⟨Lc377, hQ377, l377, y377, z377⟩, st377⟩ := X376.virtualBack hx (y := mN7) (z := mN7) hown (mvT hZ (hw _ (own_M 82 rfl))) (mvT hZ (hw _ (own_M 83 rfl))) (notFace_of_selects (args := #[]) (mvT hZ (hw _ (own_M 85 rfl)))) (mvT hZ (hw _ (own_M 85 rfl))) (mvT hZ (hw _ (own_M 84 rfl))) (by decide) (backOf (W := 1) (rm_cha1 l Z aT hw [] ax ob kb cd n vs _ _ _ _ _ g1 w1 h0 n0 Z0 hp4 hp5 hp6 hp7 hp8 hp9 hp10 hp11 hp12 hg1 hch hr1 hw1) hZ (hw _ (own_M 86 rfl)) (hw _ (own_M 3 rfl)) (by decide) (by decide)) q377a q377c (g := (mkF m 24 #[.val (.ref a0), .val (.int ((0 : Int32) + c0)), .val (.int (1 : Int32))] [(.int (1 : Int32)), (.ref ax), (.int ((31 : Int32) * ((0 : Int32) + c0)))])) rfl (by rw [hml]; rfl) (Steps.refl _) (argsL := [(.int (1 : Int32))]) (rest := [(.int ((31 : Int32) * ((0 : Int32) + c0)))]) (lenOf pd18 rfl) rfl (by show 2 * 0 + _ ≤ _; exact Nat.le_of_eq rfl) (hb hby d_hsh_24) (fun _ _ => ⟨rfl, e376, (by decide : 0 + 0 ≤ _), (by decide : 0 + 0 ≤ _)⟩)
          dsimp only [Pt.U, Pt.locs, Pt.cells, Pt.slots] at X377 l377 y377 z377 st377 hQ377
          subst l377 y377 z377
          obtain ⟨rfl, N377q, eq377⟩ := hQ377
          have N377 := Fr.app N374 N377q
          refine own_tr st377 ?_
          show own_Got p e below _ T377 (mkF m 27 #[.val (.ref a0), .val (.int ((0 : Int32) + c0)), .val (.int (1 : Int32))] [(.int c1), (.int ((31 : Int32) * ((0 : Int32) + c0)))])
          refine g_iadd X377 hx hby d_hsh_27 (rfl : 27 + 1 = 28) ?_
          refine g_istoreN X377 hx hby #[.val (.ref a0), .val (.int (((31 : Int32) * ((0 : Int32) + c0)) + c1)), .val (.int (1 : Int32))] d_hsh_28 rfl (rfl : 28 + 1 = 29) ?_
          refine g_iinc X377 hx hby #[.val (.ref a0), .val (.int (((31 : Int32) * ((0 : Int32) + c0)) + c1)), .val (.int ((1 : Int32) + (1 : Int32)))] d_hsh_29 rfl rfl (rfl : 29 + 3 = 32) ?_
          rw [(by decide : ((1 : Int32) + (1 : Int32)) = (2 : Int32))]
          refine g_goto X377 hx hby d_hsh_32 (by decide) (pc' := 7) (by decide) ?_
          refine g_iloadN X377 hx hby d_hsh_7 rfl (rfl : 7 + 1 = 8) ?_
          refine g_aloadN X377 hx hby d_hsh_8 rfl rfl (rfl : 8 + 1 = 9) ?_
          obtain ⟨T378, X378, e378, st378⟩ := getF X377 hx hZ hown (host := "") (Or.inl (hw _ (own_M 64 rfl))) Via.refl eq377 r370 (g := (mkF m 9 #[.val (.ref a0), .val (.int (((31 : Int32) * ((0 : Int32) + c0)) + c1)), .val (.int (2 : Int32))] [(.ref a0), (.int (2 : Int32))])) rfl rfl (hb hby d_hsh_9)
          refine own_go st378 ?_
          show own_Got p e below _ T378 (mkF m 12 #[.val (.ref a0), .val (.int (((31 : Int32) * ((0 : Int32) + c0)) + c1)), .val (.int (2 : Int32))] [(.int (2 : Int32)), (.int (2 : Int32))])
          refine g_icT X378 hx hby d_hsh_12 (flt (by decide : ¬ ((2 : Int32) < (2 : Int32)))).2.1 (by decide) (pc' := 35) (by decide) ?_
          refine g_iloadN X378 hx hby d_hsh_35 rfl (rfl : 35 + 1 = 36) ?_
          refine own_retI X378 hx hby hlk hrt d_hsh_36 (by decide) (by decide) ?_
          show Q_hsh Z a0 x y ax ob kb cd n vs c0 c1 c2 c3 c4 g1 w1 h0 n0 _ T378.heap _
          exact ⟨(congrArg (fun z => some (Value.int z)) (by rw [F_hsh, if_pos c356, if_neg c358, if_neg c362, if_pos c369] <;> rfl)), N377, e378⟩
        · by_cases c379 : y = (3 : Int32)
          · have r380 : Fld Z h0 a0 "com/example/lexsign/lexsign/json/TextSpan" "end" "I" (.int (3 : Int32)) := by have q := hp3; rw [c379] at q; exact q
            refine g_iconst X0 hx hby (0 : Int32) d_hsh_0 (by decide) (rfl : 0 + 1 = 1) ?_
            refine g_istoreN X0 hx hby #[.val (.ref a0), .val (.int (0 : Int32)), .unset] d_hsh_1 rfl (rfl : 1 + 1 = 2) ?_
            refine g_aloadN X0 hx hby d_hsh_2 rfl rfl (rfl : 2 + 1 = 3) ?_
            obtain ⟨T381, X381, e381, st381⟩ := getF X0 hx hZ hown (host := "") (Or.inl (hw _ (own_M 62 rfl))) Via.refl e0 r357 (g := (mkF m 3 #[.val (.ref a0), .val (.int (0 : Int32)), .unset] [(.ref a0)])) rfl rfl (hb hby d_hsh_3)
            refine own_go st381 ?_
            show own_Got p e below _ T381 (mkF m 6 #[.val (.ref a0), .val (.int (0 : Int32)), .unset] [(.int (0 : Int32))])
            refine g_istoreN X381 hx hby #[.val (.ref a0), .val (.int (0 : Int32)), .val (.int (0 : Int32))] d_hsh_6 rfl (rfl : 6 + 1 = 7) ?_
            refine g_iloadN X381 hx hby d_hsh_7 rfl (rfl : 7 + 1 = 8) ?_
            refine g_aloadN X381 hx hby d_hsh_8 rfl rfl (rfl : 8 + 1 = 9) ?_
            obtain ⟨T382, X382, e382, st382⟩ := getF X381 hx hZ hown (host := "") (Or.inl (hw _ (own_M 64 rfl))) Via.refl e381 r380 (g := (mkF m 9 #[.val (.ref a0), .val (.int (0 : Int32)), .val (.int (0 : Int32))] [(.ref a0), (.int (0 : Int32))])) rfl rfl (hb hby d_hsh_9)
            refine own_go st382 ?_
            show own_Got p e below _ T382 (mkF m 12 #[.val (.ref a0), .val (.int (0 : Int32)), .val (.int (0 : Int32))] [(.int (3 : Int32)), (.int (0 : Int32))])
            refine g_icF X382 hx hby d_hsh_12 (tlt (by decide : (0 : Int32) < (3 : Int32))).2.1 (rfl : 12 + 3 = 15) ?_
            refine g_bipush X382 hx hby (31 : Int32) d_hsh_15 (by decide) (rfl : 15 + 2 = 17) ?_
            refine g_iloadN X382 hx hby d_hsh_17 rfl (rfl : 17 + 1 = 18) ?_
            refine g_imul X382 hx hby d_hsh_18 (rfl : 18 + 1 = 19) ?_
            rw [(by decide : ((31 : Int32) * (0 : Int32)) = (0 : Int32))]
            refine g_aloadN X382 hx hby d_hsh_19 rfl rfl (rfl : 19 + 1 = 20) ?_
            obtain ⟨T383, X383, e383, st383⟩ := getF X382 hx hZ hown (host := "") (Or.inl (hw _ (own_M 60 rfl))) Via.refl e382 hp1 (g := (mkF m 20 #[.val (.ref a0), .val (.int (0 : Int32)), .val (.int (0 : Int32))] [(.ref a0), (.int (0 : Int32))])) rfl rfl (hb hby d_hsh_20)
            refine own_go st383 ?_
            show own_Got p e below _ T383 (mkF m 23 #[.val (.ref a0), .val (.int (0 : Int32)), .val (.int (0 : Int32))] [(.ref ax), (.int (0 : Int32))])
            refine g_iloadN X383 hx hby d_hsh_23 rfl (rfl : 23 + 1 = 24) ?_
            obtain ⟨cq384, kq384, q384a, q384b, q384c⟩ := isOf hZ e383 hp4
            obtain ⟨_, _, ⟨T384, L384, k384, n384⟩, -, X384, ⟨Lc384, hQ384, l384, y384, z384⟩, st384⟩ := X383.virtualBack hx (y := mN7) (z := mN7) hown (mvT hZ (hw _ (own_M 82 rfl))) (mvT hZ (hw _ (own_M 83 rfl))) (notFace_of_selects (args := #[]) (mvT hZ (hw _ (own_M 85 rfl)))) (mvT hZ (hw _ (own_M 85 rfl))) (mvT hZ (hw _ (own_M 84 rfl))) (by decide) (backOf (W := 1) (rm_cha0 l Z aT hw [] ax ob kb cd n vs _ _ _ _ _ g1 w1 h0 n0 Z0 hp4 hp5 hp6 hp7 hp8 hp9 hp10 hp11 hp12 hg1 hch hr0 hw1) hZ (hw _ (own_M 86 rfl)) (hw _ (own_M 3 rfl)) (by decide) (by decide)) q384a q384c (g := (mkF m 24 #[.val (.ref a0), .val (.int (0 : Int32)), .val (.int (0 : Int32))] [(.int (0 : Int32)), (.ref ax), (.int (0 : Int32))])) rfl (by rw [hml]; rfl) (Steps.refl _) (argsL := [(.int (0 : Int32))]) (rest := [(.int (0 : Int32))]) (lenOf pd18 rfl) rfl (by show 2 * 0 + _ ≤ _; exact Nat.le_of_eq rfl) (hb hby d_hsh_24) (fun _ _ => ⟨rfl, e383, (by decide : 0 + 0 ≤ _), (by decide : 0 + 0 ≤ _)⟩)
            dsimp only [Pt.U, Pt.locs, Pt.cells, Pt.slots] at X384 l384 y384 z384 st384 hQ384
            subst l384 y384 z384
            obtain ⟨rfl, N384q, eq384⟩ := hQ384
            have N384 := Fr.app N0 N384q
            refine own_tr st384 ?_
            show own_Got p e below _ T384 (mkF m 27 #[.val (.ref a0), .val (.int (0 : Int32)), .val (.int (0 : Int32))] [(.int c0), (.int (0 : Int32))])
            refine g_iadd X384 hx hby d_hsh_27 (rfl : 27 + 1 = 28) ?_
            refine g_istoreN X384 hx hby #[.val (.ref a0), .val (.int ((0 : Int32) + c0)), .val (.int (0 : Int32))] d_hsh_28 rfl (rfl : 28 + 1 = 29) ?_
            refine g_iinc X384 hx hby #[.val (.ref a0), .val (.int ((0 : Int32) + c0)), .val (.int ((0 : Int32) + (1 : Int32)))] d_hsh_29 rfl rfl (rfl : 29 + 3 = 32) ?_
            rw [(by decide : ((0 : Int32) + (1 : Int32)) = (1 : Int32))]
            refine g_goto X384 hx hby d_hsh_32 (by decide) (pc' := 7) (by decide) ?_
            refine g_iloadN X384 hx hby d_hsh_7 rfl (rfl : 7 + 1 = 8) ?_
            refine g_aloadN X384 hx hby d_hsh_8 rfl rfl (rfl : 8 + 1 = 9) ?_
            obtain ⟨T385, X385, e385, st385⟩ := getF X384 hx hZ hown (host := "") (Or.inl (hw _ (own_M 64 rfl))) Via.refl eq384 r380 (g := (mkF m 9 #[.val (.ref a0), .val (.int ((0 : Int32) + c0)), .val (.int (1 : Int32))] [(.ref a0), (.int (1 : Int32))])) rfl rfl (hb hby d_hsh_9)
            refine own_go st385 ?_
            show own_Got p e below _ T385 (mkF m 12 #[.val (.ref a0), .val (.int ((0 : Int32) + c0)), .val (.int (1 : Int32))] [(.int (3 : Int32)), (.int (1 : Int32))])
            refine g_icF X385 hx hby d_hsh_12 (tlt (by decide : (1 : Int32) < (3 : Int32))).2.1 (rfl : 12 + 3 = 15) ?_
            refine g_bipush X385 hx hby (31 : Int32) d_hsh_15 (by decide) (rfl : 15 + 2 = 17) ?_
            refine g_iloadN X385 hx hby d_hsh_17 rfl (rfl : 17 + 1 = 18) ?_
            refine g_imul X385 hx hby d_hsh_18 (rfl : 18 + 1 = 19) ?_
            refine g_aloadN X385 hx hby d_hsh_19 rfl rfl (rfl : 19 + 1 = 20) ?_
            obtain ⟨T386, X386, e386, st386⟩ := getF X385 hx hZ hown (host := "") (Or.inl (hw _ (own_M 60 rfl))) Via.refl e385 hp1 (g := (mkF m 20 #[.val (.ref a0), .val (.int ((0 : Int32) + c0)), .val (.int (1 : Int32))] [(.ref a0), (.int ((31 : Int32) * ((0 : Int32) + c0)))])) rfl rfl (hb hby d_hsh_20)
            refine own_go st386 ?_
            show own_Got p e below _ T386 (mkF m 23 #[.val (.ref a0), .val (.int ((0 : Int32) + c0)), .val (.int (1 : Int32))] [(.ref ax), (.int ((31 : Int32) * ((0 : Int32) + c0)))])
            refine g_iloadN X386 hx hby d_hsh_23 rfl (rfl : 23 + 1 = 24) ?_
            obtain ⟨cq387, kq387, q387a, q387b, q387c⟩ := isOf hZ e386 hp4
            obtain ⟨_, _, ⟨T387, L387, k387, n387⟩, -, X387, ⟨Lc387, hQ387, l387, y387, z387⟩, st387⟩ := X386.virtualBack hx (y := mN7) (z := mN7) hown (mvT hZ (hw _ (own_M 82 rfl))) (mvT hZ (hw _ (own_M 83 rfl))) (notFace_of_selects (args := #[]) (mvT hZ (hw _ (own_M 85 rfl)))) (mvT hZ (hw _ (own_M 85 rfl))) (mvT hZ (hw _ (own_M 84 rfl))) (by decide) (backOf (W := 1) (rm_cha1 l Z aT hw [] ax ob kb cd n vs _ _ _ _ _ g1 w1 h0 n0 Z0 hp4 hp5 hp6 hp7 hp8 hp9 hp10 hp11 hp12 hg1 hch hr1 hw1) hZ (hw _ (own_M 86 rfl)) (hw _ (own_M 3 rfl)) (by decide) (by decide)) q387a q387c (g := (mkF m 24 #[.val (.ref a0), .val (.int ((0 : Int32) + c0)), .val (.int (1 : Int32))] [(.int (1 : Int32)), (.ref ax), (.int ((31 : Int32) * ((0 : Int32) + c0)))])) rfl (by rw [hml]; rfl) (Steps.refl _) (argsL := [(.int (1 : Int32))]) (rest := [(.int ((31 : Int32) * ((0 : Int32) + c0)))]) (lenOf pd18 rfl) rfl (by show 2 * 0 + _ ≤ _; exact Nat.le_of_eq rfl) (hb hby d_hsh_24) (fun _ _ => ⟨rfl, e386, (by decide : 0 + 0 ≤ _), (by decide : 0 + 0 ≤ _)⟩)
            dsimp only [Pt.U, Pt.locs, Pt.cells, Pt.slots] at X387 l387 y387 z387 st387 hQ387
            subst l387 y387 z387
            obtain ⟨rfl, N387q, eq387⟩ := hQ387
            have N387 := Fr.app N384 N387q
            refine own_tr st387 ?_
            show own_Got p e below _ T387 (mkF m 27 #[.val (.ref a0), .val (.int ((0 : Int32) + c0)), .val (.int (1 : Int32))] [(.int c1), (.int ((31 : Int32) * ((0 : Int32) + c0)))])
            refine g_iadd X387 hx hby d_hsh_27 (rfl : 27 + 1 = 28) ?_
            refine g_istoreN X387 hx hby #[.val (.ref a0), .val (.int (((31 : Int32) * ((0 : Int32) + c0)) + c1)), .val (.int (1 : Int32))] d_hsh_28 rfl (rfl : 28 + 1 = 29) ?_
            refine g_iinc X387 hx hby #[.val (.ref a0), .val (.int (((31 : Int32) * ((0 : Int32) + c0)) + c1)), .val (.int ((1 : Int32) + (1 : Int32)))] d_hsh_29 rfl rfl (rfl : 29 + 3 = 32) ?_
            rw [(by decide : ((1 : Int32) + (1 : Int32)) = (2 : Int32))]
            refine g_goto X387 hx hby d_hsh_32 (by decide) (pc' := 7) (by decide) ?_
            refine g_iloadN X387 hx hby d_hsh_7 rfl (rfl : 7 + 1 = 8) ?_
            refine g_aloadN X387 hx hby d_hsh_8 rfl rfl (rfl : 8 + 1 = 9) ?_
            obtain ⟨T388, X388, e388, st388⟩ := getF X387 hx hZ hown (host := "") (Or.inl (hw _ (own_M 64 rfl))) Via.refl eq387 r380 (g := (mkF m 9 #[.val (.ref a0), .val (.int (((31 : Int32) * ((0 : Int32) + c0)) + c1)), .val (.int (2 : Int32))] [(.ref a0), (.int (2 : Int32))])) rfl rfl (hb hby d_hsh_9)
            refine own_go st388 ?_
            show own_Got p e below _ T388 (mkF m 12 #[.val (.ref a0), .val (.int (((31 : Int32) * ((0 : Int32) + c0)) + c1)), .val (.int (2 : Int32))] [(.int (3 : Int32)), (.int (2 : Int32))])
            refine g_icF X388 hx hby d_hsh_12 (tlt (by decide : (2 : Int32) < (3 : Int32))).2.1 (rfl : 12 + 3 = 15) ?_
            refine g_bipush X388 hx hby (31 : Int32) d_hsh_15 (by decide) (rfl : 15 + 2 = 17) ?_
            refine g_iloadN X388 hx hby d_hsh_17 rfl (rfl : 17 + 1 = 18) ?_
            refine g_imul X388 hx hby d_hsh_18 (rfl : 18 + 1 = 19) ?_
            refine g_aloadN X388 hx hby d_hsh_19 rfl rfl (rfl : 19 + 1 = 20) ?_
            obtain ⟨T389, X389, e389, st389⟩ := getF X388 hx hZ hown (host := "") (Or.inl (hw _ (own_M 60 rfl))) Via.refl e388 hp1 (g := (mkF m 20 #[.val (.ref a0), .val (.int (((31 : Int32) * ((0 : Int32) + c0)) + c1)), .val (.int (2 : Int32))] [(.ref a0), (.int ((31 : Int32) * (((31 : Int32) * ((0 : Int32) + c0)) + c1)))])) rfl rfl (hb hby d_hsh_20)
            refine own_go st389 ?_
            show own_Got p e below _ T389 (mkF m 23 #[.val (.ref a0), .val (.int (((31 : Int32) * ((0 : Int32) + c0)) + c1)), .val (.int (2 : Int32))] [(.ref ax), (.int ((31 : Int32) * (((31 : Int32) * ((0 : Int32) + c0)) + c1)))])
            refine g_iloadN X389 hx hby d_hsh_23 rfl (rfl : 23 + 1 = 24) ?_
            obtain ⟨cq390, kq390, q390a, q390b, q390c⟩ := isOf hZ e389 hp4
            obtain ⟨_, _, ⟨T390, L390, k390, n390⟩, -, X390, ⟨Lc390, hQ390, l390, y390, z390⟩, st390⟩ := X389.virtualBack hx (y := mN7) (z := mN7) hown (mvT hZ (hw _ (own_M 82 rfl))) (mvT hZ (hw _ (own_M 83 rfl))) (notFace_of_selects (args := #[]) (mvT hZ (hw _ (own_M 85 rfl)))) (mvT hZ (hw _ (own_M 85 rfl))) (mvT hZ (hw _ (own_M 84 rfl))) (by decide) (backOf (W := 1) (rm_cha2 l Z aT hw [] ax ob kb cd n vs _ _ _ _ _ g1 w1 h0 n0 Z0 hp4 hp5 hp6 hp7 hp8 hp9 hp10 hp11 hp12 hg1 hch hr2 hw1) hZ (hw _ (own_M 86 rfl)) (hw _ (own_M 3 rfl)) (by decide) (by decide)) q390a q390c (g := (mkF m 24 #[.val (.ref a0), .val (.int (((31 : Int32) * ((0 : Int32) + c0)) + c1)), .val (.int (2 : Int32))] [(.int (2 : Int32)), (.ref ax), (.int ((31 : Int32) * (((31 : Int32) * ((0 : Int32) + c0)) + c1)))])) rfl (by rw [hml]; rfl) (Steps.refl _) (argsL := [(.int (2 : Int32))]) (rest := [(.int ((31 : Int32) * (((31 : Int32) * ((0 : Int32) + c0)) + c1)))]) (lenOf pd18 rfl) rfl (by show 2 * 0 + _ ≤ _; exact Nat.le_of_eq rfl) (hb hby d_hsh_24) (fun _ _ => ⟨rfl, e389, (by decide : 0 + 0 ≤ _), (by decide : 0 + 0 ≤ _)⟩)
            dsimp only [Pt.U, Pt.locs, Pt.cells, Pt.slots] at X390 l390 y390 z390 st390 hQ390
            subst l390 y390 z390
            obtain ⟨rfl, N390q, eq390⟩ := hQ390
            have N390 := Fr.app N387 N390q
            refine own_tr st390 ?_
            show own_Got p e below _ T390 (mkF m 27 #[.val (.ref a0), .val (.int (((31 : Int32) * ((0 : Int32) + c0)) + c1)), .val (.int (2 : Int32))] [(.int c2), (.int ((31 : Int32) * (((31 : Int32) * ((0 : Int32) + c0)) + c1)))])
            refine g_iadd X390 hx hby d_hsh_27 (rfl : 27 + 1 = 28) ?_
            refine g_istoreN X390 hx hby #[.val (.ref a0), .val (.int (((31 : Int32) * (((31 : Int32) * ((0 : Int32) + c0)) + c1)) + c2)), .val (.int (2 : Int32))] d_hsh_28 rfl (rfl : 28 + 1 = 29) ?_
            refine g_iinc X390 hx hby #[.val (.ref a0), .val (.int (((31 : Int32) * (((31 : Int32) * ((0 : Int32) + c0)) + c1)) + c2)), .val (.int ((2 : Int32) + (1 : Int32)))] d_hsh_29 rfl rfl (rfl : 29 + 3 = 32) ?_
            rw [(by decide : ((2 : Int32) + (1 : Int32)) = (3 : Int32))]
            refine g_goto X390 hx hby d_hsh_32 (by decide) (pc' := 7) (by decide) ?_
            refine g_iloadN X390 hx hby d_hsh_7 rfl (rfl : 7 + 1 = 8) ?_
            refine g_aloadN X390 hx hby d_hsh_8 rfl rfl (rfl : 8 + 1 = 9) ?_
            obtain ⟨T391, X391, e391, st391⟩ := getF X390 hx hZ hown (host := "") (Or.inl (hw _ (own_M 64 rfl))) Via.refl eq390 r380 (g := (mkF m 9 #[.val (.ref a0), .val (.int (((31 : Int32) * (((31 : Int32) * ((0 : Int32) + c0)) + c1)) + c2)), .val (.int (3 : Int32))] [(.ref a0), (.int (3 : Int32))])) rfl rfl (hb hby d_hsh_9)
            refine own_go st391 ?_
            show own_Got p e below _ T391 (mkF m 12 #[.val (.ref a0), .val (.int (((31 : Int32) * (((31 : Int32) * ((0 : Int32) + c0)) + c1)) + c2)), .val (.int (3 : Int32))] [(.int (3 : Int32)), (.int (3 : Int32))])
            refine g_icT X391 hx hby d_hsh_12 (flt (by decide : ¬ ((3 : Int32) < (3 : Int32)))).2.1 (by decide) (pc' := 35) (by decide) ?_
            refine g_iloadN X391 hx hby d_hsh_35 rfl (rfl : 35 + 1 = 36) ?_
            refine own_retI X391 hx hby hlk hrt d_hsh_36 (by decide) (by decide) ?_
            show Q_hsh Z a0 x y ax ob kb cd n vs c0 c1 c2 c3 c4 g1 w1 h0 n0 _ T391.heap _
            exact ⟨(congrArg (fun z => some (Value.int z)) (by rw [F_hsh, if_pos c356, if_neg c358, if_neg c362, if_neg c369, if_pos c379] <;> rfl)), N390, e391⟩
          · by_cases c392 : y = (4 : Int32)
            · have r393 : Fld Z h0 a0 "com/example/lexsign/lexsign/json/TextSpan" "end" "I" (.int (4 : Int32)) := by have q := hp3; rw [c392] at q; exact q
              refine g_iconst X0 hx hby (0 : Int32) d_hsh_0 (by decide) (rfl : 0 + 1 = 1) ?_
              refine g_istoreN X0 hx hby #[.val (.ref a0), .val (.int (0 : Int32)), .unset] d_hsh_1 rfl (rfl : 1 + 1 = 2) ?_
              refine g_aloadN X0 hx hby d_hsh_2 rfl rfl (rfl : 2 + 1 = 3) ?_
              obtain ⟨T394, X394, e394, st394⟩ := getF X0 hx hZ hown (host := "") (Or.inl (hw _ (own_M 62 rfl))) Via.refl e0 r357 (g := (mkF m 3 #[.val (.ref a0), .val (.int (0 : Int32)), .unset] [(.ref a0)])) rfl rfl (hb hby d_hsh_3)
              refine own_go st394 ?_
              show own_Got p e below _ T394 (mkF m 6 #[.val (.ref a0), .val (.int (0 : Int32)), .unset] [(.int (0 : Int32))])
              refine g_istoreN X394 hx hby #[.val (.ref a0), .val (.int (0 : Int32)), .val (.int (0 : Int32))] d_hsh_6 rfl (rfl : 6 + 1 = 7) ?_
              refine g_iloadN X394 hx hby d_hsh_7 rfl (rfl : 7 + 1 = 8) ?_
              refine g_aloadN X394 hx hby d_hsh_8 rfl rfl (rfl : 8 + 1 = 9) ?_
              obtain ⟨T395, X395, e395, st395⟩ := getF X394 hx hZ hown (host := "") (Or.inl (hw _ (own_M 64 rfl))) Via.refl e394 r393 (g := (mkF m 9 #[.val (.ref a0), .val (.int (0 : Int32)), .val (.int (0 : Int32))] [(.ref a0), (.int (0 : Int32))])) rfl rfl (hb hby d_hsh_9)
              refine own_go st395 ?_
              show own_Got p e below _ T395 (mkF m 12 #[.val (.ref a0), .val (.int (0 : Int32)), .val (.int (0 : Int32))] [(.int (4 : Int32)), (.int (0 : Int32))])
              refine g_icF X395 hx hby d_hsh_12 (tlt (by decide : (0 : Int32) < (4 : Int32))).2.1 (rfl : 12 + 3 = 15) ?_
              refine g_bipush X395 hx hby (31 : Int32) d_hsh_15 (by decide) (rfl : 15 + 2 = 17) ?_
              refine g_iloadN X395 hx hby d_hsh_17 rfl (rfl : 17 + 1 = 18) ?_
              refine g_imul X395 hx hby d_hsh_18 (rfl : 18 + 1 = 19) ?_
              rw [(by decide : ((31 : Int32) * (0 : Int32)) = (0 : Int32))]
              refine g_aloadN X395 hx hby d_hsh_19 rfl rfl (rfl : 19 + 1 = 20) ?_
              obtain ⟨T396, X396, e396, st396⟩ := getF X395 hx hZ hown (host := "") (Or.inl (hw _ (own_M 60 rfl))) Via.refl e395 hp1 (g := (mkF m 20 #[.val (.ref a0), .val (.int (0 : Int32)), .val (.int (0 : Int32))] [(.ref a0), (.int (0 : Int32))])) rfl rfl (hb hby d_hsh_20)
              refine own_go st396 ?_
              show own_Got p e below _ T396 (mkF m 23 #[.val (.ref a0), .val (.int (0 : Int32)), .val (.int (0 : Int32))] [(.ref ax), (.int (0 : Int32))])
              refine g_iloadN X396 hx hby d_hsh_23 rfl (rfl : 23 + 1 = 24) ?_
              obtain ⟨cq397, kq397, q397a, q397b, q397c⟩ := isOf hZ e396 hp4
              obtain ⟨_, _, ⟨T397, L397, k397, n397⟩, -, X397, ⟨Lc397, hQ397, l397, y397, z397⟩, st397⟩ := X396.virtualBack hx (y := mN7) (z := mN7) hown (mvT hZ (hw _ (own_M 82 rfl))) (mvT hZ (hw _ (own_M 83 rfl))) (notFace_of_selects (args := #[]) (mvT hZ (hw _ (own_M 85 rfl)))) (mvT hZ (hw _ (own_M 85 rfl))) (mvT hZ (hw _ (own_M 84 rfl))) (by decide) (backOf (W := 1) (rm_cha0 l Z aT hw [] ax ob kb cd n vs _ _ _ _ _ g1 w1 h0 n0 Z0 hp4 hp5 hp6 hp7 hp8 hp9 hp10 hp11 hp12 hg1 hch hr0 hw1) hZ (hw _ (own_M 86 rfl)) (hw _ (own_M 3 rfl)) (by decide) (by decide)) q397a q397c (g := (mkF m 24 #[.val (.ref a0), .val (.int (0 : Int32)), .val (.int (0 : Int32))] [(.int (0 : Int32)), (.ref ax), (.int (0 : Int32))])) rfl (by rw [hml]; rfl) (Steps.refl _) (argsL := [(.int (0 : Int32))]) (rest := [(.int (0 : Int32))]) (lenOf pd18 rfl) rfl (by show 2 * 0 + _ ≤ _; exact Nat.le_of_eq rfl) (hb hby d_hsh_24) (fun _ _ => ⟨rfl, e396, (by decide : 0 + 0 ≤ _), (by decide : 0 + 0 ≤ _)⟩)
              dsimp only [Pt.U, Pt.locs, Pt.cells, Pt.slots] at X397 l397 y397 z397 st397 hQ397
              subst l397 y397 z397
              obtain ⟨rfl, N397q, eq397⟩ := hQ397
              have N397 := Fr.app N0 N397q
              refine own_tr st397 ?_
              show own_Got p e below _ T397 (mkF m 27 #[.val (.ref a0), .val (.int (0 : Int32)), .val (.int (0 : Int32))] [(.int c0), (.int (0 : Int32))])
              refine g_iadd X397 hx hby d_hsh_27 (rfl : 27 + 1 = 28) ?_
              refine g_istoreN X397 hx hby #[.val (.ref a0), .val (.int ((0 : Int32) + c0)), .val (.int (0 : Int32))] d_hsh_28 rfl (rfl : 28 + 1 = 29) ?_
              refine g_iinc X397 hx hby #[.val (.ref a0), .val (.int ((0 : Int32) + c0)), .val (.int ((0 : Int32) + (1 : Int32)))] d_hsh_29 rfl rfl (rfl : 29 + 3 = 32) ?_
              rw [(by decide : ((0 : Int32) + (1 : Int32)) = (1 : Int32))]
              refine g_goto X397 hx hby d_hsh_32 (by decide) (pc' := 7) (by decide) ?_
              refine g_iloadN X397 hx hby d_hsh_7 rfl (rfl : 7 + 1 = 8) ?_
              refine g_aloadN X397 hx hby d_hsh_8 rfl rfl (rfl : 8 + 1 = 9) ?_
              obtain ⟨T398, X398, e398, st398⟩ := getF X397 hx hZ hown (host := "") (Or.inl (hw _ (own_M 64 rfl))) Via.refl eq397 r393 (g := (mkF m 9 #[.val (.ref a0), .val (.int ((0 : Int32) + c0)), .val (.int (1 : Int32))] [(.ref a0), (.int (1 : Int32))])) rfl rfl (hb hby d_hsh_9)
              refine own_go st398 ?_
              show own_Got p e below _ T398 (mkF m 12 #[.val (.ref a0), .val (.int ((0 : Int32) + c0)), .val (.int (1 : Int32))] [(.int (4 : Int32)), (.int (1 : Int32))])
              refine g_icF X398 hx hby d_hsh_12 (tlt (by decide : (1 : Int32) < (4 : Int32))).2.1 (rfl : 12 + 3 = 15) ?_
              refine g_bipush X398 hx hby (31 : Int32) d_hsh_15 (by decide) (rfl : 15 + 2 = 17) ?_
              refine g_iloadN X398 hx hby d_hsh_17 rfl (rfl : 17 + 1 = 18) ?_
              refine g_imul X398 hx hby d_hsh_18 (rfl : 18 + 1 = 19) ?_
              refine g_aloadN X398 hx hby d_hsh_19 rfl rfl (rfl : 19 + 1 = 20) ?_
              obtain ⟨T399, X399, e399, st399⟩ := getF X398 hx hZ hown (host := "") (Or.inl (hw _ (own_M 60 rfl))) Via.refl e398 hp1 (g := (mkF m 20 #[.val (.ref a0), .val (.int ((0 : Int32) + c0)), .val (.int (1 : Int32))] [(.ref a0), (.int ((31 : Int32) * ((0 : Int32) + c0)))])) rfl rfl (hb hby d_hsh_20)
              refine own_go st399 ?_
              show own_Got p e below _ T399 (mkF m 23 #[.val (.ref a0), .val (.int ((0 : Int32) + c0)), .val (.int (1 : Int32))] [(.ref ax), (.int ((31 : Int32) * ((0 : Int32) + c0)))])
              refine g_iloadN X399 hx hby d_hsh_23 rfl (rfl : 23 + 1 = 24) ?_
              obtain ⟨cq400, kq400, q400a, q400b, q400c⟩ := isOf hZ e399 hp4
              obtain ⟨_, _, ⟨T400, L400, k400, n400⟩, -, X400, ⟨Lc400, hQ400, l400, y400, z400⟩, st400⟩ := X399.virtualBack hx (y := mN7) (z := mN7) hown (mvT hZ (hw _ (own_M 82 rfl))) (mvT hZ (hw _ (own_M 83 rfl))) (notFace_of_selects (args := #[]) (mvT hZ (hw _ (own_M 85 rfl)))) (mvT hZ (hw _ (own_M 85 rfl))) (mvT hZ (hw _ (own_M 84 rfl))) (by decide) (backOf (W := 1) (rm_cha1 l Z aT hw [] ax ob kb cd n vs _ _ _ _ _ g1 w1 h0 n0 Z0 hp4 hp5 hp6 hp7 hp8 hp9 hp10 hp11 hp12 hg1 hch hr1 hw1) hZ (hw _ (own_M 86 rfl)) (hw _ (own_M 3 rfl)) (by decide) (by decide)) q400a q400c (g := (mkF m 24 #[.val (.ref a0), .val (.int ((0 : Int32) + c0)), .val (.int (1 : Int32))] [(.int (1 : Int32)), (.ref ax), (.int ((31 : Int32) * ((0 : Int32) + c0)))])) rfl (by rw [hml]; rfl) (Steps.refl _) (argsL := [(.int (1 : Int32))]) (rest := [(.int ((31 : Int32) * ((0 : Int32) + c0)))]) (lenOf pd18 rfl) rfl (by show 2 * 0 + _ ≤ _; exact Nat.le_of_eq rfl) (hb hby d_hsh_24) (fun _ _ => ⟨rfl, e399, (by decide : 0 + 0 ≤ _), (by decide : 0 + 0 ≤ _)⟩)
              dsimp only [Pt.U, Pt.locs, Pt.cells, Pt.slots] at X400 l400 y400 z400 st400 hQ400
              subst l400 y400 z400
              obtain ⟨rfl, N400q, eq400⟩ := hQ400
              have N400 := Fr.app N397 N400q
              refine own_tr st400 ?_
              show own_Got p e below _ T400 (mkF m 27 #[.val (.ref a0), .val (.int ((0 : Int32) + c0)), .val (.int (1 : Int32))] [(.int c1), (.int ((31 : Int32) * ((0 : Int32) + c0)))])
              refine g_iadd X400 hx hby d_hsh_27 (rfl : 27 + 1 = 28) ?_
              refine g_istoreN X400 hx hby #[.val (.ref a0), .val (.int (((31 : Int32) * ((0 : Int32) + c0)) + c1)), .val (.int (1 : Int32))] d_hsh_28 rfl (rfl : 28 + 1 = 29) ?_
              refine g_iinc X400 hx hby #[.val (.ref a0), .val (.int (((31 : Int32) * ((0 : Int32) + c0)) + c1)), .val (.int ((1 : Int32) + (1 : Int32)))] d_hsh_29 rfl rfl (rfl : 29 + 3 = 32) ?_
              rw [(by decide : ((1 : Int32) + (1 : Int32)) = (2 : Int32))]
              refine g_goto X400 hx hby d_hsh_32 (by decide) (pc' := 7) (by decide) ?_
              refine g_iloadN X400 hx hby d_hsh_7 rfl (rfl : 7 + 1 = 8) ?_
              refine g_aloadN X400 hx hby d_hsh_8 rfl rfl (rfl : 8 + 1 = 9) ?_
              obtain ⟨T401, X401, e401, st401⟩ := getF X400 hx hZ hown (host := "") (Or.inl (hw _ (own_M 64 rfl))) Via.refl eq400 r393 (g := (mkF m 9 #[.val (.ref a0), .val (.int (((31 : Int32) * ((0 : Int32) + c0)) + c1)), .val (.int (2 : Int32))] [(.ref a0), (.int (2 : Int32))])) rfl rfl (hb hby d_hsh_9)
              refine own_go st401 ?_
              show own_Got p e below _ T401 (mkF m 12 #[.val (.ref a0), .val (.int (((31 : Int32) * ((0 : Int32) + c0)) + c1)), .val (.int (2 : Int32))] [(.int (4 : Int32)), (.int (2 : Int32))])
              refine g_icF X401 hx hby d_hsh_12 (tlt (by decide : (2 : Int32) < (4 : Int32))).2.1 (rfl : 12 + 3 = 15) ?_
              refine g_bipush X401 hx hby (31 : Int32) d_hsh_15 (by decide) (rfl : 15 + 2 = 17) ?_
              refine g_iloadN X401 hx hby d_hsh_17 rfl (rfl : 17 + 1 = 18) ?_
              refine g_imul X401 hx hby d_hsh_18 (rfl : 18 + 1 = 19) ?_
              refine g_aloadN X401 hx hby d_hsh_19 rfl rfl (rfl : 19 + 1 = 20) ?_
              obtain ⟨T402, X402, e402, st402⟩ := getF X401 hx hZ hown (host := "") (Or.inl (hw _ (own_M 60 rfl))) Via.refl e401 hp1 (g := (mkF m 20 #[.val (.ref a0), .val (.int (((31 : Int32) * ((0 : Int32) + c0)) + c1)), .val (.int (2 : Int32))] [(.ref a0), (.int ((31 : Int32) * (((31 : Int32) * ((0 : Int32) + c0)) + c1)))])) rfl rfl (hb hby d_hsh_20)
              refine own_go st402 ?_
              show own_Got p e below _ T402 (mkF m 23 #[.val (.ref a0), .val (.int (((31 : Int32) * ((0 : Int32) + c0)) + c1)), .val (.int (2 : Int32))] [(.ref ax), (.int ((31 : Int32) * (((31 : Int32) * ((0 : Int32) + c0)) + c1)))])
              refine g_iloadN X402 hx hby d_hsh_23 rfl (rfl : 23 + 1 = 24) ?_
              obtain ⟨cq403, kq403, q403a, q403b, q403c⟩ := isOf hZ e402 hp4
              obtain ⟨_, _, ⟨T403, L403, k403, n403⟩, -, X403, ⟨Lc403, hQ403, l403, y403, z403⟩, st403⟩ := X402.virtualBack hx (y := mN7) (z := mN7) hown (mvT hZ (hw _ (own_M 82 rfl))) (mvT hZ (hw _ (own_M 83 rfl))) (notFace_of_selects (args := #[]) (mvT hZ (hw _ (own_M 85 rfl)))) (mvT hZ (hw _ (own_M 85 rfl))) (mvT hZ (hw _ (own_M 84 rfl))) (by decide) (backOf (W := 1) (rm_cha2 l Z aT hw [] ax ob kb cd n vs _ _ _ _ _ g1 w1 h0 n0 Z0 hp4 hp5 hp6 hp7 hp8 hp9 hp10 hp11 hp12 hg1 hch hr2 hw1) hZ (hw _ (own_M 86 rfl)) (hw _ (own_M 3 rfl)) (by decide) (by decide)) q403a q403c (g := (mkF m 24 #[.val (.ref a0), .val (.int (((31 : Int32) * ((0 : Int32) + c0)) + c1)), .val (.int (2 : Int32))] [(.int (2 : Int32)), (.ref ax), (.int ((31 : Int32) * (((31 : Int32) * ((0 : Int32) + c0)) + c1)))])) rfl (by rw [hml]; rfl) (Steps.refl _) (argsL := [(.int (2 : Int32))]) (rest := [(.int ((31 : Int32) * (((31 : Int32) * ((0 : Int32) + c0)) + c1)))]) (lenOf pd18 rfl) rfl (by show 2 * 0 + _ ≤ _; exact Nat.le_of_eq rfl) (hb hby d_hsh_24) (fun _ _ => ⟨rfl, e402, (by decide : 0 + 0 ≤ _), (by decide : 0 + 0 ≤ _)⟩)
              dsimp only [Pt.U, Pt.locs, Pt.cells, Pt.slots] at X403 l403 y403 z403 st403 hQ403
              subst l403 y403 z403
              obtain ⟨rfl, N403q, eq403⟩ := hQ403
              have N403 := Fr.app N400 N403q
              refine own_tr st403 ?_
              show own_Got p e below _ T403 (mkF m 27 #[.val (.ref a0), .val (.int (((31 : Int32) * ((0 : Int32) + c0)) + c1)), .val (.int (2 : Int32))] [(.int c2), (.int ((31 : Int32) * (((31 : Int32) * ((0 : Int32) + c0)) + c1)))])
              refine g_iadd X403 hx hby d_hsh_27 (rfl : 27 + 1 = 28) ?_
              refine g_istoreN X403 hx hby #[.val (.ref a0), .val (.int (((31 : Int32) * (((31 : Int32) * ((0 : Int32) + c0)) + c1)) + c2)), .val (.int (2 : Int32))] d_hsh_28 rfl (rfl : 28 + 1 = 29) ?_
              refine g_iinc X403 hx hby #[.val (.ref a0), .val (.int (((31 : Int32) * (((31 : Int32) * ((0 : Int32) + c0)) + c1)) + c2)), .val (.int ((2 : Int32) + (1 : Int32)))] d_hsh_29 rfl rfl (rfl : 29 + 3 = 32) ?_
              rw [(by decide : ((2 : Int32) + (1 : Int32)) = (3 : Int32))]
              refine g_goto X403 hx hby d_hsh_32 (by decide) (pc' := 7) (by decide) ?_
              refine g_iloadN X403 hx hby d_hsh_7 rfl (rfl : 7 + 1 = 8) ?_
              refine g_aloadN X403 hx hby d_hsh_8 rfl rfl (rfl : 8 + 1 = 9) ?_
              obtain ⟨T404, X404, e404, st404⟩ := getF X403 hx hZ hown (host := "") (Or.inl (hw _ (own_M 64 rfl))) Via.refl eq403 r393 (g := (mkF m 9 #[.val (.ref a0), .val (.int (((31 : Int32) * (((31 : Int32) * ((0 : Int32) + c0)) + c1)) + c2)), .val (.int (3 : Int32))] [(.ref a0), (.int (3 : Int32))])) rfl rfl (hb hby d_hsh_9)
              refine own_go st404 ?_
              show own_Got p e below _ T404 (mkF m 12 #[.val (.ref a0), .val (.int (((31 : Int32) * (((31 : Int32) * ((0 : Int32) + c0)) + c1)) + c2)), .val (.int (3 : Int32))] [(.int (4 : Int32)), (.int (3 : Int32))])
              refine g_icF X404 hx hby d_hsh_12 (tlt (by decide : (3 : Int32) < (4 : Int32))).2.1 (rfl : 12 + 3 = 15) ?_
              refine g_bipush X404 hx hby (31 : Int32) d_hsh_15 (by decide) (rfl : 15 + 2 = 17) ?_
              refine g_iloadN X404 hx hby d_hsh_17 rfl (rfl : 17 + 1 = 18) ?_
              refine g_imul X404 hx hby d_hsh_18 (rfl : 18 + 1 = 19) ?_
              refine g_aloadN X404 hx hby d_hsh_19 rfl rfl (rfl : 19 + 1 = 20) ?_
              obtain ⟨T405, X405, e405, st405⟩ := getF X404 hx hZ hown (host := "") (Or.inl (hw _ (own_M 60 rfl))) Via.refl e404 hp1 (g := (mkF m 20 #[.val (.ref a0), .val (.int (((31 : Int32) * (((31 : Int32) * ((0 : Int32) + c0)) + c1)) + c2)), .val (.int (3 : Int32))] [(.ref a0), (.int ((31 : Int32) * (((31 : Int32) * (((31 : Int32) * ((0 : Int32) + c0)) + c1)) + c2)))])) rfl rfl (hb hby d_hsh_20)
              refine own_go st405 ?_
              show own_Got p e below _ T405 (mkF m 23 #[.val (.ref a0), .val (.int (((31 : Int32) * (((31 : Int32) * ((0 : Int32) + c0)) + c1)) + c2)), .val (.int (3 : Int32))] [(.ref ax), (.int ((31 : Int32) * (((31 : Int32) * (((31 : Int32) * ((0 : Int32) + c0)) + c1)) + c2)))])
              refine g_iloadN X405 hx hby d_hsh_23 rfl (rfl : 23 + 1 = 24) ?_
              obtain ⟨cq406, kq406, q406a, q406b, q406c⟩ := isOf hZ e405 hp4
              obtain ⟨_, _, ⟨T406, L406, k406, n406⟩, -, X406, ⟨Lc406, hQ406, l406, y406, z406⟩, st406⟩ := X405.virtualBack hx (y := mN7) (z := mN7) hown (mvT hZ (hw _ (own_M 82 rfl))) (mvT hZ (hw _ (own_M 83 rfl))) (notFace_of_selects (args := #[]) (mvT hZ (hw _ (own_M 85 rfl)))) (mvT hZ (hw _ (own_M 85 rfl))) (mvT hZ (hw _ (own_M 84 rfl))) (by decide) (backOf (W := 1) (rm_cha3 l Z aT hw [] ax ob kb cd n vs _ _ _ _ _ g1 w1 h0 n0 Z0 hp4 hp5 hp6 hp7 hp8 hp9 hp10 hp11 hp12 hg1 hch hr3 hw1) hZ (hw _ (own_M 86 rfl)) (hw _ (own_M 3 rfl)) (by decide) (by decide)) q406a q406c (g := (mkF m 24 #[.val (.ref a0), .val (.int (((31 : Int32) * (((31 : Int32) * ((0 : Int32) + c0)) + c1)) + c2)), .val (.int (3 : Int32))] [(.int (3 : Int32)), (.ref ax), (.int ((31 : Int32) * (((31 : Int32) * (((31 : Int32) * ((0 : Int32) + c0)) + c1)) + c2)))])) rfl (by rw [hml]; rfl) (Steps.refl _) (argsL := [(.int (3 : Int32))]) (rest := [(.int ((31 : Int32) * (((31 : Int32) * (((31 : Int32) * ((0 : Int32) + c0)) + c1)) + c2)))]) (lenOf pd18 rfl) rfl (by show 2 * 0 + _ ≤ _; exact Nat.le_of_eq rfl) (hb hby d_hsh_24) (fun _ _ => ⟨rfl, e405, (by decide : 0 + 0 ≤ _), (by decide : 0 + 0 ≤ _)⟩)
              dsimp only [Pt.U, Pt.locs, Pt.cells, Pt.slots] at X406 l406 y406 z406 st406 hQ406
              subst l406 y406 z406
              obtain ⟨rfl, N406q, eq406⟩ := hQ406
              have N406 := Fr.app N403 N406q
              refine own_tr st406 ?_
              show own_Got p e below _ T406 (mkF m 27 #[.val (.ref a0), .val (.int (((31 : Int32) * (((31 : Int32) * ((0 : Int32) + c0)) + c1)) + c2)), .val (.int (3 : Int32))] [(.int c3), (.int ((31 : Int32) * (((31 : Int32) * (((31 : Int32) * ((0 : Int32) + c0)) + c1)) + c2)))])
              refine g_iadd X406 hx hby d_hsh_27 (rfl : 27 + 1 = 28) ?_
              refine g_istoreN X406 hx hby #[.val (.ref a0), .val (.int (((31 : Int32) * (((31 : Int32) * (((31 : Int32) * ((0 : Int32) + c0)) + c1)) + c2)) + c3)), .val (.int (3 : Int32))] d_hsh_28 rfl (rfl : 28 + 1 = 29) ?_
              refine g_iinc X406 hx hby #[.val (.ref a0), .val (.int (((31 : Int32) * (((31 : Int32) * (((31 : Int32) * ((0 : Int32) + c0)) + c1)) + c2)) + c3)), .val (.int ((3 : Int32) + (1 : Int32)))] d_hsh_29 rfl rfl (rfl : 29 + 3 = 32) ?_
              rw [(by decide : ((3 : Int32) + (1 : Int32)) = (4 : Int32))]
              refine g_goto X406 hx hby d_hsh_32 (by decide) (pc' := 7) (by decide) ?_
              refine g_iloadN X406 hx hby d_hsh_7 rfl (rfl : 7 + 1 = 8) ?_
              refine g_aloadN X406 hx hby d_hsh_8 rfl rfl (rfl : 8 + 1 = 9) ?_
              obtain ⟨T407, X407, e407, st407⟩ := getF X406 hx hZ hown (host := "") (Or.inl (hw _ (own_M 64 rfl))) Via.refl eq406 r393 (g := (mkF m 9 #[.val (.ref a0), .val (.int (((31 : Int32) * (((31 : Int32) * (((31 : Int32) * ((0 : Int32) + c0)) + c1)) + c2)) + c3)), .val (.int (4 : Int32))] [(.ref a0), (.int (4 : Int32))])) rfl rfl (hb hby d_hsh_9)
              refine own_go st407 ?_
              show own_Got p e below _ T407 (mkF m 12 #[.val (.ref a0), .val (.int (((31 : Int32) * (((31 : Int32) * (((31 : Int32) * ((0 : Int32) + c0)) + c1)) + c2)) + c3)), .val (.int (4 : Int32))] [(.int (4 : Int32)), (.int (4 : Int32))])
              refine g_icT X407 hx hby d_hsh_12 (flt (by decide : ¬ ((4 : Int32) < (4 : Int32)))).2.1 (by decide) (pc' := 35) (by decide) ?_
              refine g_iloadN X407 hx hby d_hsh_35 rfl (rfl : 35 + 1 = 36) ?_
              refine own_retI X407 hx hby hlk hrt d_hsh_36 (by decide) (by decide) ?_
              show Q_hsh Z a0 x y ax ob kb cd n vs c0 c1 c2 c3 c4 g1 w1 h0 n0 _ T407.heap _
              exact ⟨(congrArg (fun z => some (Value.int z)) (by rw [F_hsh, if_pos c356, if_neg c358, if_neg c362, if_neg c369, if_neg c379, if_pos c392] <;> rfl)), N406, e407⟩
            · by_cases c408 : y = (5 : Int32)
              · have r409 : Fld Z h0 a0 "com/example/lexsign/lexsign/json/TextSpan" "end" "I" (.int (5 : Int32)) := by have q := hp3; rw [c408] at q; exact q
                refine g_iconst X0 hx hby (0 : Int32) d_hsh_0 (by decide) (rfl : 0 + 1 = 1) ?_
                refine g_istoreN X0 hx hby #[.val (.ref a0), .val (.int (0 : Int32)), .unset] d_hsh_1 rfl (rfl : 1 + 1 = 2) ?_
                refine g_aloadN X0 hx hby d_hsh_2 rfl rfl (rfl : 2 + 1 = 3) ?_
                obtain ⟨T410, X410, e410, st410⟩ := getF X0 hx hZ hown (host := "") (Or.inl (hw _ (own_M 62 rfl))) Via.refl e0 r357 (g := (mkF m 3 #[.val (.ref a0), .val (.int (0 : Int32)), .unset] [(.ref a0)])) rfl rfl (hb hby d_hsh_3)
                refine own_go st410 ?_
                show own_Got p e below _ T410 (mkF m 6 #[.val (.ref a0), .val (.int (0 : Int32)), .unset] [(.int (0 : Int32))])
                refine g_istoreN X410 hx hby #[.val (.ref a0), .val (.int (0 : Int32)), .val (.int (0 : Int32))] d_hsh_6 rfl (rfl : 6 + 1 = 7) ?_
                refine g_iloadN X410 hx hby d_hsh_7 rfl (rfl : 7 + 1 = 8) ?_
                refine g_aloadN X410 hx hby d_hsh_8 rfl rfl (rfl : 8 + 1 = 9) ?_
                obtain ⟨T411, X411, e411, st411⟩ := getF X410 hx hZ hown (host := "") (Or.inl (hw _ (own_M 64 rfl))) Via.refl e410 r409 (g := (mkF m 9 #[.val (.ref a0), .val (.int (0 : Int32)), .val (.int (0 : Int32))] [(.ref a0), (.int (0 : Int32))])) rfl rfl (hb hby d_hsh_9)
                refine own_go st411 ?_
                show own_Got p e below _ T411 (mkF m 12 #[.val (.ref a0), .val (.int (0 : Int32)), .val (.int (0 : Int32))] [(.int (5 : Int32)), (.int (0 : Int32))])
                refine g_icF X411 hx hby d_hsh_12 (tlt (by decide : (0 : Int32) < (5 : Int32))).2.1 (rfl : 12 + 3 = 15) ?_
                refine g_bipush X411 hx hby (31 : Int32) d_hsh_15 (by decide) (rfl : 15 + 2 = 17) ?_
                refine g_iloadN X411 hx hby d_hsh_17 rfl (rfl : 17 + 1 = 18) ?_
                refine g_imul X411 hx hby d_hsh_18 (rfl : 18 + 1 = 19) ?_
                rw [(by decide : ((31 : Int32) * (0 : Int32)) = (0 : Int32))]
                refine g_aloadN X411 hx hby d_hsh_19 rfl rfl (rfl : 19 + 1 = 20) ?_
                obtain ⟨T412, X412, e412, st412⟩ := getF X411 hx hZ hown (host := "") (Or.inl (hw _ (own_M 60 rfl))) Via.refl e411 hp1 (g := (mkF m 20 #[.val (.ref a0), .val (.int (0 : Int32)), .val (.int (0 : Int32))] [(.ref a0), (.int (0 : Int32))])) rfl rfl (hb hby d_hsh_20)
                refine own_go st412 ?_
                show own_Got p e below _ T412 (mkF m 23 #[.val (.ref a0), .val (.int (0 : Int32)), .val (.int (0 : Int32))] [(.ref ax), (.int (0 : Int32))])
                refine g_iloadN X412 hx hby d_hsh_23 rfl (rfl : 23 + 1 = 24) ?_
                obtain ⟨cq413, kq413, q413a, q413b, q413c⟩ := isOf hZ e412 hp4
                obtain ⟨_, _, ⟨T413, L413, k413, n413⟩, -, X413, ⟨Lc413, hQ413, l413, y413, z413⟩, st413⟩ := X412.virtualBack hx (y := mN7) (z := mN7) hown (mvT hZ (hw _ (own_M 82 rfl))) (mvT hZ (hw _ (own_M 83 rfl))) (notFace_of_selects (args := #[]) (mvT hZ (hw _ (own_M 85 rfl)))) (mvT hZ (hw _ (own_M 85 rfl))) (mvT hZ (hw _ (own_M 84 rfl))) (by decide) (backOf (W := 1) (rm_cha0 l Z aT hw [] ax ob kb cd n vs _ _ _ _ _ g1 w1 h0 n0 Z0 hp4 hp5 hp6 hp7 hp8 hp9 hp10 hp11 hp12 hg1 hch hr0 hw1) hZ (hw _ (own_M 86 rfl)) (hw _ (own_M 3 rfl)) (by decide) (by decide)) q413a q413c (g := (mkF m 24 #[.val (.ref a0), .val (.int (0 : Int32)), .val (.int (0 : Int32))] [(.int (0 : Int32)), (.ref ax), (.int (0 : Int32))])) rfl (by rw [hml]; rfl) (Steps.refl _) (argsL := [(.int (0 : Int32))]) (rest := [(.int (0 : Int32))]) (lenOf pd18 rfl) rfl (by show 2 * 0 + _ ≤ _; exact Nat.le_of_eq rfl) (hb hby d_hsh_24) (fun _ _ => ⟨rfl, e412, (by decide : 0 + 0 ≤ _), (by decide : 0 + 0 ≤ _)⟩)
                dsimp only [Pt.U, Pt.locs, Pt.cells, Pt.slots] at X413 l413 y413 z413 st413 hQ413
                subst l413 y413 z413
                obtain ⟨rfl, N413q, eq413⟩ := hQ413
                have N413 := Fr.app N0 N413q
                refine own_tr st413 ?_
                show own_Got p e below _ T413 (mkF m 27 #[.val (.ref a0), .val (.int (0 : Int32)), .val (.int (0 : Int32))] [(.int c0), (.int (0 : Int32))])
                refine g_iadd X413 hx hby d_hsh_27 (rfl : 27 + 1 = 28) ?_
                refine g_istoreN X413 hx hby #[.val (.ref a0), .val (.int ((0 : Int32) + c0)), .val (.int (0 : Int32))] d_hsh_28 rfl (rfl : 28 + 1 = 29) ?_
                refine g_iinc X413 hx hby #[.val (.ref a0), .val (.int ((0 : Int32) + c0)), .val (.int ((0 : Int32) + (1 : Int32)))] d_hsh_29 rfl rfl (rfl : 29 + 3 = 32) ?_
                rw [(by decide : ((0 : Int32) + (1 : Int32)) = (1 : Int32))]
                refine g_goto X413 hx hby d_hsh_32 (by decide) (pc' := 7) (by decide) ?_
                refine g_iloadN X413 hx hby d_hsh_7 rfl (rfl : 7 + 1 = 8) ?_
                refine g_aloadN X413 hx hby d_hsh_8 rfl rfl (rfl : 8 + 1 = 9) ?_
                obtain ⟨T414, X414, e414, st414⟩ := getF X413 hx hZ hown (host := "") (Or.inl (hw _ (own_M 64 rfl))) Via.refl eq413 r409 (g := (mkF m 9 #[.val (.ref a0), .val (.int ((0 : Int32) + c0)), .val (.int (1 : Int32))] [(.ref a0), (.int (1 : Int32))])) rfl rfl (hb hby d_hsh_9)
                refine own_go st414 ?_
                show own_Got p e below _ T414 (mkF m 12 #[.val (.ref a0), .val (.int ((0 : Int32) + c0)), .val (.int (1 : Int32))] [(.int (5 : Int32)), (.int (1 : Int32))])
                refine g_icF X414 hx hby d_hsh_12 (tlt (by decide : (1 : Int32) < (5 : Int32))).2.1 (rfl : 12 + 3 = 15) ?_
                refine g_bipush X414 hx hby (31 : Int32) d_hsh_15 (by decide) (rfl : 15 + 2 = 17) ?_
                refine g_iloadN X414 hx hby d_hsh_17 rfl (rfl : 17 + 1 = 18) ?_
                refine g_imul X414 hx hby d_hsh_18 (rfl : 18 + 1 = 19) ?_
                refine g_aloadN X414 hx hby d_hsh_19 rfl rfl (rfl : 19 + 1 = 20) ?_
                obtain ⟨T415, X415, e415, st415⟩ := getF X414 hx hZ hown (host := "") (Or.inl (hw _ (own_M 60 rfl))) Via.refl e414 hp1 (g := (mkF m 20 #[.val (.ref a0), .val (.int ((0 : Int32) + c0)), .val (.int (1 : Int32))] [(.ref a0), (.int ((31 : Int32) * ((0 : Int32) + c0)))])) rfl rfl (hb hby d_hsh_20)
                refine own_go st415 ?_
                show own_Got p e below _ T415 (mkF m 23 #[.val (.ref a0), .val (.int ((0 : Int32) + c0)), .val (.int (1 : Int32))] [(.ref ax), (.int ((31 : Int32) * ((0 : Int32) + c0)))])
                refine g_iloadN X415 hx hby d_hsh_23 rfl (rfl : 23 + 1 = 24) ?_
                obtain ⟨cq416, kq416, q416a, q416b, q416c⟩ := isOf hZ e415 hp4
                obtain ⟨_, _, ⟨T416, L416, k416, n416⟩, -, X416, ⟨Lc416, hQ416, l416, y416, z416⟩, st416⟩ := X415.virtualBack hx (y := mN7) (z := mN7) hown (mvT hZ (hw _ (own_M 82 rfl))) (mvT hZ (hw _ (own_M 83 rfl))) (notFace_of_selects (args := #[]) (mvT hZ (hw _ (own_M 85 rfl)))) (mvT hZ (hw _ (own_M 85 rfl))) (mvT hZ (hw _ (own_M 84 rfl))) (by decide) (backOf (W := 1) (rm_cha1 l Z aT hw [] ax ob kb cd n vs _ _ _ _ _ g1 w1 h0 n0 Z0 hp4 hp5 hp6 hp7 hp8 hp9 hp10 hp11 hp12 hg1 hch hr1 hw1) hZ (hw _ (own_M 86 rfl)) (hw _ (own_M 3 rfl)) (by decide) (by decide)) q416a q416c (g := (mkF m 24 #[.val (.ref a0), .val (.int ((0 : Int32) + c0)), .val (.int (1 : Int32))] [(.int (1 : Int32)), (.ref ax), (.int ((31 : Int32) * ((0 : Int32) + c0)))])) rfl (by rw [hml]; rfl) (Steps.refl _) (argsL := [(.int (1 : Int32))]) (rest := [(.int ((31 : Int32) * ((0 : Int32) + c0)))]) (lenOf pd18 rfl) rfl (by show 2 * 0 + _ ≤ _; exact Nat.le_of_eq rfl) (hb hby d_hsh_24) (fun _ _ => ⟨rfl, e415, (by decide : 0 + 0 ≤ _), (by decide : 0 + 0 ≤ _)⟩)
                dsimp only [Pt.U, Pt.locs, Pt.cells, Pt.slots] at X416 l416 y416 z416 st416 hQ416
                subst l416 y416 z416
                obtain ⟨rfl, N416q, eq416⟩ := hQ416
                have N416 := Fr.app N413 N416q
                refine own_tr st416 ?_
                show own_Got p e below _ T416 (mkF m 27 #[.val (.ref a0), .val (.int ((0 : Int32) + c0)), .val (.int (1 : Int32))] [(.int c1), (.int ((31 : Int32) * ((0 : Int32) + c0)))])
                refine g_iadd X416 hx hby d_hsh_27 (rfl : 27 + 1 = 28) ?_
                refine g_istoreN X416 hx hby #[.val (.ref a0), .val (.int (((31 : Int32) * ((0 : Int32) + c0)) + c1)), .val (.int (1 : Int32))] d_hsh_28 rfl (rfl : 28 + 1 = 29) ?_
                refine g_iinc X416 hx hby #[.val (.ref a0), .val (.int (((31 : Int32) * ((0 : Int32) + c0)) + c1)), .val (.int ((1 : Int32) + (1 : Int32)))] d_hsh_29 rfl rfl (rfl : 29 + 3 = 32) ?_
                rw [(by decide : ((1 : Int32) + (1 : Int32)) = (2 : Int32))]
                refine g_goto X416 hx hby d_hsh_32 (by decide) (pc' := 7) (by decide) ?_
                refine g_iloadN X416 hx hby d_hsh_7 rfl (rfl : 7 + 1 = 8) ?_
                refine g_aloadN X416 hx hby d_hsh_8 rfl rfl (rfl : 8 + 1 = 9) ?_
                obtain ⟨T417, X417, e417, st417⟩ := getF X416 hx hZ hown (host := "") (Or.inl (hw _ (own_M 64 rfl))) Via.refl eq416 r409 (g := (mkF m 9 #[.val (.ref a0), .val (.int (((31 : Int32) * ((0 : Int32) + c0)) + c1)), .val (.int (2 : Int32))] [(.ref a0), (.int (2 : Int32))])) rfl rfl (hb hby d_hsh_9)
                refine own_go st417 ?_
                show own_Got p e below _ T417 (mkF m 12 #[.val (.ref a0), .val (.int (((31 : Int32) * ((0 : Int32) + c0)) + c1)), .val (.int (2 : Int32))] [(.int (5 : Int32)), (.int (2 : Int32))])
                refine g_icF X417 hx hby d_hsh_12 (tlt (by decide : (2 : Int32) < (5 : Int32))).2.1 (rfl : 12 + 3 = 15) ?_
                refine g_bipush X417 hx hby (31 : Int32) d_hsh_15 (by decide) (rfl : 15 + 2 = 17) ?_
                refine g_iloadN X417 hx hby d_hsh_17 rfl (rfl : 17 + 1 = 18) ?_
                refine g_imul X417 hx hby d_hsh_18 (rfl : 18 + 1 = 19) ?_
                refine g_aloadN X417 hx hby d_hsh_19 rfl rfl (rfl : 19 + 1 = 20) ?_
                obtain ⟨T418, X418, e418, st418⟩ := getF X417 hx hZ hown (host := "") (Or.inl (hw _ (own_M 60 rfl))) Via.refl e417 hp1 (g := (mkF m 20 #[.val (.ref a0), .val (.int (((31 : Int32) * ((0 : Int32) + c0)) + c1)), .val (.int (2 : Int32))] [(.ref a0), (.int ((31 : Int32) * (((31 : Int32) * ((0 : Int32) + c0)) + c1)))])) rfl rfl (hb hby d_hsh_20)
                refine own_go st418 ?_
                show own_Got p e below _ T418 (mkF m 23 #[.val (.ref a0), .val (.int (((31 : Int32) * ((0 : Int32) + c0)) + c1)), .val (.int (2 : Int32))] [(.ref ax), (.int ((31 : Int32) * (((31 : Int32) * ((0 : Int32) + c0)) + c1)))])
                refine g_iloadN X418 hx hby d_hsh_23 rfl (rfl : 23 + 1 = 24) ?_
                obtain ⟨cq419, kq419, q419a, q419b, q419c⟩ := isOf hZ e418 hp4
                obtain ⟨_, _, ⟨T419, L419, k419, n419⟩, -, X419, ⟨Lc419, hQ419, l419, y419, z419⟩, st419⟩ := X418.virtualBack hx (y := mN7) (z := mN7) hown (mvT hZ (hw _ (own_M 82 rfl))) (mvT hZ (hw _ (own_M 83 rfl))) (notFace_of_selects (args := #[]) (mvT hZ (hw _ (own_M 85 rfl)))) (mvT hZ (hw _ (own_M 85 rfl))) (mvT hZ (hw _ (own_M 84 rfl))) (by decide) (backOf (W := 1) (rm_cha2 l Z aT hw [] ax ob kb cd n vs _ _ _ _ _ g1 w1 h0 n0 Z0 hp4 hp5 hp6 hp7 hp8 hp9 hp10 hp11 hp12 hg1 hch hr2 hw1) hZ (hw _ (own_M 86 rfl)) (hw _ (own_M 3 rfl)) (by decide) (by decide)) q419a q419c (g := (mkF m 24 #[.val (.ref a0), .val (.int (((31 : Int32) * ((0 : Int32) + c0)) + c1)), .val (.int (2 : Int32))] [(.int (2 : Int32)), (.ref ax), (.int ((31 : Int32) * (((31 : Int32) * ((0 : Int32) + c0)) + c1)))])) rfl (by rw [hml]; rfl) (Steps.refl _) (argsL := [(.int (2 : Int32))]) (rest := [(.int ((31 : Int32) * (((31 : Int32) * ((0 : Int32) + c0)) + c1)))]) (lenOf pd18 rfl) rfl (by show 2 * 0 + _ ≤ _; exact Nat.le_of_eq rfl) (hb hby d_hsh_24) (fun _ _ => ⟨rfl, e418, (by decide : 0 + 0 ≤ _), (by decide : 0 + 0 ≤ _)⟩)
                dsimp only [Pt.U, Pt.locs, Pt.cells, Pt.slots] at X419 l419 y419 z419 st419 hQ419
                subst l419 y419 z419
                obtain ⟨rfl, N419q, eq419⟩ := hQ419
                have N419 := Fr.app N416 N419q
                refine own_tr st419 ?_
                show own_Got p e below _ T419 (mkF m 27 #[.val (.ref a0), .val (.int (((31 : Int32) * ((0 : Int32) + c0)) + c1)), .val (.int (2 : Int32))] [(.int c2), (.int ((31 : Int32) * (((31 : Int32) * ((0 : Int32) + c0)) + c1)))])
                refine g_iadd X419 hx hby d_hsh_27 (rfl : 27 + 1 = 28) ?_
                refine g_istoreN X419 hx hby #[.val (.ref a0), .val (.int (((31 : Int32) * (((31 : Int32) * ((0 : Int32) + c0)) + c1)) + c2)), .val (.int (2 : Int32))] d_hsh_28 rfl (rfl : 28 + 1 = 29) ?_
                refine g_iinc X419 hx hby #[.val (.ref a0), .val (.int (((31 : Int32) * (((31 : Int32) * ((0 : Int32) + c0)) + c1)) + c2)), .val (.int ((2 : Int32) + (1 : Int32)))] d_hsh_29 rfl rfl (rfl : 29 + 3 = 32) ?_
                rw [(by decide : ((2 : Int32) + (1 : Int32)) = (3 : Int32))]
                refine g_goto X419 hx hby d_hsh_32 (by decide) (pc' := 7) (by decide) ?_
                refine g_iloadN X419 hx hby d_hsh_7 rfl (rfl : 7 + 1 = 8) ?_
                refine g_aloadN X419 hx hby d_hsh_8 rfl rfl (rfl : 8 + 1 = 9) ?_
                obtain ⟨T420, X420, e420, st420⟩ := getF X419 hx hZ hown (host := "") (Or.inl (hw _ (own_M 64 rfl))) Via.refl eq419 r409 (g := (mkF m 9 #[.val (.ref a0), .val (.int (((31 : Int32) * (((31 : Int32) * ((0 : Int32) + c0)) + c1)) + c2)), .val (.int (3 : Int32))] [(.ref a0), (.int (3 : Int32))])) rfl rfl (hb hby d_hsh_9)
                refine own_go st420 ?_
                show own_Got p e below _ T420 (mkF m 12 #[.val (.ref a0), .val (.int (((31 : Int32) * (((31 : Int32) * ((0 : Int32) + c0)) + c1)) + c2)), .val (.int (3 : Int32))] [(.int (5 : Int32)), (.int (3 : Int32))])
                refine g_icF X420 hx hby d_hsh_12 (tlt (by decide : (3 : Int32) < (5 : Int32))).2.1 (rfl : 12 + 3 = 15) ?_
                refine g_bipush X420 hx hby (31 : Int32) d_hsh_15 (by decide) (rfl : 15 + 2 = 17) ?_
                refine g_iloadN X420 hx hby d_hsh_17 rfl (rfl : 17 + 1 = 18) ?_
                refine g_imul X420 hx hby d_hsh_18 (rfl : 18 + 1 = 19) ?_
                refine g_aloadN X420 hx hby d_hsh_19 rfl rfl (rfl : 19 + 1 = 20) ?_
                obtain ⟨T421, X421, e421, st421⟩ := getF X420 hx hZ hown (host := "") (Or.inl (hw _ (own_M 60 rfl))) Via.refl e420 hp1 (g := (mkF m 20 #[.val (.ref a0), .val (.int (((31 : Int32) * (((31 : Int32) * ((0 : Int32) + c0)) + c1)) + c2)), .val (.int (3 : Int32))] [(.ref a0), (.int ((31 : Int32) * (((31 : Int32) * (((31 : Int32) * ((0 : Int32) + c0)) + c1)) + c2)))])) rfl rfl (hb hby d_hsh_20)
                refine own_go st421 ?_
                show own_Got p e below _ T421 (mkF m 23 #[.val (.ref a0), .val (.int (((31 : Int32) * (((31 : Int32) * ((0 : Int32) + c0)) + c1)) + c2)), .val (.int (3 : Int32))] [(.ref ax), (.int ((31 : Int32) * (((31 : Int32) * (((31 : Int32) * ((0 : Int32) + c0)) + c1)) + c2)))])
                refine g_iloadN X421 hx hby d_hsh_23 rfl (rfl : 23 + 1 = 24) ?_
                obtain ⟨cq422, kq422, q422a, q422b, q422c⟩ := isOf hZ e421 hp4
                obtain ⟨_, _, ⟨T422, L422, k422, n422⟩, -, X422, ⟨Lc422, hQ422, l422, y422, z422⟩, st422⟩ := X421.virtualBack hx (y := mN7) (z := mN7) hown (mvT hZ (hw _ (own_M 82 rfl))) (mvT hZ (hw _ (own_M 83 rfl))) (notFace_of_selects (args := #[]) (mvT hZ (hw _ (own_M 85 rfl)))) (mvT hZ (hw _ (own_M 85 rfl))) (mvT hZ (hw _ (own_M 84 rfl))) (by decide) (backOf (W := 1) (rm_cha3 l Z aT hw [] ax ob kb cd n vs _ _ _ _ _ g1 w1 h0 n0 Z0 hp4 hp5 hp6 hp7 hp8 hp9 hp10 hp11 hp12 hg1 hch hr3 hw1) hZ (hw _ (own_M 86 rfl)) (hw _ (own_M 3 rfl)) (by decide) (by decide)) q422a q422c (g := (mkF m 24 #[.val (.ref a0), .val (.int (((31 : Int32) * (((31 : Int32) * ((0 : Int32) + c0)) + c1)) + c2)), .val (.int (3 : Int32))] [(.int (3 : Int32)), (.ref ax), (.int ((31 : Int32) * (((31 : Int32) * (((31 : Int32) * ((0 : Int32) + c0)) + c1)) + c2)))])) rfl (by rw [hml]; rfl) (Steps.refl _) (argsL := [(.int (3 : Int32))]) (rest := [(.int ((31 : Int32) * (((31 : Int32) * (((31 : Int32) * ((0 : Int32) + c0)) + c1)) + c2)))]) (lenOf pd18 rfl) rfl (by show 2 * 0 + _ ≤ _; exact Nat.le_of_eq rfl) (hb hby d_hsh_24) (fun _ _ => ⟨rfl, e421, (by decide : 0 + 0 ≤ _), (by decide : 0 + 0 ≤ _)⟩)
                dsimp only [Pt.U, Pt.locs, Pt.cells, Pt.slots] at X422 l422 y422 z422 st422 hQ422
                subst l422 y422 z422
                obtain ⟨rfl, N422q, eq422⟩ := hQ422
                have N422 := Fr.app N419 N422q
                refine own_tr st422 ?_
                show own_Got p e below _ T422 (mkF m 27 #[.val (.ref a0), .val (.int (((31 : Int32) * (((31 : Int32) * ((0 : Int32) + c0)) + c1)) + c2)), .val (.int (3 : Int32))] [(.int c3), (.int ((31 : Int32) * (((31 : Int32) * (((31 : Int32) * ((0 : Int32) + c0)) + c1)) + c2)))])
                refine g_iadd X422 hx hby d_hsh_27 (rfl : 27 + 1 = 28) ?_
                refine g_istoreN X422 hx hby #[.val (.ref a0), .val (.int (((31 : Int32) * (((31 : Int32) * (((31 : Int32) * ((0 : Int32) + c0)) + c1)) + c2)) + c3)), .val (.int (3 : Int32))] d_hsh_28 rfl (rfl : 28 + 1 = 29) ?_
                refine g_iinc X422 hx hby #[.val (.ref a0), .val (.int (((31 : Int32) * (((31 : Int32) * (((31 : Int32) * ((0 : Int32) + c0)) + c1)) + c2)) + c3)), .val (.int ((3 : Int32) + (1 : Int32)))] d_hsh_29 rfl rfl (rfl : 29 + 3 = 32) ?_
                rw [(by decide : ((3 : Int32) + (1 : Int32)) = (4 : Int32))]
                refine g_goto X422 hx hby d_hsh_32 (by decide) (pc' := 7) (by decide) ?_
                refine g_iloadN X422 hx hby d_hsh_7 rfl (rfl : 7 + 1 = 8) ?_
                refine g_aloadN X422 hx hby d_hsh_8 rfl rfl (rfl : 8 + 1 = 9) ?_
                obtain ⟨T423, X423, e423, st423⟩ := getF X422 hx hZ hown (host := "") (Or.inl (hw _ (own_M 64 rfl))) Via.refl eq422 r409 (g := (mkF m 9 #[.val (.ref a0), .val (.int (((31 : Int32) * (((31 : Int32) * (((31 : Int32) * ((0 : Int32) + c0)) + c1)) + c2)) + c3)), .val (.int (4 : Int32))] [(.ref a0), (.int (4 : Int32))])) rfl rfl (hb hby d_hsh_9)
                refine own_go st423 ?_
                show own_Got p e below _ T423 (mkF m 12 #[.val (.ref a0), .val (.int (((31 : Int32) * (((31 : Int32) * (((31 : Int32) * ((0 : Int32) + c0)) + c1)) + c2)) + c3)), .val (.int (4 : Int32))] [(.int (5 : Int32)), (.int (4 : Int32))])
                refine g_icF X423 hx hby d_hsh_12 (tlt (by decide : (4 : Int32) < (5 : Int32))).2.1 (rfl : 12 + 3 = 15) ?_
                refine g_bipush X423 hx hby (31 : Int32) d_hsh_15 (by decide) (rfl : 15 + 2 = 17) ?_
                refine g_iloadN X423 hx hby d_hsh_17 rfl (rfl : 17 + 1 = 18) ?_
                refine g_imul X423 hx hby d_hsh_18 (rfl : 18 + 1 = 19) ?_
                refine g_aloadN X423 hx hby d_hsh_19 rfl rfl (rfl : 19 + 1 = 20) ?_
                obtain ⟨T424, X424, e424, st424⟩ := getF X423 hx hZ hown (host := "") (Or.inl (hw _ (own_M 60 rfl))) Via.refl e423 hp1 (g := (mkF m 20 #[.val (.ref a0), .val (.int (((31 : Int32) * (((31 : Int32) * (((31 : Int32) * ((0 : Int32) + c0)) + c1)) + c2)) + c3)), .val (.int (4 : Int32))] [(.ref a0), (.int ((31 : Int32) * (((31 : Int32) * (((31 : Int32) * (((31 : Int32) * ((0 : Int32) + c0)) + c1)) + c2)) + c3)))])) rfl rfl (hb hby d_hsh_20)
                refine own_go st424 ?_
                show own_Got p e below _ T424 (mkF m 23 #[.val (.ref a0), .val (.int (((31 : Int32) * (((31 : Int32) * (((31 : Int32) * ((0 : Int32) + c0)) + c1)) + c2)) + c3)), .val (.int (4 : Int32))] [(.ref ax), (.int ((31 : Int32) * (((31 : Int32) * (((31 : Int32) * (((31 : Int32) * ((0 : Int32) + c0)) + c1)) + c2)) + c3)))])
                refine g_iloadN X424 hx hby d_hsh_23 rfl (rfl : 23 + 1 = 24) ?_
                obtain ⟨cq425, kq425, q425a, q425b, q425c⟩ := isOf hZ e424 hp4
                obtain ⟨_, _, ⟨T425, L425, k425, n425⟩, -, X425, ⟨Lc425, hQ425, l425, y425, z425⟩, st425⟩ := X424.virtualBack hx (y := mN7) (z := mN7) hown (mvT hZ (hw _ (own_M 82 rfl))) (mvT hZ (hw _ (own_M 83 rfl))) (notFace_of_selects (args := #[]) (mvT hZ (hw _ (own_M 85 rfl)))) (mvT hZ (hw _ (own_M 85 rfl))) (mvT hZ (hw _ (own_M 84 rfl))) (by decide) (backOf (W := 1) (rm_cha4 l Z aT hw [] ax ob kb cd n vs _ _ _ _ _ g1 w1 h0 n0 Z0 hp4 hp5 hp6 hp7 hp8 hp9 hp10 hp11 hp12 hg1 hch hr4 hw1) hZ (hw _ (own_M 86 rfl)) (hw _ (own_M 3 rfl)) (by decide) (by decide)) q425a q425c (g := (mkF m 24 #[.val (.ref a0), .val (.int (((31 : Int32) * (((31 : Int32) * (((31 : Int32) * ((0 : Int32) + c0)) + c1)) + c2)) + c3)), .val (.int (4 : Int32))] [(.int (4 : Int32)), (.ref ax), (.int ((31 : Int32) * (((31 : Int32) * (((31 : Int32) * (((31 : Int32) * ((0 : Int32) + c0)) + c1)) + c2)) + c3)))])) rfl (by rw [hml]; rfl) (Steps.refl _) (argsL := [(.int (4 : Int32))]) (rest := [(.int ((31 : Int32) * (((31 : Int32) * (((31 : Int32) * (((31 : Int32) * ((0 : Int32) + c0)) + c1)) + c2)) + c3)))]) (lenOf pd18 rfl) rfl (by show 2 * 0 + _ ≤ _; exact Nat.le_of_eq rfl) (hb hby d_hsh_24) (fun _ _ => ⟨rfl, e424, (by decide : 0 + 0 ≤ _), (by decide : 0 + 0 ≤ _)⟩)
                dsimp only [Pt.U, Pt.locs, Pt.cells, Pt.slots] at X425 l425 y425 z425 st425 hQ425
                subst l425 y425 z425
                obtain ⟨rfl, N425q, eq425⟩ := hQ425
                have N425 := Fr.app N422 N425q
                refine own_tr st425 ?_
                show own_Got p e below _ T425 (mkF m 27 #[.val (.ref a0), .val (.int (((31 : Int32) * (((31 : Int32) * (((31 : Int32) * ((0 : Int32) + c0)) + c1)) + c2)) + c3)), .val (.int (4 : Int32))] [(.int c4), (.int ((31 : Int32) * (((31 : Int32) * (((31 : Int32) * (((31 : Int32) * ((0 : Int32) + c0)) + c1)) + c2)) + c3)))])
                refine g_iadd X425 hx hby d_hsh_27 (rfl : 27 + 1 = 28) ?_
                refine g_istoreN X425 hx hby #[.val (.ref a0), .val (.int (((31 : Int32) * (((31 : Int32) * (((31 : Int32) * (((31 : Int32) * ((0 : Int32) + c0)) + c1)) + c2)) + c3)) + c4)), .val (.int (4 : Int32))] d_hsh_28 rfl (rfl : 28 + 1 = 29) ?_
                refine g_iinc X425 hx hby #[.val (.ref a0), .val (.int (((31 : Int32) * (((31 : Int32) * (((31 : Int32) * (((31 : Int32) * ((0 : Int32) + c0)) + c1)) + c2)) + c3)) + c4)), .val (.int ((4 : Int32) + (1 : Int32)))] d_hsh_29 rfl rfl (rfl : 29 + 3 = 32) ?_
                rw [(by decide : ((4 : Int32) + (1 : Int32)) = (5 : Int32))]
                refine g_goto X425 hx hby d_hsh_32 (by decide) (pc' := 7) (by decide) ?_
                refine g_iloadN X425 hx hby d_hsh_7 rfl (rfl : 7 + 1 = 8) ?_
                refine g_aloadN X425 hx hby d_hsh_8 rfl rfl (rfl : 8 + 1 = 9) ?_
                obtain ⟨T426, X426, e426, st426⟩ := getF X425 hx hZ hown (host := "") (Or.inl (hw _ (own_M 64 rfl))) Via.refl eq425 r409 (g := (mkF m 9 #[.val (.ref a0), .val (.int (((31 : Int32) * (((31 : Int32) * (((31 : Int32) * (((31 : Int32) * ((0 : Int32) + c0)) + c1)) + c2)) + c3)) + c4)), .val (.int (5 : Int32))] [(.ref a0), (.int (5 : Int32))])) rfl rfl (hb hby d_hsh_9)
                refine own_go st426 ?_
                show own_Got p e below _ T426 (mkF m 12 #[.val (.ref a0), .val (.int (((31 : Int32) * (((31 : Int32) * (((31 : Int32) * (((31 : Int32) * ((0 : Int32) + c0)) + c1)) + c2)) + c3)) + c4)), .val (.int (5 : Int32))] [(.int (5 : Int32)), (.int (5 : Int32))])
                refine g_icT X426 hx hby d_hsh_12 (flt (by decide : ¬ ((5 : Int32) < (5 : Int32)))).2.1 (by decide) (pc' := 35) (by decide) ?_
                refine g_iloadN X426 hx hby d_hsh_35 rfl (rfl : 35 + 1 = 36) ?_
                refine own_retI X426 hx hby hlk hrt d_hsh_36 (by decide) (by decide) ?_
                show Q_hsh Z a0 x y ax ob kb cd n vs c0 c1 c2 c3 c4 g1 w1 h0 n0 _ T426.heap _
                exact ⟨(congrArg (fun z => some (Value.int z)) (by rw [F_hsh, if_pos c356, if_neg c358, if_neg c362, if_neg c369, if_neg c379, if_neg c392, if_pos c408] <;> rfl)), N425, e426⟩
              · exact (own_no6 (own_inE hse) c358 c362 c369 c379 c392 c408).elim
  · by_cases c427 : x = (1 : Int32)
    · have r428 : Fld Z h0 a0 "com/example/lexsign/lexsign/json/TextSpan" "start" "I" (.int (1 : Int32)) := by have q := hp2; rw [c427] at q; exact q
      by_cases c429 : y = (0 : Int32)
      · have r430 : Fld Z h0 a0 "com/example/lexsign/lexsign/json/TextSpan" "end" "I" (.int (0 : Int32)) := by have q := hp3; rw [c429] at q; exact q
        refine g_iconst X0 hx hby (0 : Int32) d_hsh_0 (by decide) (rfl : 0 + 1 = 1) ?_
        refine g_istoreN X0 hx hby #[.val (.ref a0), .val (.int (0 : Int32)), .unset] d_hsh_1 rfl (rfl : 1 + 1 = 2) ?_
        refine g_aloadN X0 hx hby d_hsh_2 rfl rfl (rfl : 2 + 1 = 3) ?_
        obtain ⟨T431, X431, e431, st431⟩ := getF X0 hx hZ hown (host := "") (Or.inl (hw _ (own_M 62 rfl))) Via.refl e0 r428 (g := (mkF m 3 #[.val (.ref a0), .val (.int (0 : Int32)), .unset] [(.ref a0)])) rfl rfl (hb hby d_hsh_3)
        refine own_go st431 ?_
        show own_Got p e below _ T431 (mkF m 6 #[.val (.ref a0), .val (.int (0 : Int32)), .unset] [(.int (1 : Int32))])
        refine g_istoreN X431 hx hby #[.val (.ref a0), .val (.int (0 : Int32)), .val (.int (1 : Int32))] d_hsh_6 rfl (rfl : 6 + 1 = 7) ?_
        refine g_iloadN X431 hx hby d_hsh_7 rfl (rfl : 7 + 1 = 8) ?_
        refine g_aloadN X431 hx hby d_hsh_8 rfl rfl (rfl : 8 + 1 = 9) ?_
        obtain ⟨T432, X432, e432, st432⟩ := getF X431 hx hZ hown (host := "") (Or.inl (hw _ (own_M 64 rfl))) Via.refl e431 r430 (g := (mkF m 9 #[.val (.ref a0), .val (.int (0 : Int32)), .val (.int (1 : Int32))] [(.ref a0), (.int (1 : Int32))])) rfl rfl (hb hby d_hsh_9)
        refine own_go st432 ?_
        show own_Got p e below _ T432 (mkF m 12 #[.val (.ref a0), .val (.int (0 : Int32)), .val (.int (1 : Int32))] [(.int (0 : Int32)), (.int (1 : Int32))])
        refine g_icT X432 hx hby d_hsh_12 (flt (by decide : ¬ ((1 : Int32) < (0 : Int32)))).2.1 (by decide) (pc' := 35) (by decide) ?_
        refine g_iloadN X432 hx hby d_hsh_35 rfl (rfl : 35 + 1 = 36) ?_
        refine own_retI X432 hx hby hlk hrt d_hsh_36 (by decide) (by decide) ?_
        show Q_hsh Z a0 x y ax ob kb cd n vs c0 c1 c2 c3 c4 g1 w1 h0 n0 _ T432.heap _
        exact ⟨(congrArg (fun z => some (Value.int z)) (by rw [F_hsh, if_neg c356, if_pos c427, if_pos c429] <;> rfl)), N0, e432⟩
      · by_cases c433 : y = (1 : Int32)
        · have r434 : Fld Z h0 a0 "com/example/lexsign/lexsign/json/TextSpan" "end" "I" (.int (1 : Int32)) := by have q := hp3; rw [c433] at q; exact q
          refine g_iconst X0 hx hby (0 : Int32) d_hsh_0 (by decide) (rfl : 0 + 1 = 1) ?_
          refine g_istoreN X0 hx hby #[.val (.ref a0), .val (.int (0 : Int32)), .unset] d_hsh_1 rfl (rfl : 1 + 1 = 2) ?_
          refine g_aloadN X0 hx hby d_hsh_2 rfl rfl (rfl : 2 + 1 = 3) ?_
          obtain ⟨T435, X435, e435, st435⟩ := getF X0 hx hZ hown (host := "") (Or.inl (hw _ (own_M 62 rfl))) Via.refl e0 r428 (g := (mkF m 3 #[.val (.ref a0), .val (.int (0 : Int32)), .unset] [(.ref a0)])) rfl rfl (hb hby d_hsh_3)
          refine own_go st435 ?_
          show own_Got p e below _ T435 (mkF m 6 #[.val (.ref a0), .val (.int (0 : Int32)), .unset] [(.int (1 : Int32))])
          refine g_istoreN X435 hx hby #[.val (.ref a0), .val (.int (0 : Int32)), .val (.int (1 : Int32))] d_hsh_6 rfl (rfl : 6 + 1 = 7) ?_
          refine g_iloadN X435 hx hby d_hsh_7 rfl (rfl : 7 + 1 = 8) ?_
          refine g_aloadN X435 hx hby d_hsh_8 rfl rfl (rfl : 8 + 1 = 9) ?_
          obtain ⟨T436, X436, e436, st436⟩ := getF X435 hx hZ hown (host := "") (Or.inl (hw _ (own_M 64 rfl))) Via.refl e435 r434 (g := (mkF m 9 #[.val (.ref a0), .val (.int (0 : Int32)), .val (.int (1 : Int32))] [(.ref a0), (.int (1 : Int32))])) rfl rfl (hb hby d_hsh_9)
          refine own_go st436 ?_
          show own_Got p e below _ T436 (mkF m 12 #[.val (.ref a0), .val (.int (0 : Int32)), .val (.int (1 : Int32))] [(.int (1 : Int32)), (.int (1 : Int32))])
          refine g_icT X436 hx hby d_hsh_12 (flt (by decide : ¬ ((1 : Int32) < (1 : Int32)))).2.1 (by decide) (pc' := 35) (by decide) ?_
          refine g_iloadN X436 hx hby d_hsh_35 rfl (rfl : 35 + 1 = 36) ?_
          refine own_retI X436 hx hby hlk hrt d_hsh_36 (by decide) (by decide) ?_
          show Q_hsh Z a0 x y ax ob kb cd n vs c0 c1 c2 c3 c4 g1 w1 h0 n0 _ T436.heap _
          exact ⟨(congrArg (fun z => some (Value.int z)) (by rw [F_hsh, if_neg c356, if_pos c427, if_neg c429, if_pos c433] <;> rfl)), N0, e436⟩
        · by_cases c437 : y = (2 : Int32)
          · have r438 : Fld Z h0 a0 "com/example/lexsign/lexsign/json/TextSpan" "end" "I" (.int (2 : Int32)) := by have q := hp3; rw [c437] at q; exact q
            refine g_iconst X0 hx hby (0 : Int32) d_hsh_0 (by decide) (rfl : 0 + 1 = 1) ?_
            refine g_istoreN X0 hx hby #[.val (.ref a0), .val (.int (0 : Int32)), .unset] d_hsh_1 rfl (rfl : 1 + 1 = 2) ?_
            refine g_aloadN X0 hx hby d_hsh_2 rfl rfl (rfl : 2 + 1 = 3) ?_
            obtain ⟨T439, X439, e439, st439⟩ := getF X0 hx hZ hown (host := "") (Or.inl (hw _ (own_M 62 rfl))) Via.refl e0 r428 (g := (mkF m 3 #[.val (.ref a0), .val (.int (0 : Int32)), .unset] [(.ref a0)])) rfl rfl (hb hby d_hsh_3)
            refine own_go st439 ?_
            show own_Got p e below _ T439 (mkF m 6 #[.val (.ref a0), .val (.int (0 : Int32)), .unset] [(.int (1 : Int32))])
            refine g_istoreN X439 hx hby #[.val (.ref a0), .val (.int (0 : Int32)), .val (.int (1 : Int32))] d_hsh_6 rfl (rfl : 6 + 1 = 7) ?_
            refine g_iloadN X439 hx hby d_hsh_7 rfl (rfl : 7 + 1 = 8) ?_
            refine g_aloadN X439 hx hby d_hsh_8 rfl rfl (rfl : 8 + 1 = 9) ?_
            obtain ⟨T440, X440, e440, st440⟩ := getF X439 hx hZ hown (host := "") (Or.inl (hw _ (own_M 64 rfl))) Via.refl e439 r438 (g := (mkF m 9 #[.val (.ref a0), .val (.int (0 : Int32)), .val (.int (1 : Int32))] [(.ref a0), (.int (1 : Int32))])) rfl rfl (hb hby d_hsh_9)
            refine own_go st440 ?_
            show own_Got p e below _ T440 (mkF m 12 #[.val (.ref a0), .val (.int (0 : Int32)), .val (.int (1 : Int32))] [(.int (2 : Int32)), (.int (1 : Int32))])
            refine g_icF X440 hx hby d_hsh_12 (tlt (by decide : (1 : Int32) < (2 : Int32))).2.1 (rfl : 12 + 3 = 15) ?_
            refine g_bipush X440 hx hby (31 : Int32) d_hsh_15 (by decide) (rfl : 15 + 2 = 17) ?_
            refine g_iloadN X440 hx hby d_hsh_17 rfl (rfl : 17 + 1 = 18) ?_
            refine g_imul X440 hx hby d_hsh_18 (rfl : 18 + 1 = 19) ?_
            rw [(by decide : ((31 : Int32) * (0 : Int32)) = (0 : Int32))]
            refine g_aloadN X440 hx hby d_hsh_19 rfl rfl (rfl : 19 + 1 = 20) ?_
            obtain ⟨T441, X441, e441, st441⟩ := getF X440 hx hZ hown (host := "") (Or.inl (hw _ (own_M 60 rfl))) Via.refl e440 hp1 (g := (mkF m 20 #[.val (.ref a0), .val (.int (0 : Int32)), .val (.int (1 : Int32))] [(.ref a0), (.int (0 : Int32))])) rfl rfl (hb hby d_hsh_20)
            refine own_go st441 ?_
            show own_Got p e below _ T441 (mkF m 23 #[.val (.ref a0), .val (.int (0 : Int32)), .val (.int (1 : Int32))] [(.ref ax), (.int (0 : Int32))])
            refine g_iloadN X441 hx hby d_hsh_23 rfl (rfl : 23 + 1 = 24) ?_
            obtain ⟨cq442, kq442, q442a, q442b, q442c⟩ := isOf hZ e441 hp4
            obtain ⟨_, _, ⟨T442, L442, k442, n442⟩, -, X442, ⟨Lc442, hQ442, l442, y442, z442⟩, st442⟩ := X441.virtualBack hx (y := mN7) (z := mN7) hown (mvT hZ (hw _ (own_M 82 rfl))) (mvT hZ (hw _ (own_M 83 rfl))) (notFace_of_selects (args := #[]) (mvT hZ (hw _ (own_M 85 rfl)))) (mvT hZ (hw _ (own_M 85 rfl))) (mvT hZ (hw _ (own_M 84 rfl))) (by decide) (backOf (W := 1) (rm_cha1 l Z aT hw [] ax ob kb cd n vs _ _ _ _ _ g1 w1 h0 n0 Z0 hp4 hp5 hp6 hp7 hp8 hp9 hp10 hp11 hp12 hg1 hch hr1 hw1) hZ (hw _ (own_M 86 rfl)) (hw _ (own_M 3 rfl)) (by decide) (by decide)) q442a q442c (g := (mkF m 24 #[.val (.ref a0), .val (.int (0 : Int32)), .val (.int (1 : Int32))] [(.int (1 : Int32)), (.ref ax), (.int (0 : Int32))])) rfl (by rw [hml]; rfl) (Steps.refl _) (argsL := [(.int (1 : Int32))]) (rest := [(.int (0 : Int32))]) (lenOf pd18 rfl) rfl (by show 2 * 0 + _ ≤ _; exact Nat.le_of_eq rfl) (hb hby d_hsh_24) (fun _ _ => ⟨rfl, e441, (by decide : 0 + 0 ≤ _), (by decide : 0 + 0 ≤ _)⟩)
            dsimp only [Pt.U, Pt.locs, Pt.cells, Pt.slots] at X442 l442 y442 z442 st442 hQ442
            subst l442 y442 z442
            obtain ⟨rfl, N442q, eq442⟩ := hQ442
            have N442 := Fr.app N0 N442q
            refine own_tr st442 ?_
            show own_Got p e below _ T442 (mkF m 27 #[.val (.ref a0), .val (.int (0 : Int32)), .val (.int (1 : Int32))] [(.int c1), (.int (0 : Int32))])
            refine g_iadd X442 hx hby d_hsh_27 (rfl : 27 + 1 = 28) ?_
            refine g_istoreN X442 hx hby #[.val (.ref a0), .val (.int ((0 : Int32) + c1)), .val (.int (1 : Int32))] d_hsh_28 rfl (rfl : 28 + 1 = 29) ?_
            refine g_iinc X442 hx hby #[.val (.ref a0), .val (.int ((0 : Int32) + c1)), .val (.int ((1 : Int32) + (1 : Int32)))] d_hsh_29 rfl rfl (rfl : 29 + 3 = 32) ?_
            rw [(by decide : ((1 : Int32) + (1 : Int32)) = (2 : Int32))]
            refine g_goto X442 hx hby d_hsh_32 (by decide) (pc' := 7) (by decide) ?_
            refine g_iloadN X442 hx hby d_hsh_7 rfl (rfl : 7 + 1 = 8) ?_
            refine g_aloadN X442 hx hby d_hsh_8 rfl rfl (rfl : 8 + 1 = 9) ?_
            obtain ⟨T443, X443, e443, st443⟩ := getF X442 hx hZ hown (host := "") (Or.inl (hw _ (own_M 64 rfl))) Via.refl eq442 r438 (g := (mkF m 9 #[.val (.ref a0), .val (.int ((0 : Int32) + c1)), .val (.int (2 : Int32))] [(.ref a0), (.int (2 : Int32))])) rfl rfl (hb hby d_hsh_9)
            refine own_go st443 ?_
            show own_Got p e below _ T443 (mkF m 12 #[.val (.ref a0), .val (.int ((0 : Int32) + c1)), .val (.int (2 : Int32))] [(.int (2 : Int32)), (.int (2 : Int32))])
            refine g_icT X443 hx hby d_hsh_12 (flt (by decide : ¬ ((2 : Int32) < (2 : Int32)))).2.1 (by decide) (pc' := 35) (by decide) ?_
            refine g_iloadN X443 hx hby d_hsh_35 rfl (rfl : 35 + 1 = 36) ?_
            refine own_retI X443 hx hby hlk hrt d_hsh_36 (by decide) (by decide) ?_
            show Q_hsh Z a0 x y ax ob kb cd n vs c0 c1 c2 c3 c4 g1 w1 h0 n0 _ T443.heap _
            exact ⟨(congrArg (fun z => some (Value.int z)) (by rw [F_hsh, if_neg c356, if_pos c427, if_neg c429, if_neg c433, if_pos c437] <;> rfl)), N442, e443⟩
          · by_cases c444 : y = (3 : Int32)
            · have r445 : Fld Z h0 a0 "com/example/lexsign/lexsign/json/TextSpan" "end" "I" (.int (3 : Int32)) := by have q := hp3; rw [c444] at q; exact q
              refine g_iconst X0 hx hby (0 : Int32) d_hsh_0 (by decide) (rfl : 0 + 1 = 1) ?_
              refine g_istoreN X0 hx hby #[.val (.ref a0), .val (.int (0 : Int32)), .unset] d_hsh_1 rfl (rfl : 1 + 1 = 2) ?_
              refine g_aloadN X0 hx hby d_hsh_2 rfl rfl (rfl : 2 + 1 = 3) ?_
              obtain ⟨T446, X446, e446, st446⟩ := getF X0 hx hZ hown (host := "") (Or.inl (hw _ (own_M 62 rfl))) Via.refl e0 r428 (g := (mkF m 3 #[.val (.ref a0), .val (.int (0 : Int32)), .unset] [(.ref a0)])) rfl rfl (hb hby d_hsh_3)
              refine own_go st446 ?_
              show own_Got p e below _ T446 (mkF m 6 #[.val (.ref a0), .val (.int (0 : Int32)), .unset] [(.int (1 : Int32))])
              refine g_istoreN X446 hx hby #[.val (.ref a0), .val (.int (0 : Int32)), .val (.int (1 : Int32))] d_hsh_6 rfl (rfl : 6 + 1 = 7) ?_
              refine g_iloadN X446 hx hby d_hsh_7 rfl (rfl : 7 + 1 = 8) ?_
              refine g_aloadN X446 hx hby d_hsh_8 rfl rfl (rfl : 8 + 1 = 9) ?_
              obtain ⟨T447, X447, e447, st447⟩ := getF X446 hx hZ hown (host := "") (Or.inl (hw _ (own_M 64 rfl))) Via.refl e446 r445 (g := (mkF m 9 #[.val (.ref a0), .val (.int (0 : Int32)), .val (.int (1 : Int32))] [(.ref a0), (.int (1 : Int32))])) rfl rfl (hb hby d_hsh_9)
              refine own_go st447 ?_
              show own_Got p e below _ T447 (mkF m 12 #[.val (.ref a0), .val (.int (0 : Int32)), .val (.int (1 : Int32))] [(.int (3 : Int32)), (.int (1 : Int32))])
              refine g_icF X447 hx hby d_hsh_12 (tlt (by decide : (1 : Int32) < (3 : Int32))).2.1 (rfl : 12 + 3 = 15) ?_
              refine g_bipush X447 hx hby (31 : Int32) d_hsh_15 (by decide) (rfl : 15 + 2 = 17) ?_
              refine g_iloadN X447 hx hby d_hsh_17 rfl (rfl : 17 + 1 = 18) ?_
              refine g_imul X447 hx hby d_hsh_18 (rfl : 18 + 1 = 19) ?_
              rw [(by decide : ((31 : Int32) * (0 : Int32)) = (0 : Int32))]
              refine g_aloadN X447 hx hby d_hsh_19 rfl rfl (rfl : 19 + 1 = 20) ?_
              obtain ⟨T448, X448, e448, st448⟩ := getF X447 hx hZ hown (host := "") (Or.inl (hw _ (own_M 60 rfl))) Via.refl e447 hp1 (g := (mkF m 20 #[.val (.ref a0), .val (.int (0 : Int32)), .val (.int (1 : Int32))] [(.ref a0), (.int (0 : Int32))])) rfl rfl (hb hby d_hsh_20)
              refine own_go st448 ?_
              show own_Got p e below _ T448 (mkF m 23 #[.val (.ref a0), .val (.int (0 : Int32)), .val (.int (1 : Int32))] [(.ref ax), (.int (0 : Int32))])
              refine g_iloadN X448 hx hby d_hsh_23 rfl (rfl : 23 + 1 = 24) ?_
              obtain ⟨cq449, kq449, q449a, q449b, q449c⟩ := isOf hZ e448 hp4
              obtain ⟨_, _, ⟨T449, L449, k449, n449⟩, -, X449, ⟨Lc449, hQ449, l449, y449, z449⟩, st449⟩ := X448.virtualBack hx (y := mN7) (z := mN7) hown (mvT hZ (hw _ (own_M 82 rfl))) (mvT hZ (hw _ (own_M 83 rfl))) (notFace_of_selects (args := #[]) (mvT hZ (hw _ (own_M 85 rfl)))) (mvT hZ (hw _ (own_M 85 rfl))) (mvT hZ (hw _ (own_M 84 rfl))) (by decide) (backOf (W := 1) (rm_cha1 l Z aT hw [] ax ob kb cd n vs _ _ _ _ _ g1 w1 h0 n0 Z0 hp4 hp5 hp6 hp7 hp8 hp9 hp10 hp11 hp12 hg1 hch hr1 hw1) hZ (hw _ (own_M 86 rfl)) (hw _ (own_M 3 rfl)) (by decide) (by decide)) q449a q449c (g := (mkF m 24 #[.val (.ref a0), .val (.int (0 : Int32)), .val (.int (1 : Int32))] [(.int (1 : Int32)), (.ref ax), (.int (0 : Int32))])) rfl (by rw [hml]; rfl) (Steps.refl _) (argsL := [(.int (1 : Int32))]) (rest := [(.int (0 : Int32))]) (lenOf pd18 rfl) rfl (by show 2 * 0 + _ ≤ _; exact Nat.le_of_eq rfl) (hb hby d_hsh_24) (fun _ _ => ⟨rfl, e448, (by decide : 0 + 0 ≤ _), (by decide : 0 + 0 ≤ _)⟩)
              dsimp only [Pt.U, Pt.locs, Pt.cells, Pt.slots] at X449 l449 y449 z449 st449 hQ449
              subst l449 y449 z449
              obtain ⟨rfl, N449q, eq449⟩ := hQ449
              have N449 := Fr.app N0 N449q
              refine own_tr st449 ?_
              show own_Got p e below _ T449 (mkF m 27 #[.val (.ref a0), .val (.int (0 : Int32)), .val (.int (1 : Int32))] [(.int c1), (.int (0 : Int32))])
              refine g_iadd X449 hx hby d_hsh_27 (rfl : 27 + 1 = 28) ?_
              refine g_istoreN X449 hx hby #[.val (.ref a0), .val (.int ((0 : Int32) + c1)), .val (.int (1 : Int32))] d_hsh_28 rfl (rfl : 28 + 1 = 29) ?_
              refine g_iinc X449 hx hby #[.val (.ref a0), .val (.int ((0 : Int32) + c1)), .val (.int ((1 : Int32) + (1 : Int32)))] d_hsh_29 rfl rfl (rfl : 29 + 3 = 32) ?_
              rw [(by decide : ((1 : Int32) + (1 : Int32)) = (2 : Int32))]
              refine g_goto X449 hx hby d_hsh_32 (by decide) (pc' := 7) (by decide) ?_
              refine g_iloadN X449 hx hby d_hsh_7 rfl (rfl : 7 + 1 = 8) ?_
              refine g_aloadN X449 hx hby d_hsh_8 rfl rfl (rfl : 8 + 1 = 9) ?_
              obtain ⟨T450, X450, e450, st450⟩ := getF X449 hx hZ hown (host := "") (Or.inl (hw _ (own_M 64 rfl))) Via.refl eq449 r445 (g := (mkF m 9 #[.val (.ref a0), .val (.int ((0 : Int32) + c1)), .val (.int (2 : Int32))] [(.ref a0), (.int (2 : Int32))])) rfl rfl (hb hby d_hsh_9)
              refine own_go st450 ?_
              show own_Got p e below _ T450 (mkF m 12 #[.val (.ref a0), .val (.int ((0 : Int32) + c1)), .val (.int (2 : Int32))] [(.int (3 : Int32)), (.int (2 : Int32))])
              refine g_icF X450 hx hby d_hsh_12 (tlt (by decide : (2 : Int32) < (3 : Int32))).2.1 (rfl : 12 + 3 = 15) ?_
              refine g_bipush X450 hx hby (31 : Int32) d_hsh_15 (by decide) (rfl : 15 + 2 = 17) ?_
              refine g_iloadN X450 hx hby d_hsh_17 rfl (rfl : 17 + 1 = 18) ?_
              refine g_imul X450 hx hby d_hsh_18 (rfl : 18 + 1 = 19) ?_
              refine g_aloadN X450 hx hby d_hsh_19 rfl rfl (rfl : 19 + 1 = 20) ?_
              obtain ⟨T451, X451, e451, st451⟩ := getF X450 hx hZ hown (host := "") (Or.inl (hw _ (own_M 60 rfl))) Via.refl e450 hp1 (g := (mkF m 20 #[.val (.ref a0), .val (.int ((0 : Int32) + c1)), .val (.int (2 : Int32))] [(.ref a0), (.int ((31 : Int32) * ((0 : Int32) + c1)))])) rfl rfl (hb hby d_hsh_20)
              refine own_go st451 ?_
              show own_Got p e below _ T451 (mkF m 23 #[.val (.ref a0), .val (.int ((0 : Int32) + c1)), .val (.int (2 : Int32))] [(.ref ax), (.int ((31 : Int32) * ((0 : Int32) + c1)))])
              refine g_iloadN X451 hx hby d_hsh_23 rfl (rfl : 23 + 1 = 24) ?_
              obtain ⟨cq452, kq452, q452a, q452b, q452c⟩ := isOf hZ e451 hp4
              obtain ⟨_, _, ⟨T452, L452, k452, n452⟩, -, X452, ⟨Lc452, hQ452, l452, y452, z452⟩, st452⟩ := X451.virtualBack hx (y := mN7) (z := mN7) hown (mvT hZ (hw _ (own_M 82 rfl))) (mvT hZ (hw _ (own_M 83 rfl))) (notFace_of_selects (args := #[]) (mvT hZ (hw _ (own_M 85 rfl)))) (mvT hZ (hw _ (own_M 85 rfl))) (mvT hZ (hw _ (own_M 84 rfl))) (by decide) (backOf (W := 1) (rm_cha2 l Z aT hw [] ax ob kb cd n vs _ _ _ _ _ g1 w1 h0 n0 Z0 hp4 hp5 hp6 hp7 hp8 hp9 hp10 hp11 hp12 hg1 hch hr2 hw1) hZ (hw _ (own_M 86 rfl)) (hw _ (own_M 3 rfl)) (by decide) (by decide)) q452a q452c (g := (mkF m 24 #[.val (.ref a0), .val (.int ((0 : Int32) + c1)), .val (.int (2 : Int32))] [(.int (2 : Int32)), (.ref ax), (.int ((31 : Int32) * ((0 : Int32) + c1)))])) rfl (by rw [hml]; rfl) (Steps.refl _) (argsL := [(.int (2 : Int32))]) (rest := [(.int ((31 : Int32) * ((0 : Int32) + c1)))]) (lenOf pd18 rfl) rfl (by show 2 * 0 + _ ≤ _; exact Nat.le_of_eq rfl) (hb hby d_hsh_24) (fun _ _ => ⟨rfl, e451, (by decide : 0 + 0 ≤ _), (by decide : 0 + 0 ≤ _)⟩)
              dsimp only [Pt.U, Pt.locs, Pt.cells, Pt.slots] at X452 l452 y452 z452 st452 hQ452
              subst l452 y452 z452
              obtain ⟨rfl, N452q, eq452⟩ := hQ452
              have N452 := Fr.app N449 N452q
              refine own_tr st452 ?_
              show own_Got p e below _ T452 (mkF m 27 #[.val (.ref a0), .val (.int ((0 : Int32) + c1)), .val (.int (2 : Int32))] [(.int c2), (.int ((31 : Int32) * ((0 : Int32) + c1)))])
              refine g_iadd X452 hx hby d_hsh_27 (rfl : 27 + 1 = 28) ?_
              refine g_istoreN X452 hx hby #[.val (.ref a0), .val (.int (((31 : Int32) * ((0 : Int32) + c1)) + c2)), .val (.int (2 : Int32))] d_hsh_28 rfl (rfl : 28 + 1 = 29) ?_
              refine g_iinc X452 hx hby #[.val (.ref a0), .val (.int (((31 : Int32) * ((0 : Int32) + c1)) + c2)), .val (.int ((2 : Int32) + (1 : Int32)))] d_hsh_29 rfl rfl (rfl : 29 + 3 = 32) ?_
              rw [(by decide : ((2 : Int32) + (1 : Int32)) = (3 : Int32))]
              refine g_goto X452 hx hby d_hsh_32 (by decide) (pc' := 7) (by decide) ?_
              refine g_iloadN X452 hx hby d_hsh_7 rfl (rfl : 7 + 1 = 8) ?_
              refine g_aloadN X452 hx hby d_hsh_8 rfl rfl (rfl : 8 + 1 = 9) ?_
              obtain ⟨T453, X453, e453, st453⟩ := getF X452 hx hZ hown (host := "") (Or.inl (hw _ (own_M 64 rfl))) Via.refl eq452 r445 (g := (mkF m 9 #[.val (.ref a0), .val (.int (((31 : Int32) * ((0 : Int32) + c1)) + c2)), .val (.int (3 : Int32))] [(.ref a0), (.int (3 : Int32))])) rfl rfl (hb hby d_hsh_9)
              refine own_go st453 ?_
              show own_Got p e below _ T453 (mkF m 12 #[.val (.ref a0), .val (.int (((31 : Int32) * ((0 : Int32) + c1)) + c2)), .val (.int (3 : Int32))] [(.int (3 : Int32)), (.int (3 : Int32))])
              refine g_icT X453 hx hby d_hsh_12 (flt (by decide : ¬ ((3 : Int32) < (3 : Int32)))).2.1 (by decide) (pc' := 35) (by decide) ?_
              refine g_iloadN X453 hx hby d_hsh_35 rfl (rfl : 35 + 1 = 36) ?_
              refine own_retI X453 hx hby hlk hrt d_hsh_36 (by decide) (by decide) ?_
              show Q_hsh Z a0 x y ax ob kb cd n vs c0 c1 c2 c3 c4 g1 w1 h0 n0 _ T453.heap _
              exact ⟨(congrArg (fun z => some (Value.int z)) (by rw [F_hsh, if_neg c356, if_pos c427, if_neg c429, if_neg c433, if_neg c437, if_pos c444] <;> rfl)), N452, e453⟩
            · by_cases c454 : y = (4 : Int32)
              · have r455 : Fld Z h0 a0 "com/example/lexsign/lexsign/json/TextSpan" "end" "I" (.int (4 : Int32)) := by have q := hp3; rw [c454] at q; exact q
                refine g_iconst X0 hx hby (0 : Int32) d_hsh_0 (by decide) (rfl : 0 + 1 = 1) ?_
                refine g_istoreN X0 hx hby #[.val (.ref a0), .val (.int (0 : Int32)), .unset] d_hsh_1 rfl (rfl : 1 + 1 = 2) ?_
                refine g_aloadN X0 hx hby d_hsh_2 rfl rfl (rfl : 2 + 1 = 3) ?_
                obtain ⟨T456, X456, e456, st456⟩ := getF X0 hx hZ hown (host := "") (Or.inl (hw _ (own_M 62 rfl))) Via.refl e0 r428 (g := (mkF m 3 #[.val (.ref a0), .val (.int (0 : Int32)), .unset] [(.ref a0)])) rfl rfl (hb hby d_hsh_3)
                refine own_go st456 ?_
                show own_Got p e below _ T456 (mkF m 6 #[.val (.ref a0), .val (.int (0 : Int32)), .unset] [(.int (1 : Int32))])
                refine g_istoreN X456 hx hby #[.val (.ref a0), .val (.int (0 : Int32)), .val (.int (1 : Int32))] d_hsh_6 rfl (rfl : 6 + 1 = 7) ?_
                refine g_iloadN X456 hx hby d_hsh_7 rfl (rfl : 7 + 1 = 8) ?_
                refine g_aloadN X456 hx hby d_hsh_8 rfl rfl (rfl : 8 + 1 = 9) ?_
                obtain ⟨T457, X457, e457, st457⟩ := getF X456 hx hZ hown (host := "") (Or.inl (hw _ (own_M 64 rfl))) Via.refl e456 r455 (g := (mkF m 9 #[.val (.ref a0), .val (.int (0 : Int32)), .val (.int (1 : Int32))] [(.ref a0), (.int (1 : Int32))])) rfl rfl (hb hby d_hsh_9)
                refine own_go st457 ?_
                show own_Got p e below _ T457 (mkF m 12 #[.val (.ref a0), .val (.int (0 : Int32)), .val (.int (1 : Int32))] [(.int (4 : Int32)), (.int (1 : Int32))])
                refine g_icF X457 hx hby d_hsh_12 (tlt (by decide : (1 : Int32) < (4 : Int32))).2.1 (rfl : 12 + 3 = 15) ?_
                refine g_bipush X457 hx hby (31 : Int32) d_hsh_15 (by decide) (rfl : 15 + 2 = 17) ?_
                refine g_iloadN X457 hx hby d_hsh_17 rfl (rfl : 17 + 1 = 18) ?_
                refine g_imul X457 hx hby d_hsh_18 (rfl : 18 + 1 = 19) ?_
                rw [(by decide : ((31 : Int32) * (0 : Int32)) = (0 : Int32))]
                refine g_aloadN X457 hx hby d_hsh_19 rfl rfl (rfl : 19 + 1 = 20) ?_
                obtain ⟨T458, X458, e458, st458⟩ := getF X457 hx hZ hown (host := "") (Or.inl (hw _ (own_M 60 rfl))) Via.refl e457 hp1 (g := (mkF m 20 #[.val (.ref a0), .val (.int (0 : Int32)), .val (.int (1 : Int32))] [(.ref a0), (.int (0 : Int32))])) rfl rfl (hb hby d_hsh_20)
                refine own_go st458 ?_
                show own_Got p e below _ T458 (mkF m 23 #[.val (.ref a0), .val (.int (0 : Int32)), .val (.int (1 : Int32))] [(.ref ax), (.int (0 : Int32))])
                refine g_iloadN X458 hx hby d_hsh_23 rfl (rfl : 23 + 1 = 24) ?_
                obtain ⟨cq459, kq459, q459a, q459b, q459c⟩ := isOf hZ e458 hp4
                obtain ⟨_, _, ⟨T459, L459, k459, n459⟩, -, X459, ⟨Lc459, hQ459, l459, y459, z459⟩, st459⟩ := X458.virtualBack hx (y := mN7) (z := mN7) hown (mvT hZ (hw _ (own_M 82 rfl))) (mvT hZ (hw _ (own_M 83 rfl))) (notFace_of_selects (args := #[]) (mvT hZ (hw _ (own_M 85 rfl)))) (mvT hZ (hw _ (own_M 85 rfl))) (mvT hZ (hw _ (own_M 84 rfl))) (by decide) (backOf (W := 1) (rm_cha1 l Z aT hw [] ax ob kb cd n vs _ _ _ _ _ g1 w1 h0 n0 Z0 hp4 hp5 hp6 hp7 hp8 hp9 hp10 hp11 hp12 hg1 hch hr1 hw1) hZ (hw _ (own_M 86 rfl)) (hw _ (own_M 3 rfl)) (by decide) (by decide)) q459a q459c (g := (mkF m 24 #[.val (.ref a0), .val (.int (0 : Int32)), .val (.int (1 : Int32))] [(.int (1 : Int32)), (.ref ax), (.int (0 : Int32))])) rfl (by rw [hml]; rfl) (Steps.refl _) (argsL := [(.int (1 : Int32))]) (rest := [(.int (0 : Int32))]) (lenOf pd18 rfl) rfl (by show 2 * 0 + _ ≤ _; exact Nat.le_of_eq rfl) (hb hby d_hsh_24) (fun _ _ => ⟨rfl, e458, (by decide : 0 + 0 ≤ _), (by decide : 0 + 0 ≤ _)⟩)
                dsimp only [Pt.U, Pt.locs, Pt.cells, Pt.slots] at X459 l459 y459 z459 st459 hQ459
                subst l459 y459 z459
                obtain ⟨rfl, N459q, eq459⟩ := hQ459
                have N459 := Fr.app N0 N459q
                refine own_tr st459 ?_
                show own_Got p e below _ T459 (mkF m 27 #[.val (.ref a0), .val (.int (0 : Int32)), .val (.int (1 : Int32))] [(.int c1), (.int (0 : Int32))])
                refine g_iadd X459 hx hby d_hsh_27 (rfl : 27 + 1 = 28) ?_
                refine g_istoreN X459 hx hby #[.val (.ref a0), .val (.int ((0 : Int32) + c1)), .val (.int (1 : Int32))] d_hsh_28 rfl (rfl : 28 + 1 = 29) ?_
                refine g_iinc X459 hx hby #[.val (.ref a0), .val (.int ((0 : Int32) + c1)), .val (.int ((1 : Int32) + (1 : Int32)))] d_hsh_29 rfl rfl (rfl : 29 + 3 = 32) ?_
                rw [(by decide : ((1 : Int32) + (1 : Int32)) = (2 : Int32))]
                refine g_goto X459 hx hby d_hsh_32 (by decide) (pc' := 7) (by decide) ?_
                refine g_iloadN X459 hx hby d_hsh_7 rfl (rfl : 7 + 1 = 8) ?_
                refine g_aloadN X459 hx hby d_hsh_8 rfl rfl (rfl : 8 + 1 = 9) ?_
                obtain ⟨T460, X460, e460, st460⟩ := getF X459 hx hZ hown (host := "") (Or.inl (hw _ (own_M 64 rfl))) Via.refl eq459 r455 (g := (mkF m 9 #[.val (.ref a0), .val (.int ((0 : Int32) + c1)), .val (.int (2 : Int32))] [(.ref a0), (.int (2 : Int32))])) rfl rfl (hb hby d_hsh_9)
                refine own_go st460 ?_
                show own_Got p e below _ T460 (mkF m 12 #[.val (.ref a0), .val (.int ((0 : Int32) + c1)), .val (.int (2 : Int32))] [(.int (4 : Int32)), (.int (2 : Int32))])
                refine g_icF X460 hx hby d_hsh_12 (tlt (by decide : (2 : Int32) < (4 : Int32))).2.1 (rfl : 12 + 3 = 15) ?_
                refine g_bipush X460 hx hby (31 : Int32) d_hsh_15 (by decide) (rfl : 15 + 2 = 17) ?_
                refine g_iloadN X460 hx hby d_hsh_17 rfl (rfl : 17 + 1 = 18) ?_
                refine g_imul X460 hx hby d_hsh_18 (rfl : 18 + 1 = 19) ?_
                refine g_aloadN X460 hx hby d_hsh_19 rfl rfl (rfl : 19 + 1 = 20) ?_
                obtain ⟨T461, X461, e461, st461⟩ := getF X460 hx hZ hown (host := "") (Or.inl (hw _ (own_M 60 rfl))) Via.refl e460 hp1 (g := (mkF m 20 #[.val (.ref a0), .val (.int ((0 : Int32) + c1)), .val (.int (2 : Int32))] [(.ref a0), (.int ((31 : Int32) * ((0 : Int32) + c1)))])) rfl rfl (hb hby d_hsh_20)
                refine own_go st461 ?_
                show own_Got p e below _ T461 (mkF m 23 #[.val (.ref a0), .val (.int ((0 : Int32) + c1)), .val (.int (2 : Int32))] [(.ref ax), (.int ((31 : Int32) * ((0 : Int32) + c1)))])
                refine g_iloadN X461 hx hby d_hsh_23 rfl (rfl : 23 + 1 = 24) ?_
                obtain ⟨cq462, kq462, q462a, q462b, q462c⟩ := isOf hZ e461 hp4
                obtain ⟨_, _, ⟨T462, L462, k462, n462⟩, -, X462, ⟨Lc462, hQ462, l462, y462, z462⟩, st462⟩ := X461.virtualBack hx (y := mN7) (z := mN7) hown (mvT hZ (hw _ (own_M 82 rfl))) (mvT hZ (hw _ (own_M 83 rfl))) (notFace_of_selects (args := #[]) (mvT hZ (hw _ (own_M 85 rfl)))) (mvT hZ (hw _ (own_M 85 rfl))) (mvT hZ (hw _ (own_M 84 rfl))) (by decide) (backOf (W := 1) (rm_cha2 l Z aT hw [] ax ob kb cd n vs _ _ _ _ _ g1 w1 h0 n0 Z0 hp4 hp5 hp6 hp7 hp8 hp9 hp10 hp11 hp12 hg1 hch hr2 hw1) hZ (hw _ (own_M 86 rfl)) (hw _ (own_M 3 rfl)) (by decide) (by decide)) q462a q462c (g := (mkF m 24 #[.val (.ref a0), .val (.int ((0 : Int32) + c1)), .val (.int (2 : Int32))] [(.int (2 : Int32)), (.ref ax), (.int ((31 : Int32) * ((0 : Int32) + c1)))])) rfl (by rw [hml]; rfl) (Steps.refl _) (argsL := [(.int (2 : Int32))]) (rest := [(.int ((31 : Int32) * ((0 : Int32) + c1)))]) (lenOf pd18 rfl) rfl (by show 2 * 0 + _ ≤ _; exact Nat.le_of_eq rfl) (hb hby d_hsh_24) (fun _ _ => ⟨rfl, e461, (by decide : 0 + 0 ≤ _), (by decide : 0 + 0 ≤ _)⟩)
                dsimp only [Pt.U, Pt.locs, Pt.cells, Pt.slots] at X462 l462 y462 z462 st462 hQ462
                subst l462 y462 z462
                obtain ⟨rfl, N462q, eq462⟩ := hQ462
                have N462 := Fr.app N459 N462q
                refine own_tr st462 ?_
                show own_Got p e below _ T462 (mkF m 27 #[.val (.ref a0), .val (.int ((0 : Int32) + c1)), .val (.int (2 : Int32))] [(.int c2), (.int ((31 : Int32) * ((0 : Int32) + c1)))])
                refine g_iadd X462 hx hby d_hsh_27 (rfl : 27 + 1 = 28) ?_
                refine g_istoreN X462 hx hby #[.val (.ref a0), .val (.int (((31 : Int32) * ((0 : Int32) + c1)) + c2)), .val (.int (2 : Int32))] d_hsh_28 rfl (rfl : 28 + 1 = 29) ?_
                refine g_iinc X462 hx hby #[.val (.ref a0), .val (.int (((31 : Int32) * ((0 : Int32) + c1)) + c2)), .val (.int ((2 : Int32) + (1 : Int32)))] d_hsh_29 rfl rfl (rfl : 29 + 3 = 32) ?_
                rw [(by decide : ((2 : Int32) + (1 : Int32)) = (3 : Int32))]
                refine g_goto X462 hx hby d_hsh_32 (by decide) (pc' := 7) (by decide) ?_
                refine g_iloadN X462 hx hby d_hsh_7 rfl (rfl : 7 + 1 = 8) ?_
                refine g_aloadN X462 hx hby d_hsh_8 rfl rfl (rfl : 8 + 1 = 9) ?_
                obtain ⟨T463, X463, e463, st463⟩ := getF X462 hx hZ hown (host := "") (Or.inl (hw _ (own_M 64 rfl))) Via.refl eq462 r455 (g := (mkF m 9 #[.val (.ref a0), .val (.int (((31 : Int32) * ((0 : Int32) + c1)) + c2)), .val (.int (3 : Int32))] [(.ref a0), (.int (3 : Int32))])) rfl rfl (hb hby d_hsh_9)
                refine own_go st463 ?_
                show own_Got p e below _ T463 (mkF m 12 #[.val (.ref a0), .val (.int (((31 : Int32) * ((0 : Int32) + c1)) + c2)), .val (.int (3 : Int32))] [(.int (4 : Int32)), (.int (3 : Int32))])
                refine g_icF X463 hx hby d_hsh_12 (tlt (by decide : (3 : Int32) < (4 : Int32))).2.1 (rfl : 12 + 3 = 15) ?_
                refine g_bipush X463 hx hby (31 : Int32) d_hsh_15 (by decide) (rfl : 15 + 2 = 17) ?_
                refine g_iloadN X463 hx hby d_hsh_17 rfl (rfl : 17 + 1 = 18) ?_
                refine g_imul X463 hx hby d_hsh_18 (rfl : 18 + 1 = 19) ?_
                refine g_aloadN X463 hx hby d_hsh_19 rfl rfl (rfl : 19 + 1 = 20) ?_
                obtain ⟨T464, X464, e464, st464⟩ := getF X463 hx hZ hown (host := "") (Or.inl (hw _ (own_M 60 rfl))) Via.refl e463 hp1 (g := (mkF m 20 #[.val (.ref a0), .val (.int (((31 : Int32) * ((0 : Int32) + c1)) + c2)), .val (.int (3 : Int32))] [(.ref a0), (.int ((31 : Int32) * (((31 : Int32) * ((0 : Int32) + c1)) + c2)))])) rfl rfl (hb hby d_hsh_20)
                refine own_go st464 ?_
                show own_Got p e below _ T464 (mkF m 23 #[.val (.ref a0), .val (.int (((31 : Int32) * ((0 : Int32) + c1)) + c2)), .val (.int (3 : Int32))] [(.ref ax), (.int ((31 : Int32) * (((31 : Int32) * ((0 : Int32) + c1)) + c2)))])
                refine g_iloadN X464 hx hby d_hsh_23 rfl (rfl : 23 + 1 = 24) ?_
                obtain ⟨cq465, kq465, q465a, q465b, q465c⟩ := isOf hZ e464 hp4
                obtain ⟨_, _, ⟨T465, L465, k465, n465⟩, -, X465, ⟨Lc465, hQ465, l465, y465, z465⟩, st465⟩ := X464.virtualBack hx (y := mN7) (z := mN7) hown (mvT hZ (hw _ (own_M 82 rfl))) (mvT hZ (hw _ (own_M 83 rfl))) (notFace_of_selects (args := #[]) (mvT hZ (hw _ (own_M 85 rfl)))) (mvT hZ (hw _ (own_M 85 rfl))) (mvT hZ (hw _ (own_M 84 rfl))) (by decide) (backOf (W := 1) (rm_cha3 l Z aT hw [] ax ob kb cd n vs _ _ _ _ _ g1 w1 h0 n0 Z0 hp4 hp5 hp6 hp7 hp8 hp9 hp10 hp11 hp12 hg1 hch hr3 hw1) hZ (hw _ (own_M 86 rfl)) (hw _ (own_M 3 rfl)) (by decide) (by decide)) q465a q465c (g := (mkF m 24 #[.val (.ref a0), .val (.int (((31 : Int32) * ((0 : Int32) + c1)) + c2)), .val (.int (3 : Int32))] [(.int (3 : Int32)), (.ref ax), (.int ((31 : Int32) * (((31 : Int32) * ((0 : Int32) + c1)) + c2)))])) rfl (by rw [hml]; rfl) (Steps.refl _) (argsL := [(.int (3 : Int32))]) (rest := [(.int ((31 : Int32) * (((31 : Int32) * ((0 : Int32) + c1)) + c2)))]) (lenOf pd18 rfl) rfl (by show 2 * 0 + _ ≤ _; exact Nat.le_of_eq rfl) (hb hby d_hsh_24) (fun _ _ => ⟨rfl, e464, (by decide : 0 + 0 ≤ _), (by decide : 0 + 0 ≤ _)⟩)
                dsimp only [Pt.U, Pt.locs, Pt.cells, Pt.slots] at X465 l465 y465 z465 st465 hQ465
                subst l465 y465 z465
                obtain ⟨rfl, N465q, eq465⟩ := hQ465
                have N465 := Fr.app N462 N465q
                refine own_tr st465 ?_
                show own_Got p e below _ T465 (mkF m 27 #[.val (.ref a0), .val (.int (((31 : Int32) * ((0 : Int32) + c1)) + c2)), .val (.int (3 : Int32))] [(.int c3), (.int ((31 : Int32) * (((31 : Int32) * ((0 : Int32) + c1)) + c2)))])
                refine g_iadd X465 hx hby d_hsh_27 (rfl : 27 + 1 = 28) ?_
                refine g_istoreN X465 hx hby #[.val (.ref a0), .val (.int (((31 : Int32) * (((31 : Int32) * ((0 : Int32) + c1)) + c2)) + c3)), .val (.int (3 : Int32))] d_hsh_28 rfl (rfl : 28 + 1 = 29) ?_
                refine g_iinc X465 hx hby #[.val (.ref a0), .val (.int (((31 : Int32) * (((31 : Int32) * ((0 : Int32) + c1)) + c2)) + c3)), .val (.int ((3 : Int32) + (1 : Int32)))] d_hsh_29 rfl rfl (rfl : 29 + 3 = 32) ?_
                rw [(by decide : ((3 : Int32) + (1 : Int32)) = (4 : Int32))]
                refine g_goto X465 hx hby d_hsh_32 (by decide) (pc' := 7) (by decide) ?_
                refine g_iloadN X465 hx hby d_hsh_7 rfl (rfl : 7 + 1 = 8) ?_
                refine g_aloadN X465 hx hby d_hsh_8 rfl rfl (rfl : 8 + 1 = 9) ?_
                obtain ⟨T466, X466, e466, st466⟩ := getF X465 hx hZ hown (host := "") (Or.inl (hw _ (own_M 64 rfl))) Via.refl eq465 r455 (g := (mkF m 9 #[.val (.ref a0), .val (.int (((31 : Int32) * (((31 : Int32) * ((0 : Int32) + c1)) + c2)) + c3)), .val (.int (4 : Int32))] [(.ref a0), (.int (4 : Int32))])) rfl rfl (hb hby d_hsh_9)
                refine own_go st466 ?_
                show own_Got p e below _ T466 (mkF m 12 #[.val (.ref a0), .val (.int (((31 : Int32) * (((31 : Int32) * ((0 : Int32) + c1)) + c2)) + c3)), .val (.int (4 : Int32))] [(.int (4 : Int32)), (.int (4 : Int32))])
                refine g_icT X466 hx hby d_hsh_12 (flt (by decide : ¬ ((4 : Int32) < (4 : Int32)))).2.1 (by decide) (pc' := 35) (by decide) ?_
                refine g_iloadN X466 hx hby d_hsh_35 rfl (rfl : 35 + 1 = 36) ?_
                refine own_retI X466 hx hby hlk hrt d_hsh_36 (by decide) (by decide) ?_
                show Q_hsh Z a0 x y ax ob kb cd n vs c0 c1 c2 c3 c4 g1 w1 h0 n0 _ T466.heap _
                exact ⟨(congrArg (fun z => some (Value.int z)) (by rw [F_hsh, if_neg c356, if_pos c427, if_neg c429, if_neg c433, if_neg c437, if_neg c444, if_pos c454] <;> rfl)), N465, e466⟩
              · by_cases c467 : y = (5 : Int32)
                · have r468 : Fld Z h0 a0 "com/example/lexsign/lexsign/json/TextSpan" "end" "I" (.int (5 : Int32)) := by have q := hp3; rw [c467] at q; exact q
                  refine g_iconst X0 hx hby (0 : Int32) d_hsh_0 (by decide) (rfl : 0 + 1 = 1) ?_
                  refine g_istoreN X0 hx hby #[.val (.ref a0), .val (.int (0 : Int32)), .unset] d_hsh_1 rfl (rfl : 1 + 1 = 2) ?_
                  refine g_aloadN X0 hx hby d_hsh_2 rfl rfl (rfl : 2 + 1 = 3) ?_
                  obtain ⟨T469, X469, e469, st469⟩ := getF X0 hx hZ hown (host := "") (Or.inl (hw _ (own_M 62 rfl))) Via.refl e0 r428 (g := (mkF m 3 #[.val (.ref a0), .val (.int (0 : Int32)), .unset] [(.ref a0)])) rfl rfl (hb hby d_hsh_3)
                  refine own_go st469 ?_
                  show own_Got p e below _ T469 (mkF m 6 #[.val (.ref a0), .val (.int (0 : Int32)), .unset] [(.int (1 : Int32))])
                  refine g_istoreN X469 hx hby #[.val (.ref a0), .val (.int (0 : Int32)), .val (.int (1 : Int32))] d_hsh_6 rfl (rfl : 6 + 1 = 7) ?_
                  refine g_iloadN X469 hx hby d_hsh_7 rfl (rfl : 7 + 1 = 8) ?_
                  refine g_aloadN X469 hx hby d_hsh_8 rfl rfl (rfl : 8 + 1 = 9) ?_
                  obtain ⟨T470, X470, e470, st470⟩ := getF X469 hx hZ hown (host := "") (Or.inl (hw _ (own_M 64 rfl))) Via.refl e469 r468 (g := (mkF m 9 #[.val (.ref a0), .val (.int (0 : Int32)), .val (.int (1 : Int32))] [(.ref a0), (.int (1 : Int32))])) rfl rfl (hb hby d_hsh_9)
                  refine own_go st470 ?_
                  show own_Got p e below _ T470 (mkF m 12 #[.val (.ref a0), .val (.int (0 : Int32)), .val (.int (1 : Int32))] [(.int (5 : Int32)), (.int (1 : Int32))])
                  refine g_icF X470 hx hby d_hsh_12 (tlt (by decide : (1 : Int32) < (5 : Int32))).2.1 (rfl : 12 + 3 = 15) ?_
                  refine g_bipush X470 hx hby (31 : Int32) d_hsh_15 (by decide) (rfl : 15 + 2 = 17) ?_
                  refine g_iloadN X470 hx hby d_hsh_17 rfl (rfl : 17 + 1 = 18) ?_
                  refine g_imul X470 hx hby d_hsh_18 (rfl : 18 + 1 = 19) ?_
                  rw [(by decide : ((31 : Int32) * (0 : Int32)) = (0 : Int32))]
                  refine g_aloadN X470 hx hby d_hsh_19 rfl rfl (rfl : 19 + 1 = 20) ?_
                  obtain ⟨T471, X471, e471, st471⟩ := getF X470 hx hZ hown (host := "") (Or.inl (hw _ (own_M 60 rfl))) Via.refl e470 hp1 (g := (mkF m 20 #[.val (.ref a0), .val (.int (0 : Int32)), .val (.int (1 : Int32))] [(.ref a0), (.int (0 : Int32))])) rfl rfl (hb hby d_hsh_20)
                  refine own_go st471 ?_
                  show own_Got p e below _ T471 (mkF m 23 #[.val (.ref a0), .val (.int (0 : Int32)), .val (.int (1 : Int32))] [(.ref ax), (.int (0 : Int32))])
                  refine g_iloadN X471 hx hby d_hsh_23 rfl (rfl : 23 + 1 = 24) ?_
                  obtain ⟨cq472, kq472, q472a, q472b, q472c⟩ := isOf hZ e471 hp4
                  obtain ⟨_, _, ⟨T472, L472, k472, n472⟩, -, X472, ⟨Lc472, hQ472, l472, y472, z472⟩, st472⟩ := X471.virtualBack hx (y := mN7) (z := mN7) hown (mvT hZ (hw _ (own_M 82 rfl))) (mvT hZ (hw _ (own_M 83 rfl))) (notFace_of_selects (args := #[]) (mvT hZ (hw _ (own_M 85 rfl)))) (mvT hZ (hw _ (own_M 85 rfl))) (mvT hZ (hw _ (own_M 84 rfl))) (by decide) (backOf (W := 1) (rm_cha1 l Z aT hw [] ax ob kb cd n vs _ _ _ _ _ g1 w1 h0 n0 Z0 hp4 hp5 hp6 hp7 hp8 hp9 hp10 hp11 hp12 hg1 hch hr1 hw1) hZ (hw _ (own_M 86 rfl)) (hw _ (own_M 3 rfl)) (by decide) (by decide)) q472a q472c (g := (mkF m 24 #[.val (.ref a0), .val (.int (0 : Int32)), .val (.int (1 : Int32))] [(.int (1 : Int32)), (.ref ax), (.int (0 : Int32))])) rfl (by rw [hml]; rfl) (Steps.refl _) (argsL := [(.int (1 : Int32))]) (rest := [(.int (0 : Int32))]) (lenOf pd18 rfl) rfl (by show 2 * 0 + _ ≤ _; exact Nat.le_of_eq rfl) (hb hby d_hsh_24) (fun _ _ => ⟨rfl, e471, (by decide : 0 + 0 ≤ _), (by decide : 0 + 0 ≤ _)⟩)
                  dsimp only [Pt.U, Pt.locs, Pt.cells, Pt.slots] at X472 l472 y472 z472 st472 hQ472
                  subst l472 y472 z472
                  obtain ⟨rfl, N472q, eq472⟩ := hQ472
                  have N472 := Fr.app N0 N472q
                  refine own_tr st472 ?_
                  show own_Got p e below _ T472 (mkF m 27 #[.val (.ref a0), .val (.int (0 : Int32)), .val (.int (1 : Int32))] [(.int c1), (.int (0 : Int32))])
                  refine g_iadd X472 hx hby d_hsh_27 (rfl : 27 + 1 = 28) ?_
                  refine g_istoreN X472 hx hby #[.val (.ref a0), .val (.int ((0 : Int32) + c1)), .val (.int (1 : Int32))] d_hsh_28 rfl (rfl : 28 + 1 = 29) ?_
                  refine g_iinc X472 hx hby #[.val (.ref a0), .val (.int ((0 : Int32) + c1)), .val (.int ((1 : Int32) + (1 : Int32)))] d_hsh_29 rfl rfl (rfl : 29 + 3 = 32) ?_
                  rw [(by decide : ((1 : Int32) + (1 : Int32)) = (2 : Int32))]
                  refine g_goto X472 hx hby d_hsh_32 (by decide) (pc' := 7) (by decide) ?_
                  refine g_iloadN X472 hx hby d_hsh_7 rfl (rfl : 7 + 1 = 8) ?_
                  refine g_aloadN X472 hx hby d_hsh_8 rfl rfl (rfl : 8 + 1 = 9) ?_
                  obtain ⟨T473, X473, e473, st473⟩ := getF X472 hx hZ hown (host := "") (Or.inl (hw _ (own_M 64 rfl))) Via.refl eq472 r468 (g := (mkF m 9 #[.val (.ref a0), .val (.int ((0 : Int32) + c1)), .val (.int (2 : Int32))] [(.ref a0), (.int (2 : Int32))])) rfl rfl (hb hby d_hsh_9)
                  refine own_go st473 ?_
                  show own_Got p e below _ T473 (mkF m 12 #[.val (.ref a0), .val (.int ((0 : Int32) + c1)), .val (.int (2 : Int32))] [(.int (5 : Int32)), (.int (2 : Int32))])
                  refine g_icF X473 hx hby d_hsh_12 (tlt (by decide : (2 : Int32) < (5 : Int32))).2.1 (rfl : 12 + 3 = 15) ?_
                  refine g_bipush X473 hx hby (31 : Int32) d_hsh_15 (by decide) (rfl : 15 + 2 = 17) ?_
                  refine g_iloadN X473 hx hby d_hsh_17 rfl (rfl : 17 + 1 = 18) ?_
                  refine g_imul X473 hx hby d_hsh_18 (rfl : 18 + 1 = 19) ?_
                  refine g_aloadN X473 hx hby d_hsh_19 rfl rfl (rfl : 19 + 1 = 20) ?_
                  obtain ⟨T474, X474, e474, st474⟩ := getF X473 hx hZ hown (host := "") (Or.inl (hw _ (own_M 60 rfl))) Via.refl e473 hp1 (g := (mkF m 20 #[.val (.ref a0), .val (.int ((0 : Int32) + c1)), .val (.int (2 : Int32))] [(.ref a0), (.int ((31 : Int32) * ((0 : Int32) + c1)))])) rfl rfl (hb hby d_hsh_20)
                  refine own_go st474 ?_
                  show own_Got p e below _ T474 (mkF m 23 #[.val (.ref a0), .val (.int ((0 : Int32) + c1)), .val (.int (2 : Int32))] [(.ref ax), (.int ((31 : Int32) * ((0 : Int32) + c1)))])
                  refine g_iloadN X474 hx hby d_hsh_23 rfl (rfl : 23 + 1 = 24) ?_
                  obtain ⟨cq475, kq475, q475a, q475b, q475c⟩ := isOf hZ e474 hp4
                  obtain ⟨_, _, ⟨T475, L475, k475, n475⟩, -, X475, ⟨Lc475, hQ475, l475, y475, z475⟩, st475⟩ := X474.virtualBack hx (y := mN7) (z := mN7) hown (mvT hZ (hw _ (own_M 82 rfl))) (mvT hZ (hw _ (own_M 83 rfl))) (notFace_of_selects (args := #[]) (mvT hZ (hw _ (own_M 85 rfl)))) (mvT hZ (hw _ (own_M 85 rfl))) (mvT hZ (hw _ (own_M 84 rfl))) (by decide) (backOf (W := 1) (rm_cha2 l Z aT hw [] ax ob kb cd n vs _ _ _ _ _ g1 w1 h0 n0 Z0 hp4 hp5 hp6 hp7 hp8 hp9 hp10 hp11 hp12 hg1 hch hr2 hw1) hZ (hw _ (own_M 86 rfl)) (hw _ (own_M 3 rfl)) (by decide) (by decide)) q475a q475c (g := (mkF m 24 #[.val (.ref a0), .val (.int ((0 : Int32) + c1)), .val (.int (2 : Int32))] [(.int (2 : Int32)), (.ref ax), (.int ((31 : Int32) * ((0 : Int32) + c1)))])) rfl (by rw [hml]; rfl) (Steps.refl _) (argsL := [(.int (2 : Int32))]) (rest := [(.int ((31 : Int32) * ((0 : Int32) + c1)))]) (lenOf pd18 rfl) rfl (by show 2 * 0 + _ ≤ _; exact Nat.le_of_eq rfl) (hb hby d_hsh_24) (fun _ _ => ⟨rfl, e474, (by decide : 0 + 0 ≤ _), (by decide : 0 + 0 ≤ _)⟩)
                  dsimp only [Pt.U, Pt.locs, Pt.cells, Pt.slots] at X475 l475 y475 z475 st475 hQ475
                  subst l475 y475 z475
                  obtain ⟨rfl, N475q, eq475⟩ := hQ475
                  have N475 := Fr.app N472 N475q
                  refine own_tr st475 ?_
                  show own_Got p e below _ T475 (mkF m 27 #[.val (.ref a0), .val (.int ((0 : Int32) + c1)), .val (.int (2 : Int32))] [(.int c2), (.int ((31 : Int32) * ((0 : Int32) + c1)))])
                  refine g_iadd X475 hx hby d_hsh_27 (rfl : 27 + 1 = 28) ?_
                  refine g_istoreN X475 hx hby #[.val (.ref a0), .val (.int (((31 : Int32) * ((0 : Int32) + c1)) + c2)), .val (.int (2 : Int32))] d_hsh_28 rfl (rfl : 28 + 1 = 29) ?_
                  refine g_iinc X475 hx hby #[.val (.ref a0), .val (.int (((31 : Int32) * ((0 : Int32) + c1)) + c2)), .val (.int ((2 : Int32) + (1 : Int32)))] d_hsh_29 rfl rfl (rfl : 29 + 3 = 32) ?_
                  rw [(by decide : ((2 : Int32) + (1 : Int32)) = (3 : Int32))]
                  refine g_goto X475 hx hby d_hsh_32 (by decide) (pc' := 7) (by decide) ?_
                  refine g_iloadN X475 hx hby d_hsh_7 rfl (rfl : 7 + 1 = 8) ?_
                  refine g_aloadN X475 hx hby d_hsh_8 rfl rfl (rfl : 8 + 1 = 9) ?_
                  obtain ⟨T476, X476, e476, st476⟩ := getF X475 hx hZ hown (host := "") (Or.inl (hw _ (own_M 64 rfl))) Via.refl eq475 r468 (g := (mkF m 9 #[.val (.ref a0), .val (.int (((31 : Int32) * ((0 : Int32) + c1)) + c2)), .val (.int (3 : Int32))] [(.ref a0), (.int (3 : Int32))])) rfl rfl (hb hby d_hsh_9)
                  refine own_go st476 ?_
                  show own_Got p e below _ T476 (mkF m 12 #[.val (.ref a0), .val (.int (((31 : Int32) * ((0 : Int32) + c1)) + c2)), .val (.int (3 : Int32))] [(.int (5 : Int32)), (.int (3 : Int32))])
                  refine g_icF X476 hx hby d_hsh_12 (tlt (by decide : (3 : Int32) < (5 : Int32))).2.1 (rfl : 12 + 3 = 15) ?_
                  refine g_bipush X476 hx hby (31 : Int32) d_hsh_15 (by decide) (rfl : 15 + 2 = 17) ?_
                  refine g_iloadN X476 hx hby d_hsh_17 rfl (rfl : 17 + 1 = 18) ?_
                  refine g_imul X476 hx hby d_hsh_18 (rfl : 18 + 1 = 19) ?_
                  refine g_aloadN X476 hx hby d_hsh_19 rfl rfl (rfl : 19 + 1 = 20) ?_
                  obtain ⟨T477, X477, e477, st477⟩ := getF X476 hx hZ hown (host := "") (Or.inl (hw _ (own_M 60 rfl))) Via.refl e476 hp1 (g := (mkF m 20 #[.val (.ref a0), .val (.int (((31 : Int32) * ((0 : Int32) + c1)) + c2)), .val (.int (3 : Int32))] [(.ref a0), (.int ((31 : Int32) * (((31 : Int32) * ((0 : Int32) + c1)) + c2)))])) rfl rfl (hb hby d_hsh_20)
                  refine own_go st477 ?_
                  show own_Got p e below _ T477 (mkF m 23 #[.val (.ref a0), .val (.int (((31 : Int32) * ((0 : Int32) + c1)) + c2)), .val (.int (3 : Int32))] [(.ref ax), (.int ((31 : Int32) * (((31 : Int32) * ((0 : Int32) + c1)) + c2)))])
                  refine g_iloadN X477 hx hby d_hsh_23 rfl (rfl : 23 + 1 = 24) ?_
                  obtain ⟨cq478, kq478, q478a, q478b, q478c⟩ := isOf hZ e477 hp4
                  obtain ⟨_, _, ⟨T478, L478, k478, n478⟩, -, X478, ⟨Lc478, hQ478, l478, y478, z478⟩, st478⟩ := X477.virtualBack hx (y := mN7) (z := mN7) hown (mvT hZ (hw _ (own_M 82 rfl))) (mvT hZ (hw _ (own_M 83 rfl))) (notFace_of_selects (args := #[]) (mvT hZ (hw _ (own_M 85 rfl)))) (mvT hZ (hw _ (own_M 85 rfl))) (mvT hZ (hw _ (own_M 84 rfl))) (by decide) (backOf (W := 1) (rm_cha3 l Z aT hw [] ax ob kb cd n vs _ _ _ _ _ g1 w1 h0 n0 Z0 hp4 hp5 hp6 hp7 hp8 hp9 hp10 hp11 hp12 hg1 hch hr3 hw1) hZ (hw _ (own_M 86 rfl)) (hw _ (own_M 3 rfl)) (by decide) (by decide)) q478a q478c (g := (mkF m 24 #[.val (.ref a0), .val (.int (((31 : Int32) * ((0 : Int32) + c1)) + c2)), .val (.int (3 : Int32))] [(.int (3 : Int32)), (.ref ax), (.int ((31 : Int32) * (((31 : Int32) * ((0 : Int32) + c1)) + c2)))])) rfl (by rw [hml]; rfl) (Steps.refl _) (argsL := [(.int (3 : Int32))]) (rest := [(.int ((31 : Int32) * (((31 : Int32) * ((0 : Int32) + c1)) + c2)))]) (lenOf pd18 rfl) rfl (by show 2 * 0 + _ ≤ _; exact Nat.le_of_eq rfl) (hb hby d_hsh_24) (fun _ _ => ⟨rfl, e477, (by decide : 0 + 0 ≤ _), (by decide : 0 + 0 ≤ _)⟩)
                  dsimp only [Pt.U, Pt.locs, Pt.cells, Pt.slots] at X478 l478 y478 z478 st478 hQ478
                  subst l478 y478 z478
                  obtain ⟨rfl, N478q, eq478⟩ := hQ478
                  have N478 := Fr.app N475 N478q
                  refine own_tr st478 ?_
                  show own_Got p e below _ T478 (mkF m 27 #[.val (.ref a0), .val (.int (((31 : Int32) * ((0 : Int32) + c1)) + c2)), .val (.int (3 : Int32))] [(.int c3), (.int ((31 : Int32) * (((31 : Int32) * ((0 : Int32) + c1)) + c2)))])
                  refine g_iadd X478 hx hby d_hsh_27 (rfl : 27 + 1 = 28) ?_
                  refine g_istoreN X478 hx hby #[.val (.ref a0), .val (.int (((31 : Int32) * (((31 : Int32) * ((0 : Int32) + c1)) + c2)) + c3)), .val (.int (3 : Int32))] d_hsh_28 rfl (rfl : 28 + 1 = 29) ?_
                  refine g_iinc X478 hx hby #[.val (.ref a0), .val (.int (((31 : Int32) * (((31 : Int32) * ((0 : Int32) + c1)) + c2)) + c3)), .val (.int ((3 : Int32) + (1 : Int32)))] d_hsh_29 rfl rfl (rfl : 29 + 3 = 32) ?_
                  rw [(by decide : ((3 : Int32) + (1 : Int32)) = (4 : Int32))]
                  refine g_goto X478 hx hby d_hsh_32 (by decide) (pc' := 7) (by decide) ?_
                  refine g_iloadN X478 hx hby d_hsh_7 rfl (rfl : 7 + 1 = 8) ?_
                  refine g_aloadN X478 hx hby d_hsh_8 rfl rfl (rfl : 8 + 1 = 9) ?_
                  obtain ⟨T479, X479, e479, st479⟩ := getF X478 hx hZ hown (host := "") (Or.inl (hw _ (own_M 64 rfl))) Via.refl eq478 r468 (g := (mkF m 9 #[.val (.ref a0), .val (.int (((31 : Int32) * (((31 : Int32) * ((0 : Int32) + c1)) + c2)) + c3)), .val (.int (4 : Int32))] [(.ref a0), (.int (4 : Int32))])) rfl rfl (hb hby d_hsh_9)
                  refine own_go st479 ?_
                  show own_Got p e below _ T479 (mkF m 12 #[.val (.ref a0), .val (.int (((31 : Int32) * (((31 : Int32) * ((0 : Int32) + c1)) + c2)) + c3)), .val (.int (4 : Int32))] [(.int (5 : Int32)), (.int (4 : Int32))])
                  refine g_icF X479 hx hby d_hsh_12 (tlt (by decide : (4 : Int32) < (5 : Int32))).2.1 (rfl : 12 + 3 = 15) ?_
                  refine g_bipush X479 hx hby (31 : Int32) d_hsh_15 (by decide) (rfl : 15 + 2 = 17) ?_
                  refine g_iloadN X479 hx hby d_hsh_17 rfl (rfl : 17 + 1 = 18) ?_
                  refine g_imul X479 hx hby d_hsh_18 (rfl : 18 + 1 = 19) ?_
                  refine g_aloadN X479 hx hby d_hsh_19 rfl rfl (rfl : 19 + 1 = 20) ?_
                  obtain ⟨T480, X480, e480, st480⟩ := getF X479 hx hZ hown (host := "") (Or.inl (hw _ (own_M 60 rfl))) Via.refl e479 hp1 (g := (mkF m 20 #[.val (.ref a0), .val (.int (((31 : Int32) * (((31 : Int32) * ((0 : Int32) + c1)) + c2)) + c3)), .val (.int (4 : Int32))] [(.ref a0), (.int ((31 : Int32) * (((31 : Int32) * (((31 : Int32) * ((0 : Int32) + c1)) + c2)) + c3)))])) rfl rfl (hb hby d_hsh_20)
                  refine own_go st480 ?_
                  show own_Got p e below _ T480 (mkF m 23 #[.val (.ref a0), .val (.int (((31 : Int32) * (((31 : Int32) * ((0 : Int32) + c1)) + c2)) + c3)), .val (.int (4 : Int32))] [(.ref ax), (.int ((31 : Int32) * (((31 : Int32) * (((31 : Int32) * ((0 : Int32) + c1)) + c2)) + c3)))])
                  refine g_iloadN X480 hx hby d_hsh_23 rfl (rfl : 23 + 1 = 24) ?_
                  obtain ⟨cq481, kq481, q481a, q481b, q481c⟩ := isOf hZ e480 hp4
                  obtain ⟨_, _, ⟨T481, L481, k481, n481⟩, -, X481, ⟨Lc481, hQ481, l481, y481, z481⟩, st481⟩ := X480.virtualBack hx (y := mN7) (z := mN7) hown (mvT hZ (hw _ (own_M 82 rfl))) (mvT hZ (hw _ (own_M 83 rfl))) (notFace_of_selects (args := #[]) (mvT hZ (hw _ (own_M 85 rfl)))) (mvT hZ (hw _ (own_M 85 rfl))) (mvT hZ (hw _ (own_M 84 rfl))) (by decide) (backOf (W := 1) (rm_cha4 l Z aT hw [] ax ob kb cd n vs _ _ _ _ _ g1 w1 h0 n0 Z0 hp4 hp5 hp6 hp7 hp8 hp9 hp10 hp11 hp12 hg1 hch hr4 hw1) hZ (hw _ (own_M 86 rfl)) (hw _ (own_M 3 rfl)) (by decide) (by decide)) q481a q481c (g := (mkF m 24 #[.val (.ref a0), .val (.int (((31 : Int32) * (((31 : Int32) * ((0 : Int32) + c1)) + c2)) + c3)), .val (.int (4 : Int32))] [(.int (4 : Int32)), (.ref ax), (.int ((31 : Int32) * (((31 : Int32) * (((31 : Int32) * ((0 : Int32) + c1)) + c2)) + c3)))])) rfl (by rw [hml]; rfl) (Steps.refl _) (argsL := [(.int (4 : Int32))]) (rest := [(.int ((31 : Int32) * (((31 : Int32) * (((31 : Int32) * ((0 : Int32) + c1)) + c2)) + c3)))]) (lenOf pd18 rfl) rfl (by show 2 * 0 + _ ≤ _; exact Nat.le_of_eq rfl) (hb hby d_hsh_24) (fun _ _ => ⟨rfl, e480, (by decide : 0 + 0 ≤ _), (by decide : 0 + 0 ≤ _)⟩)
                  dsimp only [Pt.U, Pt.locs, Pt.cells, Pt.slots] at X481 l481 y481 z481 st481 hQ481
                  subst l481 y481 z481
                  obtain ⟨rfl, N481q, eq481⟩ := hQ481
                  have N481 := Fr.app N478 N481q
                  refine own_tr st481 ?_
                  show own_Got p e below _ T481 (mkF m 27 #[.val (.ref a0), .val (.int (((31 : Int32) * (((31 : Int32) * ((0 : Int32) + c1)) + c2)) + c3)), .val (.int (4 : Int32))] [(.int c4), (.int ((31 : Int32) * (((31 : Int32) * (((31 : Int32) * ((0 : Int32) + c1)) + c2)) + c3)))])
                  refine g_iadd X481 hx hby d_hsh_27 (rfl : 27 + 1 = 28) ?_
                  refine g_istoreN X481 hx hby #[.val (.ref a0), .val (.int (((31 : Int32) * (((31 : Int32) * (((31 : Int32) * ((0 : Int32) + c1)) + c2)) + c3)) + c4)), .val (.int (4 : Int32))] d_hsh_28 rfl (rfl : 28 + 1 = 29) ?_
                  refine g_iinc X481 hx hby #[.val (.ref a0), .val (.int (((31 : Int32) * (((31 : Int32) * (((31 : Int32) * ((0 : Int32) + c1)) + c2)) + c3)) + c4)), .val (.int ((4 : Int32) + (1 : Int32)))] d_hsh_29 rfl rfl (rfl : 29 + 3 = 32) ?_
                  rw [(by decide : ((4 : Int32) + (1 : Int32)) = (5 : Int32))]
                  refine g_goto X481 hx hby d_hsh_32 (by decide) (pc' := 7) (by decide) ?_
                  refine g_iloadN X481 hx hby d_hsh_7 rfl (rfl : 7 + 1 = 8) ?_
                  refine g_aloadN X481 hx hby d_hsh_8 rfl rfl (rfl : 8 + 1 = 9) ?_
                  obtain ⟨T482, X482, e482, st482⟩ := getF X481 hx hZ hown (host := "") (Or.inl (hw _ (own_M 64 rfl))) Via.refl eq481 r468 (g := (mkF m 9 #[.val (.ref a0), .val (.int (((31 : Int32) * (((31 : Int32) * (((31 : Int32) * ((0 : Int32) + c1)) + c2)) + c3)) + c4)), .val (.int (5 : Int32))] [(.ref a0), (.int (5 : Int32))])) rfl rfl (hb hby d_hsh_9)
                  refine own_go st482 ?_
                  show own_Got p e below _ T482 (mkF m 12 #[.val (.ref a0), .val (.int (((31 : Int32) * (((31 : Int32) * (((31 : Int32) * ((0 : Int32) + c1)) + c2)) + c3)) + c4)), .val (.int (5 : Int32))] [(.int (5 : Int32)), (.int (5 : Int32))])
                  refine g_icT X482 hx hby d_hsh_12 (flt (by decide : ¬ ((5 : Int32) < (5 : Int32)))).2.1 (by decide) (pc' := 35) (by decide) ?_
                  refine g_iloadN X482 hx hby d_hsh_35 rfl (rfl : 35 + 1 = 36) ?_
                  refine own_retI X482 hx hby hlk hrt d_hsh_36 (by decide) (by decide) ?_
                  show Q_hsh Z a0 x y ax ob kb cd n vs c0 c1 c2 c3 c4 g1 w1 h0 n0 _ T482.heap _
                  exact ⟨(congrArg (fun z => some (Value.int z)) (by rw [F_hsh, if_neg c356, if_pos c427, if_neg c429, if_neg c433, if_neg c437, if_neg c444, if_neg c454, if_pos c467] <;> rfl)), N481, e482⟩
                · exact (own_no6 (own_inE hse) c429 c433 c437 c444 c454 c467).elim
    · by_cases c483 : x = (2 : Int32)
      · have r484 : Fld Z h0 a0 "com/example/lexsign/lexsign/json/TextSpan" "start" "I" (.int (2 : Int32)) := by have q := hp2; rw [c483] at q; exact q
        by_cases c485 : y = (0 : Int32)
        · have r486 : Fld Z h0 a0 "com/example/lexsign/lexsign/json/TextSpan" "end" "I" (.int (0 : Int32)) := by have q := hp3; rw [c485] at q; exact q
          refine g_iconst X0 hx hby (0 : Int32) d_hsh_0 (by decide) (rfl : 0 + 1 = 1) ?_
          refine g_istoreN X0 hx hby #[.val (.ref a0), .val (.int (0 : Int32)), .unset] d_hsh_1 rfl (rfl : 1 + 1 = 2) ?_
          refine g_aloadN X0 hx hby d_hsh_2 rfl rfl (rfl : 2 + 1 = 3) ?_
          obtain ⟨T487, X487, e487, st487⟩ := getF X0 hx hZ hown (host := "") (Or.inl (hw _ (own_M 62 rfl))) Via.refl e0 r484 (g := (mkF m 3 #[.val (.ref a0), .val (.int (0 : Int32)), .unset] [(.ref a0)])) rfl rfl (hb hby d_hsh_3)
          refine own_go st487 ?_
          show own_Got p e below _ T487 (mkF m 6 #[.val (.ref a0), .val (.int (0 : Int32)), .unset] [(.int (2 : Int32))])
          refine g_istoreN X487 hx hby #[.val (.ref a0), .val (.int (0 : Int32)), .val (.int (2 : Int32))] d_hsh_6 rfl (rfl : 6 + 1 = 7) ?_
          refine g_iloadN X487 hx hby d_hsh_7 rfl (rfl : 7 + 1 = 8) ?_
          refine g_aloadN X487 hx hby d_hsh_8 rfl rfl (rfl : 8 + 1 = 9) ?_
          obtain ⟨T488, X488, e488, st488⟩ := getF X487 hx hZ hown (host := "") (Or.inl (hw _ (own_M 64 rfl))) Via.refl e487 r486 (g := (mkF m 9 #[.val (.ref a0), .val (.int (0 : Int32)), .val (.int (2 : Int32))] [(.ref a0), (.int (2 : Int32))])) rfl rfl (hb hby d_hsh_9)
          refine own_go st488 ?_
          show own_Got p e below _ T488 (mkF m 12 #[.val (.ref a0), .val (.int (0 : Int32)), .val (.int (2 : Int32))] [(.int (0 : Int32)), (.int (2 : Int32))])
          refine g_icT X488 hx hby d_hsh_12 (flt (by decide : ¬ ((2 : Int32) < (0 : Int32)))).2.1 (by decide) (pc' := 35) (by decide) ?_
          refine g_iloadN X488 hx hby d_hsh_35 rfl (rfl : 35 + 1 = 36) ?_
          refine own_retI X488 hx hby hlk hrt d_hsh_36 (by decide) (by decide) ?_
          show Q_hsh Z a0 x y ax ob kb cd n vs c0 c1 c2 c3 c4 g1 w1 h0 n0 _ T488.heap _
          exact ⟨(congrArg (fun z => some (Value.int z)) (by rw [F_hsh, if_neg c356, if_neg c427, if_pos c483, if_pos c485] <;> rfl)), N0, e488⟩
        · by_cases c489 : y = (1 : Int32)
          · have r490 : Fld Z h0 a0 "com/example/lexsign/lexsign/json/TextSpan" "end" "I" (.int (1 : Int32)) := by have q := hp3; rw [c489] at q; exact q
            refine g_iconst X0 hx hby (0 : Int32) d_hsh_0 (by decide) (rfl : 0 + 1 = 1) ?_
            refine g_istoreN X0 hx hby #[.val (.ref a0), .val (.int (0 : Int32)), .unset] d_hsh_1 rfl (rfl : 1 + 1 = 2) ?_
            refine g_aloadN X0 hx hby d_hsh_2 rfl rfl (rfl : 2 + 1 = 3) ?_
            obtain ⟨T491, X491, e491, st491⟩ := getF X0 hx hZ hown (host := "") (Or.inl (hw _ (own_M 62 rfl))) Via.refl e0 r484 (g := (mkF m 3 #[.val (.ref a0), .val (.int (0 : Int32)), .unset] [(.ref a0)])) rfl rfl (hb hby d_hsh_3)
            refine own_go st491 ?_
            show own_Got p e below _ T491 (mkF m 6 #[.val (.ref a0), .val (.int (0 : Int32)), .unset] [(.int (2 : Int32))])
            refine g_istoreN X491 hx hby #[.val (.ref a0), .val (.int (0 : Int32)), .val (.int (2 : Int32))] d_hsh_6 rfl (rfl : 6 + 1 = 7) ?_
            refine g_iloadN X491 hx hby d_hsh_7 rfl (rfl : 7 + 1 = 8) ?_
            refine g_aloadN X491 hx hby d_hsh_8 rfl rfl (rfl : 8 + 1 = 9) ?_
            obtain ⟨T492, X492, e492, st492⟩ := getF X491 hx hZ hown (host := "") (Or.inl (hw _ (own_M 64 rfl))) Via.refl e491 r490 (g := (mkF m 9 #[.val (.ref a0), .val (.int (0 : Int32)), .val (.int (2 : Int32))] [(.ref a0), (.int (2 : Int32))])) rfl rfl (hb hby d_hsh_9)
            refine own_go st492 ?_
            show own_Got p e below _ T492 (mkF m 12 #[.val (.ref a0), .val (.int (0 : Int32)), .val (.int (2 : Int32))] [(.int (1 : Int32)), (.int (2 : Int32))])
            refine g_icT X492 hx hby d_hsh_12 (flt (by decide : ¬ ((2 : Int32) < (1 : Int32)))).2.1 (by decide) (pc' := 35) (by decide) ?_
            refine g_iloadN X492 hx hby d_hsh_35 rfl (rfl : 35 + 1 = 36) ?_
            refine own_retI X492 hx hby hlk hrt d_hsh_36 (by decide) (by decide) ?_
            show Q_hsh Z a0 x y ax ob kb cd n vs c0 c1 c2 c3 c4 g1 w1 h0 n0 _ T492.heap _
            exact ⟨(congrArg (fun z => some (Value.int z)) (by rw [F_hsh, if_neg c356, if_neg c427, if_pos c483, if_neg c485, if_pos c489] <;> rfl)), N0, e492⟩
          · by_cases c493 : y = (2 : Int32)
            · have r494 : Fld Z h0 a0 "com/example/lexsign/lexsign/json/TextSpan" "end" "I" (.int (2 : Int32)) := by have q := hp3; rw [c493] at q; exact q
              refine g_iconst X0 hx hby (0 : Int32) d_hsh_0 (by decide) (rfl : 0 + 1 = 1) ?_
              refine g_istoreN X0 hx hby #[.val (.ref a0), .val (.int (0 : Int32)), .unset] d_hsh_1 rfl (rfl : 1 + 1 = 2) ?_
              refine g_aloadN X0 hx hby d_hsh_2 rfl rfl (rfl : 2 + 1 = 3) ?_
              obtain ⟨T495, X495, e495, st495⟩ := getF X0 hx hZ hown (host := "") (Or.inl (hw _ (own_M 62 rfl))) Via.refl e0 r484 (g := (mkF m 3 #[.val (.ref a0), .val (.int (0 : Int32)), .unset] [(.ref a0)])) rfl rfl (hb hby d_hsh_3)
              refine own_go st495 ?_
              show own_Got p e below _ T495 (mkF m 6 #[.val (.ref a0), .val (.int (0 : Int32)), .unset] [(.int (2 : Int32))])
              refine g_istoreN X495 hx hby #[.val (.ref a0), .val (.int (0 : Int32)), .val (.int (2 : Int32))] d_hsh_6 rfl (rfl : 6 + 1 = 7) ?_
              refine g_iloadN X495 hx hby d_hsh_7 rfl (rfl : 7 + 1 = 8) ?_
              refine g_aloadN X495 hx hby d_hsh_8 rfl rfl (rfl : 8 + 1 = 9) ?_
              obtain ⟨T496, X496, e496, st496⟩ := getF X495 hx hZ hown (host := "") (Or.inl (hw _ (own_M 64 rfl))) Via.refl e495 r494 (g := (mkF m 9 #[.val (.ref a0), .val (.int (0 : Int32)), .val (.int (2 : Int32))] [(.ref a0), (.int (2 : Int32))])) rfl rfl (hb hby d_hsh_9)
              refine own_go st496 ?_
              show own_Got p e below _ T496 (mkF m 12 #[.val (.ref a0), .val (.int (0 : Int32)), .val (.int (2 : Int32))] [(.int (2 : Int32)), (.int (2 : Int32))])
              refine g_icT X496 hx hby d_hsh_12 (flt (by decide : ¬ ((2 : Int32) < (2 : Int32)))).2.1 (by decide) (pc' := 35) (by decide) ?_
              refine g_iloadN X496 hx hby d_hsh_35 rfl (rfl : 35 + 1 = 36) ?_
              refine own_retI X496 hx hby hlk hrt d_hsh_36 (by decide) (by decide) ?_
              show Q_hsh Z a0 x y ax ob kb cd n vs c0 c1 c2 c3 c4 g1 w1 h0 n0 _ T496.heap _
              exact ⟨(congrArg (fun z => some (Value.int z)) (by rw [F_hsh, if_neg c356, if_neg c427, if_pos c483, if_neg c485, if_neg c489, if_pos c493] <;> rfl)), N0, e496⟩
            · by_cases c497 : y = (3 : Int32)
              · have r498 : Fld Z h0 a0 "com/example/lexsign/lexsign/json/TextSpan" "end" "I" (.int (3 : Int32)) := by have q := hp3; rw [c497] at q; exact q
                refine g_iconst X0 hx hby (0 : Int32) d_hsh_0 (by decide) (rfl : 0 + 1 = 1) ?_
                refine g_istoreN X0 hx hby #[.val (.ref a0), .val (.int (0 : Int32)), .unset] d_hsh_1 rfl (rfl : 1 + 1 = 2) ?_
                refine g_aloadN X0 hx hby d_hsh_2 rfl rfl (rfl : 2 + 1 = 3) ?_
                obtain ⟨T499, X499, e499, st499⟩ := getF X0 hx hZ hown (host := "") (Or.inl (hw _ (own_M 62 rfl))) Via.refl e0 r484 (g := (mkF m 3 #[.val (.ref a0), .val (.int (0 : Int32)), .unset] [(.ref a0)])) rfl rfl (hb hby d_hsh_3)
                refine own_go st499 ?_
                show own_Got p e below _ T499 (mkF m 6 #[.val (.ref a0), .val (.int (0 : Int32)), .unset] [(.int (2 : Int32))])
                refine g_istoreN X499 hx hby #[.val (.ref a0), .val (.int (0 : Int32)), .val (.int (2 : Int32))] d_hsh_6 rfl (rfl : 6 + 1 = 7) ?_
                refine g_iloadN X499 hx hby d_hsh_7 rfl (rfl : 7 + 1 = 8) ?_
                refine g_aloadN X499 hx hby d_hsh_8 rfl rfl (rfl : 8 + 1 = 9) ?_
                obtain ⟨T500, X500, e500, st500⟩ := getF X499 hx hZ hown (host := "") (Or.inl (hw _ (own_M 64 rfl))) Via.refl e499 r498 (g := (mkF m 9 #[.val (.ref a0), .val (.int (0 : Int32)), .val (.int (2 : Int32))] [(.ref a0), (.int (2 : Int32))])) rfl rfl (hb hby d_hsh_9)
                refine own_go st500 ?_
                show own_Got p e below _ T500 (mkF m 12 #[.val (.ref a0), .val (.int (0 : Int32)), .val (.int (2 : Int32))] [(.int (3 : Int32)), (.int (2 : Int32))])
                refine g_icF X500 hx hby d_hsh_12 (tlt (by decide : (2 : Int32) < (3 : Int32))).2.1 (rfl : 12 + 3 = 15) ?_
                refine g_bipush X500 hx hby (31 : Int32) d_hsh_15 (by decide) (rfl : 15 + 2 = 17) ?_
                refine g_iloadN X500 hx hby d_hsh_17 rfl (rfl : 17 + 1 = 18) ?_
                refine g_imul X500 hx hby d_hsh_18 (rfl : 18 + 1 = 19) ?_
                rw [(by decide : ((31 : Int32) * (0 : Int32)) = (0 : Int32))]
                refine g_aloadN X500 hx hby d_hsh_19 rfl rfl (rfl : 19 + 1 = 20) ?_
                obtain ⟨T501, X501, e501, st501⟩ := getF X500 hx hZ hown (host := "") (Or.inl (hw _ (own_M 60 rfl))) Via.refl e500 hp1 (g := (mkF m 20 #[.val (.ref a0), .val (.int (0 : Int32)), .val (.int (2 : Int32))] [(.ref a0), (.int (0 : Int32))])) rfl rfl (hb hby d_hsh_20)
                refine own_go st501 ?_
                show own_Got p e below _ T501 (mkF m 23 #[.val (.ref a0), .val (.int (0 : Int32)), .val (.int (2 : Int32))] [(.ref ax), (.int (0 : Int32))])
                refine g_iloadN X501 hx hby d_hsh_23 rfl (rfl : 23 + 1 = 24) ?_
                obtain ⟨cq502, kq502, q502a, q502b, q502c⟩ := isOf hZ e501 hp4
                obtain ⟨_, _, ⟨T502, L502, k502, n502⟩, -, X502, ⟨Lc502, hQ502, l502, y502, z502⟩, st502⟩ := X501.virtualBack hx (y := mN7) (z := mN7) hown (mvT hZ (hw _ (own_M 82 rfl))) (mvT hZ (hw _ (own_M 83 rfl))) (notFace_of_selects (args := #[]) (mvT hZ (hw _ (own_M 85 rfl)))) (mvT hZ (hw _ (own_M 85 rfl))) (mvT hZ (hw _ (own_M 84 rfl))) (by decide) (backOf (W := 1) (rm_cha2 l Z aT hw [] ax ob kb cd n vs _ _ _ _ _ g1 w1 h0 n0 Z0 hp4 hp5 hp6 hp7 hp8 hp9 hp10 hp11 hp12 hg1 hch hr2 hw1) hZ (hw _ (own_M 86 rfl)) (hw _ (own_M 3 rfl)) (by decide) (by decide)) q502a q502c (g := (mkF m 24 #[.val (.ref a0), .val (.int (0 : Int32)), .val (.int (2 : Int32))] [(.int (2 : Int32)), (.ref ax), (.int (0 : Int32))])) rfl (by rw [hml]; rfl) (Steps.refl _) (argsL := [(.int (2 : Int32))]) (rest := [(.int (0 : Int32))]) (lenOf pd18 rfl) rfl (by show 2 * 0 + _ ≤ _; exact Nat.le_of_eq rfl) (hb hby d_hsh_24) (fun _ _ => ⟨rfl, e501, (by decide : 0 + 0 ≤ _), (by decide : 0 + 0 ≤ _)⟩)
                dsimp only [Pt.U, Pt.locs, Pt.cells, Pt.slots] at X502 l502 y502 z502 st502 hQ502
                subst l502 y502 z502
                obtain ⟨rfl, N502q, eq502⟩ := hQ502
                have N502 := Fr.app N0 N502q
                refine own_tr st502 ?_
                show own_Got p e below _ T502 (mkF m 27 #[.val (.ref a0), .val (.int (0 : Int32)), .val (.int (2 : Int32))] [(.int c2), (.int (0 : Int32))])
                refine g_iadd X502 hx hby d_hsh_27 (rfl : 27 + 1 = 28) ?_
                refine g_istoreN X502 hx hby #[.val (.ref a0), .val (.int ((0 : Int32) + c2)), .val (.int (2 : Int32))] d_hsh_28 rfl (rfl : 28 + 1 = 29) ?_
                refine g_iinc X502 hx hby #[.val (.ref a0), .val (.int ((0 : Int32) + c2)), .val (.int ((2 : Int32) + (1 : Int32)))] d_hsh_29 rfl rfl (rfl : 29 + 3 = 32) ?_
                rw [(by decide : ((2 : Int32) + (1 : Int32)) = (3 : Int32))]
                refine g_goto X502 hx hby d_hsh_32 (by decide) (pc' := 7) (by decide) ?_
                refine g_iloadN X502 hx hby d_hsh_7 rfl (rfl : 7 + 1 = 8) ?_
                refine g_aloadN X502 hx hby d_hsh_8 rfl rfl (rfl : 8 + 1 = 9) ?_
                obtain ⟨T503, X503, e503, st503⟩ := getF X502 hx hZ hown (host := "") (Or.inl (hw _ (own_M 64 rfl))) Via.refl eq502 r498 (g := (mkF m 9 #[.val (.ref a0), .val (.int ((0 : Int32) + c2)), .val (.int (3 : Int32))] [(.ref a0), (.int (3 : Int32))])) rfl rfl (hb hby d_hsh_9)
                refine own_go st503 ?_
                show own_Got p e below _ T503 (mkF m 12 #[.val (.ref a0), .val (.int ((0 : Int32) + c2)), .val (.int (3 : Int32))] [(.int (3 : Int32)), (.int (3 : Int32))])
                refine g_icT X503 hx hby d_hsh_12 (flt (by decide : ¬ ((3 : Int32) < (3 : Int32)))).2.1 (by decide) (pc' := 35) (by decide) ?_
                refine g_iloadN X503 hx hby d_hsh_35 rfl (rfl : 35 + 1 = 36) ?_
                refine own_retI X503 hx hby hlk hrt d_hsh_36 (by decide) (by decide) ?_
                show Q_hsh Z a0 x y ax ob kb cd n vs c0 c1 c2 c3 c4 g1 w1 h0 n0 _ T503.heap _
                exact ⟨(congrArg (fun z => some (Value.int z)) (by rw [F_hsh, if_neg c356, if_neg c427, if_pos c483, if_neg c485, if_neg c489, if_neg c493, if_pos c497] <;> rfl)), N502, e503⟩
              · by_cases c504 : y = (4 : Int32)
                · have r505 : Fld Z h0 a0 "com/example/lexsign/lexsign/json/TextSpan" "end" "I" (.int (4 : Int32)) := by have q := hp3; rw [c504] at q; exact q
                  refine g_iconst X0 hx hby (0 : Int32) d_hsh_0 (by decide) (rfl : 0 + 1 = 1) ?_
                  refine g_istoreN X0 hx hby #[.val (.ref a0), .val (.int (0 : Int32)), .unset] d_hsh_1 rfl (rfl : 1 + 1 = 2) ?_
                  refine g_aloadN X0 hx hby d_hsh_2 rfl rfl (rfl : 2 + 1 = 3) ?_
                  obtain ⟨T506, X506, e506, st506⟩ := getF X0 hx hZ hown (host := "") (Or.inl (hw _ (own_M 62 rfl))) Via.refl e0 r484 (g := (mkF m 3 #[.val (.ref a0), .val (.int (0 : Int32)), .unset] [(.ref a0)])) rfl rfl (hb hby d_hsh_3)
                  refine own_go st506 ?_
                  show own_Got p e below _ T506 (mkF m 6 #[.val (.ref a0), .val (.int (0 : Int32)), .unset] [(.int (2 : Int32))])
                  refine g_istoreN X506 hx hby #[.val (.ref a0), .val (.int (0 : Int32)), .val (.int (2 : Int32))] d_hsh_6 rfl (rfl : 6 + 1 = 7) ?_
                  refine g_iloadN X506 hx hby d_hsh_7 rfl (rfl : 7 + 1 = 8) ?_
                  refine g_aloadN X506 hx hby d_hsh_8 rfl rfl (rfl : 8 + 1 = 9) ?_
                  obtain ⟨T507, X507, e507, st507⟩ := getF X506 hx hZ hown (host := "") (Or.inl (hw _ (own_M 64 rfl))) Via.refl e506 r505 (g := (mkF m 9 #[.val (.ref a0), .val (.int (0 : Int32)), .val (.int (2 : Int32))] [(.ref a0), (.int (2 : Int32))])) rfl rfl (hb hby d_hsh_9)
                  refine own_go st507 ?_
                  show own_Got p e below _ T507 (mkF m 12 #[.val (.ref a0), .val (.int (0 : Int32)), .val (.int (2 : Int32))] [(.int (4 : Int32)), (.int (2 : Int32))])
                  refine g_icF X507 hx hby d_hsh_12 (tlt (by decide : (2 : Int32) < (4 : Int32))).2.1 (rfl : 12 + 3 = 15) ?_
                  refine g_bipush X507 hx hby (31 : Int32) d_hsh_15 (by decide) (rfl : 15 + 2 = 17) ?_
                  refine g_iloadN X507 hx hby d_hsh_17 rfl (rfl : 17 + 1 = 18) ?_
                  refine g_imul X507 hx hby d_hsh_18 (rfl : 18 + 1 = 19) ?_
                  rw [(by decide : ((31 : Int32) * (0 : Int32)) = (0 : Int32))]
                  refine g_aloadN X507 hx hby d_hsh_19 rfl rfl (rfl : 19 + 1 = 20) ?_
                  obtain ⟨T508, X508, e508, st508⟩ := getF X507 hx hZ hown (host := "") (Or.inl (hw _ (own_M 60 rfl))) Via.refl e507 hp1 (g := (mkF m 20 #[.val (.ref a0), .val (.int (0 : Int32)), .val (.int (2 : Int32))] [(.ref a0), (.int (0 : Int32))])) rfl rfl (hb hby d_hsh_20)
                  refine own_go st508 ?_
                  show own_Got p e below _ T508 (mkF m 23 #[.val (.ref a0), .val (.int (0 : Int32)), .val (.int (2 : Int32))] [(.ref ax), (.int (0 : Int32))])
                  refine g_iloadN X508 hx hby d_hsh_23 rfl (rfl : 23 + 1 = 24) ?_
                  obtain ⟨cq509, kq509, q509a, q509b, q509c⟩ := isOf hZ e508 hp4
                  obtain ⟨_, _, ⟨T509, L509, k509, n509⟩, -, X509, ⟨Lc509, hQ509, l509, y509, z509⟩, st509⟩ := X508.virtualBack hx (y := mN7) (z := mN7) hown (mvT hZ (hw _ (own_M 82 rfl))) (mvT hZ (hw _ (own_M 83 rfl))) (notFace_of_selects (args := #[]) (mvT hZ (hw _ (own_M 85 rfl)))) (mvT hZ (hw _ (own_M 85 rfl))) (mvT hZ (hw _ (own_M 84 rfl))) (by decide) (backOf (W := 1) (rm_cha2 l Z aT hw [] ax ob kb cd n vs _ _ _ _ _ g1 w1 h0 n0 Z0 hp4 hp5 hp6 hp7 hp8 hp9 hp10 hp11 hp12 hg1 hch hr2 hw1) hZ (hw _ (own_M 86 rfl)) (hw _ (own_M 3 rfl)) (by decide) (by decide)) q509a q509c (g := (mkF m 24 #[.val (.ref a0), .val (.int (0 : Int32)), .val (.int (2 : Int32))] [(.int (2 : Int32)), (.ref ax), (.int (0 : Int32))])) rfl (by rw [hml]; rfl) (Steps.refl _) (argsL := [(.int (2 : Int32))]) (rest := [(.int (0 : Int32))]) (lenOf pd18 rfl) rfl (by show 2 * 0 + _ ≤ _; exact Nat.le_of_eq rfl) (hb hby d_hsh_24) (fun _ _ => ⟨rfl, e508, (by decide : 0 + 0 ≤ _), (by decide : 0 + 0 ≤ _)⟩)
                  dsimp only [Pt.U, Pt.locs, Pt.cells, Pt.slots] at X509 l509 y509 z509 st509 hQ509
                  subst l509 y509 z509
                  obtain ⟨rfl, N509q, eq509⟩ := hQ509
                  have N509 := Fr.app N0 N509q
                  refine own_tr st509 ?_
                  show own_Got p e below _ T509 (mkF m 27 #[.val (.ref a0), .val (.int (0 : Int32)), .val (.int (2 : Int32))] [(.int c2), (.int (0 : Int32))])
                  refine g_iadd X509 hx hby d_hsh_27 (rfl : 27 + 1 = 28) ?_
                  refine g_istoreN X509 hx hby #[.val (.ref a0), .val (.int ((0 : Int32) + c2)), .val (.int (2 : Int32))] d_hsh_28 rfl (rfl : 28 + 1 = 29) ?_
                  refine g_iinc X509 hx hby #[.val (.ref a0), .val (.int ((0 : Int32) + c2)), .val (.int ((2 : Int32) + (1 : Int32)))] d_hsh_29 rfl rfl (rfl : 29 + 3 = 32) ?_
                  rw [(by decide : ((2 : Int32) + (1 : Int32)) = (3 : Int32))]
                  refine g_goto X509 hx hby d_hsh_32 (by decide) (pc' := 7) (by decide) ?_
                  refine g_iloadN X509 hx hby d_hsh_7 rfl (rfl : 7 + 1 = 8) ?_
                  refine g_aloadN X509 hx hby d_hsh_8 rfl rfl (rfl : 8 + 1 = 9) ?_
                  obtain ⟨T510, X510, e510, st510⟩ := getF X509 hx hZ hown (host := "") (Or.inl (hw _ (own_M 64 rfl))) Via.refl eq509 r505 (g := (mkF m 9 #[.val (.ref a0), .val (.int ((0 : Int32) + c2)), .val (.int (3 : Int32))] [(.ref a0), (.int (3 : Int32))])) rfl rfl (hb hby d_hsh_9)
                  refine own_go st510 ?_
                  show own_Got p e below _ T510 (mkF m 12 #[.val (.ref a0), .val (.int ((0 : Int32) + c2)), .val (.int (3 : Int32))] [(.int (4 : Int32)), (.int (3 : Int32))])
                  refine g_icF X510 hx hby d_hsh_12 (tlt (by decide : (3 : Int32) < (4 : Int32))).2.1 (rfl : 12 + 3 = 15) ?_
                  refine g_bipush X510 hx hby (31 : Int32) d_hsh_15 (by decide) (rfl : 15 + 2 = 17) ?_
                  refine g_iloadN X510 hx hby d_hsh_17 rfl (rfl : 17 + 1 = 18) ?_
                  refine g_imul X510 hx hby d_hsh_18 (rfl : 18 + 1 = 19) ?_
                  refine g_aloadN X510 hx hby d_hsh_19 rfl rfl (rfl : 19 + 1 = 20) ?_
                  obtain ⟨T511, X511, e511, st511⟩ := getF X510 hx hZ hown (host := "") (Or.inl (hw _ (own_M 60 rfl))) Via.refl e510 hp1 (g := (mkF m 20 #[.val (.ref a0), .val (.int ((0 : Int32) + c2)), .val (.int (3 : Int32))] [(.ref a0), (.int ((31 : Int32) * ((0 : Int32) + c2)))])) rfl rfl (hb hby d_hsh_20)
                  refine own_go st511 ?_
                  show own_Got p e below _ T511 (mkF m 23 #[.val (.ref a0), .val (.int ((0 : Int32) + c2)), .val (.int (3 : Int32))] [(.ref ax), (.int ((31 : Int32) * ((0 : Int32) + c2)))])
                  refine g_iloadN X511 hx hby d_hsh_23 rfl (rfl : 23 + 1 = 24) ?_
                  obtain ⟨cq512, kq512, q512a, q512b, q512c⟩ := isOf hZ e511 hp4
                  obtain ⟨_, _, ⟨T512, L512, k512, n512⟩, -, X512, ⟨Lc512, hQ512, l512, y512, z512⟩, st512⟩ := X511.virtualBack hx (y := mN7) (z := mN7) hown (mvT hZ (hw _ (own_M 82 rfl))) (mvT hZ (hw _ (own_M 83 rfl))) (notFace_of_selects (args := #[]) (mvT hZ (hw _ (own_M 85 rfl)))) (mvT hZ (hw _ (own_M 85 rfl))) (mvT hZ (hw _ (own_M 84 rfl))) (by decide) (backOf (W := 1) (rm_cha3 l Z aT hw [] ax ob kb cd n vs _ _ _ _ _ g1 w1 h0 n0 Z0 hp4 hp5 hp6 hp7 hp8 hp9 hp10 hp11 hp12 hg1 hch hr3 hw1) hZ (hw _ (own_M 86 rfl)) (hw _ (own_M 3 rfl)) (by decide) (by decide)) q512a q512c (g := (mkF m 24 #[.val (.ref a0), .val (.int ((0 : Int32) + c2)), .val (.int (3 : Int32))] [(.int (3 : Int32)), (.ref ax), (.int ((31 : Int32) * ((0 : Int32) + c2)))])) rfl (by rw [hml]; rfl) (Steps.refl _) (argsL := [(.int (3 : Int32))]) (rest := [(.int ((31 : Int32) * ((0 : Int32) + c2)))]) (lenOf pd18 rfl) rfl (by show 2 * 0 + _ ≤ _; exact Nat.le_of_eq rfl) (hb hby d_hsh_24) (fun _ _ => ⟨rfl, e511, (by decide : 0 + 0 ≤ _), (by decide : 0 + 0 ≤ _)⟩)
                  dsimp only [Pt.U, Pt.locs, Pt.cells, Pt.slots] at X512 l512 y512 z512 st512 hQ512
                  subst l512 y512 z512
                  obtain ⟨rfl, N512q, eq512⟩ := hQ512
                  have N512 := Fr.app N509 N512q
                  refine own_tr st512 ?_
                  show own_Got p e below _ T512 (mkF m 27 #[.val (.ref a0), .val (.int ((0 : Int32) + c2)), .val (.int (3 : Int32))] [(.int c3), (.int ((31 : Int32) * ((0 : Int32) + c2)))])
                  refine g_iadd X512 hx hby d_hsh_27 (rfl : 27 + 1 = 28) ?_
                  refine g_istoreN X512 hx hby #[.val (.ref a0), .val (.int (((31 : Int32) * ((0 : Int32) + c2)) + c3)), .val (.int (3 : Int32))] d_hsh_28 rfl (rfl : 28 + 1 = 29) ?_
                  refine g_iinc X512 hx hby #[.val (.ref a0), .val (.int (((31 : Int32) * ((0 : Int32) + c2)) + c3)), .val (.int ((3 : Int32) + (1 : Int32)))] d_hsh_29 rfl rfl (rfl : 29 + 3 = 32) ?_
                  rw [(by decide : ((3 : Int32) + (1 : Int32)) = (4 : Int32))]
                  refine g_goto X512 hx hby d_hsh_32 (by decide) (pc' := 7) (by decide) ?_
                  refine g_iloadN X512 hx hby d_hsh_7 rfl (rfl : 7 + 1 = 8) ?_
                  refine g_aloadN X512 hx hby d_hsh_8 rfl rfl (rfl : 8 + 1 = 9) ?_
                  obtain ⟨T513, X513, e513, st513⟩ := getF X512 hx hZ hown (host := "") (Or.inl (hw _ (own_M 64 rfl))) Via.refl eq512 r505 (g := (mkF m 9 #[.val (.ref a0), .val (.int (((31 : Int32) * ((0 : Int32) + c2)) + c3)), .val (.int (4 : Int32))] [(.ref a0), (.int (4 : Int32))])) rfl rfl (hb hby d_hsh_9)
                  refine own_go st513 ?_
                  show own_Got p e below _ T513 (mkF m 12 #[.val (.ref a0), .val (.int (((31 : Int32) * ((0 : Int32) + c2)) + c3)), .val (.int (4 : Int32))] [(.int (4 : Int32)), (.int (4 : Int32))])
                  refine g_icT X513 hx hby d_hsh_12 (flt (by decide : ¬ ((4 : Int32) < (4 : Int32)))).2.1 (by decide) (pc' := 35) (by decide) ?_
                  refine g_iloadN X513 hx hby d_hsh_35 rfl (rfl : 35 + 1 = 36) ?_
                  refine own_retI X513 hx hby hlk hrt d_hsh_36 (by decide) (by decide) ?_
                  show Q_hsh Z a0 x y ax ob kb cd n vs c0 c1 c2 c3 c4 g1 w1 h0 n0 _ T513.heap _
                  exact ⟨(congrArg (fun z => some (Value.int z)) (by rw [F_hsh, if_neg c356, if_neg c427, if_pos c483, if_neg c485, if_neg c489, if_neg c493, if_neg c497, if_pos c504] <;> rfl)), N512, e513⟩
                · by_cases c514 : y = (5 : Int32)
                  · have r515 : Fld Z h0 a0 "com/example/lexsign/lexsign/json/TextSpan" "end" "I" (.int (5 : Int32)) := by have q := hp3; rw [c514] at q; exact q
                    refine g_iconst X0 hx hby (0 : Int32) d_hsh_0 (by decide) (rfl : 0 + 1 = 1) ?_
                    refine g_istoreN X0 hx hby #[.val (.ref a0), .val (.int (0 : Int32)), .unset] d_hsh_1 rfl (rfl : 1 + 1 = 2) ?_
                    refine g_aloadN X0 hx hby d_hsh_2 rfl rfl (rfl : 2 + 1 = 3) ?_
                    obtain ⟨T516, X516, e516, st516⟩ := getF X0 hx hZ hown (host := "") (Or.inl (hw _ (own_M 62 rfl))) Via.refl e0 r484 (g := (mkF m 3 #[.val (.ref a0), .val (.int (0 : Int32)), .unset] [(.ref a0)])) rfl rfl (hb hby d_hsh_3)
                    refine own_go st516 ?_
                    show own_Got p e below _ T516 (mkF m 6 #[.val (.ref a0), .val (.int (0 : Int32)), .unset] [(.int (2 : Int32))])
                    refine g_istoreN X516 hx hby #[.val (.ref a0), .val (.int (0 : Int32)), .val (.int (2 : Int32))] d_hsh_6 rfl (rfl : 6 + 1 = 7) ?_
                    refine g_iloadN X516 hx hby d_hsh_7 rfl (rfl : 7 + 1 = 8) ?_
                    refine g_aloadN X516 hx hby d_hsh_8 rfl rfl (rfl : 8 + 1 = 9) ?_
                    obtain ⟨T517, X517, e517, st517⟩ := getF X516 hx hZ hown (host := "") (Or.inl (hw _ (own_M 64 rfl))) Via.refl e516 r515 (g := (mkF m 9 #[.val (.ref a0), .val (.int (0 : Int32)), .val (.int (2 : Int32))] [(.ref a0), (.int (2 : Int32))])) rfl rfl (hb hby d_hsh_9)
                    refine own_go st517 ?_
                    show own_Got p e below _ T517 (mkF m 12 #[.val (.ref a0), .val (.int (0 : Int32)), .val (.int (2 : Int32))] [(.int (5 : Int32)), (.int (2 : Int32))])
                    refine g_icF X517 hx hby d_hsh_12 (tlt (by decide : (2 : Int32) < (5 : Int32))).2.1 (rfl : 12 + 3 = 15) ?_
                    refine g_bipush X517 hx hby (31 : Int32) d_hsh_15 (by decide) (rfl : 15 + 2 = 17) ?_
                    refine g_iloadN X517 hx hby d_hsh_17 rfl (rfl : 17 + 1 = 18) ?_
                    refine g_imul X517 hx hby d_hsh_18 (rfl : 18 + 1 = 19) ?_
                    rw [(by decide : ((31 : Int32) * (0 : Int32)) = (0 : Int32))]
                    refine g_aloadN X517 hx hby d_hsh_19 rfl rfl (rfl : 19 + 1 = 20) ?_
                    obtain ⟨T518, X518, e518, st518⟩ := getF X517 hx hZ hown (host := "") (Or.inl (hw _ (own_M 60 rfl))) Via.refl e517 hp1 (g := (mkF m 20 #[.val (.ref a0), .val (.int (0 : Int32)), .val (.int (2 : Int32))] [(.ref a0), (.int (0 : Int32))])) rfl rfl (hb hby d_hsh_20)
                    refine own_go st518 ?_
                    show own_Got p e below _ T518 (mkF m 23 #[.val (.ref a0), .val (.int (0 : Int32)), .val (.int (2 : Int32))] [(.ref ax), (.int (0 : Int32))])
                    refine g_iloadN X518 hx hby d_hsh_23 rfl (rfl : 23 + 1 = 24) ?_
                    obtain ⟨cq519, kq519, q519a, q519b, q519c⟩ := isOf hZ e518 hp4
                    obtain ⟨_, _, ⟨T519, L519, k519, n519⟩, -, X519, ⟨Lc519, hQ519, l519, y519, z519⟩, st519⟩ := X518.virtualBack hx (y := mN7) (z := mN7) hown (mvT hZ (hw _ (own_M 82 rfl))) (mvT hZ (hw _ (own_M 83 rfl))) (notFace_of_selects (args := #[]) (mvT hZ (hw _ (own_M 85 rfl)))) (mvT hZ (hw _ (own_M 85 rfl))) (mvT hZ (hw _ (own_M 84 rfl))) (by decide) (backOf (W := 1) (rm_cha2 l Z aT hw [] ax ob kb cd n vs _ _ _ _ _ g1 w1 h0 n0 Z0 hp4 hp5 hp6 hp7 hp8 hp9 hp10 hp11 hp12 hg1 hch hr2 hw1) hZ (hw _ (own_M 86 rfl)) (hw _ (own_M 3 rfl)) (by decide) (by decide)) q519a q519c (g := (mkF m 24 #[.val (.ref a0), .val (.int (0 : Int32)), .val (.int (2 : Int32))] [(.int (2 : Int32)), (.ref ax), (.int (0 : Int32))])) rfl (by rw [hml]; rfl) (Steps.refl _) (argsL := [(.int (2 : Int32))]) (rest := [(.int (0 : Int32))]) (lenOf pd18 rfl) rfl (by show 2 * 0 + _ ≤ _; exact Nat.le_of_eq rfl) (hb hby d_hsh_24) (fun _ _ => ⟨rfl, e518, (by decide : 0 + 0 ≤ _), (by decide : 0 + 0 ≤ _)⟩)
                    dsimp only [Pt.U, Pt.locs, Pt.cells, Pt.slots] at X519 l519 y519 z519 st519 hQ519
                    subst l519 y519 z519
                    obtain ⟨rfl, N519q, eq519⟩ := hQ519
                    have N519 := Fr.app N0 N519q
                    refine own_tr st519 ?_
                    show own_Got p e below _ T519 (mkF m 27 #[.val (.ref a0), .val (.int (0 : Int32)), .val (.int (2 : Int32))] [(.int c2), (.int (0 : Int32))])
                    refine g_iadd X519 hx hby d_hsh_27 (rfl : 27 + 1 = 28) ?_
                    refine g_istoreN X519 hx hby #[.val (.ref a0), .val (.int ((0 : Int32) + c2)), .val (.int (2 : Int32))] d_hsh_28 rfl (rfl : 28 + 1 = 29) ?_
                    refine g_iinc X519 hx hby #[.val (.ref a0), .val (.int ((0 : Int32) + c2)), .val (.int ((2 : Int32) + (1 : Int32)))] d_hsh_29 rfl rfl (rfl : 29 + 3 = 32) ?_
                    rw [(by decide : ((2 : Int32) + (1 : Int32)) = (3 : Int32))]
                    refine g_goto X519 hx hby d_hsh_32 (by decide) (pc' := 7) (by decide) ?_
                    refine g_iloadN X519 hx hby d_hsh_7 rfl (rfl : 7 + 1 = 8) ?_
                    refine g_aloadN X519 hx hby d_hsh_8 rfl rfl (rfl : 8 + 1 = 9) ?_
                    obtain ⟨T520, X520, e520, st520⟩ := getF X519 hx hZ hown (host := "") (Or.inl (hw _ (own_M 64 rfl))) Via.refl eq519 r515 (g := (mkF m 9 #[.val (.ref a0), .val (.int ((0 : Int32) + c2)), .val (.int (3 : Int32))] [(.ref a0), (.int (3 : Int32))])) rfl rfl (hb hby d_hsh_9)
                    refine own_go st520 ?_
                    show own_Got p e below _ T520 (mkF m 12 #[.val (.ref a0), .val (.int ((0 : Int32) + c2)), .val (.int (3 : Int32))] [(.int (5 : Int32)), (.int (3 : Int32))])
                    refine g_icF X520 hx hby d_hsh_12 (tlt (by decide : (3 : Int32) < (5 : Int32))).2.1 (rfl : 12 + 3 = 15) ?_
                    refine g_bipush X520 hx hby (31 : Int32) d_hsh_15 (by decide) (rfl : 15 + 2 = 17) ?_
                    refine g_iloadN X520 hx hby d_hsh_17 rfl (rfl : 17 + 1 = 18) ?_
                    refine g_imul X520 hx hby d_hsh_18 (rfl : 18 + 1 = 19) ?_
                    refine g_aloadN X520 hx hby d_hsh_19 rfl rfl (rfl : 19 + 1 = 20) ?_
                    obtain ⟨T521, X521, e521, st521⟩ := getF X520 hx hZ hown (host := "") (Or.inl (hw _ (own_M 60 rfl))) Via.refl e520 hp1 (g := (mkF m 20 #[.val (.ref a0), .val (.int ((0 : Int32) + c2)), .val (.int (3 : Int32))] [(.ref a0), (.int ((31 : Int32) * ((0 : Int32) + c2)))])) rfl rfl (hb hby d_hsh_20)
                    refine own_go st521 ?_
                    show own_Got p e below _ T521 (mkF m 23 #[.val (.ref a0), .val (.int ((0 : Int32) + c2)), .val (.int (3 : Int32))] [(.ref ax), (.int ((31 : Int32) * ((0 : Int32) + c2)))])
                    refine g_iloadN X521 hx hby d_hsh_23 rfl (rfl : 23 + 1 = 24) ?_
                    obtain ⟨cq522, kq522, q522a, q522b, q522c⟩ := isOf hZ e521 hp4
                    obtain ⟨_, _, ⟨T522, L522, k522, n522⟩, -, X522, ⟨Lc522, hQ522, l522, y522, z522⟩, st522⟩ := X521.virtualBack hx (y := mN7) (z := mN7) hown (mvT hZ (hw _ (own_M 82 rfl))) (mvT hZ (hw _ (own_M 83 rfl))) (notFace_of_selects (args := #[]) (mvT hZ (hw _ (own_M 85 rfl)))) (mvT hZ (hw _ (own_M 85 rfl))) (mvT hZ (hw _ (own_M 84 rfl))) (by decide) (backOf (W := 1) (rm_cha3 l Z aT hw [] ax ob kb cd n vs _ _ _ _ _ g1 w1 h0 n0 Z0 hp4 hp5 hp6 hp7 hp8 hp9 hp10 hp11 hp12 hg1 hch hr3 hw1) hZ (hw _ (own_M 86 rfl)) (hw _ (own_M 3 rfl)) (by decide) (by decide)) q522a q522c (g := (mkF m 24 #[.val (.ref a0), .val (.int ((0 : Int32) + c2)), .val (.int (3 : Int32))] [(.int (3 : Int32)), (.ref ax), (.int ((31 : Int32) * ((0 : Int32) + c2)))])) rfl (by rw [hml]; rfl) (Steps.refl _) (argsL := [(.int (3 : Int32))]) (rest := [(.int ((31 : Int32) * ((0 : Int32) + c2)))]) (lenOf pd18 rfl) rfl (by show 2 * 0 + _ ≤ _; exact Nat.le_of_eq rfl) (hb hby d_hsh_24) (fun _ _ => ⟨rfl, e521, (by decide : 0 + 0 ≤ _), (by decide : 0 + 0 ≤ _)⟩)
                    dsimp only [Pt.U, Pt.locs, Pt.cells, Pt.slots] at X522 l522 y522 z522 st522 hQ522
                    subst l522 y522 z522
                    obtain ⟨rfl, N522q, eq522⟩ := hQ522
                    have N522 := Fr.app N519 N522q
                    refine own_tr st522 ?_
                    show own_Got p e below _ T522 (mkF m 27 #[.val (.ref a0), .val (.int ((0 : Int32) + c2)), .val (.int (3 : Int32))] [(.int c3), (.int ((31 : Int32) * ((0 : Int32) + c2)))])
                    refine g_iadd X522 hx hby d_hsh_27 (rfl : 27 + 1 = 28) ?_
                    refine g_istoreN X522 hx hby #[.val (.ref a0), .val (.int (((31 : Int32) * ((0 : Int32) + c2)) + c3)), .val (.int (3 : Int32))] d_hsh_28 rfl (rfl : 28 + 1 = 29) ?_
                    refine g_iinc X522 hx hby #[.val (.ref a0), .val (.int (((31 : Int32) * ((0 : Int32) + c2)) + c3)), .val (.int ((3 : Int32) + (1 : Int32)))] d_hsh_29 rfl rfl (rfl : 29 + 3 = 32) ?_
                    rw [(by decide : ((3 : Int32) + (1 : Int32)) = (4 : Int32))]
                    refine g_goto X522 hx hby d_hsh_32 (by decide) (pc' := 7) (by decide) ?_
                    refine g_iloadN X522 hx hby d_hsh_7 rfl (rfl : 7 + 1 = 8) ?_
                    refine g_aloadN X522 hx hby d_hsh_8 rfl rfl (rfl : 8 + 1 = 9) ?_
                    obtain ⟨T523, X523, e523, st523⟩ := getF X522 hx hZ hown (host := "") (Or.inl (hw _ (own_M 64 rfl))) Via.refl eq522 r515 (g := (mkF m 9 #[.val (.ref a0), .val (.int (((31 : Int32) * ((0 : Int32) + c2)) + c3)), .val (.int (4 : Int32))] [(.ref a0), (.int (4 : Int32))])) rfl rfl (hb hby d_hsh_9)
                    refine own_go st523 ?_
                    show own_Got p e below _ T523 (mkF m 12 #[.val (.ref a0), .val (.int (((31 : Int32) * ((0 : Int32) + c2)) + c3)), .val (.int (4 : Int32))] [(.int (5 : Int32)), (.int (4 : Int32))])
                    refine g_icF X523 hx hby d_hsh_12 (tlt (by decide : (4 : Int32) < (5 : Int32))).2.1 (rfl : 12 + 3 = 15) ?_
                    refine g_bipush X523 hx hby (31 : Int32) d_hsh_15 (by decide) (rfl : 15 + 2 = 17) ?_
                    refine g_iloadN X523 hx hby d_hsh_17 rfl (rfl : 17 + 1 = 18) ?_
                    refine g_imul X523 hx hby d_hsh_18 (rfl : 18 + 1 = 19) ?_
                    refine g_aloadN X523 hx hby d_hsh_19 rfl rfl (rfl : 19 + 1 = 20) ?_
                    obtain ⟨T524, X524, e524, st524⟩ := getF X523 hx hZ hown (host := "") (Or.inl (hw _ (own_M 60 rfl))) Via.refl e523 hp1 (g := (mkF m 20 #[.val (.ref a0), .val (.int (((31 : Int32) * ((0 : Int32) + c2)) + c3)), .val (.int (4 : Int32))] [(.ref a0), (.int ((31 : Int32) * (((31 : Int32) * ((0 : Int32) + c2)) + c3)))])) rfl rfl (hb hby d_hsh_20)
                    refine own_go st524 ?_
                    show own_Got p e below _ T524 (mkF m 23 #[.val (.ref a0), .val (.int (((31 : Int32) * ((0 : Int32) + c2)) + c3)), .val (.int (4 : Int32))] [(.ref ax), (.int ((31 : Int32) * (((31 : Int32) * ((0 : Int32) + c2)) + c3)))])
                    refine g_iloadN X524 hx hby d_hsh_23 rfl (rfl : 23 + 1 = 24) ?_
                    obtain ⟨cq525, kq525, q525a, q525b, q525c⟩ := isOf hZ e524 hp4
                    obtain ⟨_, _, ⟨T525, L525, k525, n525⟩, -, X525, ⟨Lc525, hQ525, l525, y525, z525⟩, st525⟩ := X524.virtualBack hx (y := mN7) (z := mN7) hown (mvT hZ (hw _ (own_M 82 rfl))) (mvT hZ (hw _ (own_M 83 rfl))) (notFace_of_selects (args := #[]) (mvT hZ (hw _ (own_M 85 rfl)))) (mvT hZ (hw _ (own_M 85 rfl))) (mvT hZ (hw _ (own_M 84 rfl))) (by decide) (backOf (W := 1) (rm_cha4 l Z aT hw [] ax ob kb cd n vs _ _ _ _ _ g1 w1 h0 n0 Z0 hp4 hp5 hp6 hp7 hp8 hp9 hp10 hp11 hp12 hg1 hch hr4 hw1) hZ (hw _ (own_M 86 rfl)) (hw _ (own_M 3 rfl)) (by decide) (by decide)) q525a q525c (g := (mkF m 24 #[.val (.ref a0), .val (.int (((31 : Int32) * ((0 : Int32) + c2)) + c3)), .val (.int (4 : Int32))] [(.int (4 : Int32)), (.ref ax), (.int ((31 : Int32) * (((31 : Int32) * ((0 : Int32) + c2)) + c3)))])) rfl (by rw [hml]; rfl) (Steps.refl _) (argsL := [(.int (4 : Int32))]) (rest := [(.int ((31 : Int32) * (((31 : Int32) * ((0 : Int32) + c2)) + c3)))]) (lenOf pd18 rfl) rfl (by show 2 * 0 + _ ≤ _; exact Nat.le_of_eq rfl) (hb hby d_hsh_24) (fun _ _ => ⟨rfl, e524, (by decide : 0 + 0 ≤ _), (by decide : 0 + 0 ≤ _)⟩)
                    dsimp only [Pt.U, Pt.locs, Pt.cells, Pt.slots] at X525 l525 y525 z525 st525 hQ525
                    subst l525 y525 z525
                    obtain ⟨rfl, N525q, eq525⟩ := hQ525
                    have N525 := Fr.app N522 N525q
                    refine own_tr st525 ?_
                    show own_Got p e below _ T525 (mkF m 27 #[.val (.ref a0), .val (.int (((31 : Int32) * ((0 : Int32) + c2)) + c3)), .val (.int (4 : Int32))] [(.int c4), (.int ((31 : Int32) * (((31 : Int32) * ((0 : Int32) + c2)) + c3)))])
                    refine g_iadd X525 hx hby d_hsh_27 (rfl : 27 + 1 = 28) ?_
                    refine g_istoreN X525 hx hby #[.val (.ref a0), .val (.int (((31 : Int32) * (((31 : Int32) * ((0 : Int32) + c2)) + c3)) + c4)), .val (.int (4 : Int32))] d_hsh_28 rfl (rfl : 28 + 1 = 29) ?_
                    refine g_iinc X525 hx hby #[.val (.ref a0), .val (.int (((31 : Int32) * (((31 : Int32) * ((0 : Int32) + c2)) + c3)) + c4)), .val (.int ((4 : Int32) + (1 : Int32)))] d_hsh_29 rfl rfl (rfl : 29 + 3 = 32) ?_
                    rw [(by decide : ((4 : Int32) + (1 : Int32)) = (5 : Int32))]
                    refine g_goto X525 hx hby d_hsh_32 (by decide) (pc' := 7) (by decide) ?_
                    refine g_iloadN X525 hx hby d_hsh_7 rfl (rfl : 7 + 1 = 8) ?_
                    refine g_aloadN X525 hx hby d_hsh_8 rfl rfl (rfl : 8 + 1 = 9) ?_
                    obtain ⟨T526, X526, e526, st526⟩ := getF X525 hx hZ hown (host := "") (Or.inl (hw _ (own_M 64 rfl))) Via.refl eq525 r515 (g := (mkF m 9 #[.val (.ref a0), .val (.int (((31 : Int32) * (((31 : Int32) * ((0 : Int32) + c2)) + c3)) + c4)), .val (.int (5 : Int32))] [(.ref a0), (.int (5 : Int32))])) rfl rfl (hb hby d_hsh_9)
                    refine own_go st526 ?_
                    show own_Got p e below _ T526 (mkF m 12 #[.val (.ref a0), .val (.int (((31 : Int32) * (((31 : Int32) * ((0 : Int32) + c2)) + c3)) + c4)), .val (.int (5 : Int32))] [(.int (5 : Int32)), (.int (5 : Int32))])
                    refine g_icT X526 hx hby d_hsh_12 (flt (by decide : ¬ ((5 : Int32) < (5 : Int32)))).2.1 (by decide) (pc' := 35) (by decide) ?_
                    refine g_iloadN X526 hx hby d_hsh_35 rfl (rfl : 35 + 1 = 36) ?_
                    refine own_retI X526 hx hby hlk hrt d_hsh_36 (by decide) (by decide) ?_
                    show Q_hsh Z a0 x y ax ob kb cd n vs c0 c1 c2 c3 c4 g1 w1 h0 n0 _ T526.heap _
                    exact ⟨(congrArg (fun z => some (Value.int z)) (by rw [F_hsh, if_neg c356, if_neg c427, if_pos c483, if_neg c485, if_neg c489, if_neg c493, if_neg c497, if_neg c504, if_pos c514] <;> rfl)), N525, e526⟩
                  · exact (own_no6 (own_inE hse) c485 c489 c493 c497 c504 c514).elim
      · by_cases c527 : x = (3 : Int32)
        · have r528 : Fld Z h0 a0 "com/example/lexsign/lexsign/json/TextSpan" "start" "I" (.int (3 : Int32)) := by have q := hp2; rw [c527] at q; exact q
          by_cases c529 : y = (0 : Int32)
          · have r530 : Fld Z h0 a0 "com/example/lexsign/lexsign/json/TextSpan" "end" "I" (.int (0 : Int32)) := by have q := hp3; rw [c529] at q; exact q
            refine g_iconst X0 hx hby (0 : Int32) d_hsh_0 (by decide) (rfl : 0 + 1 = 1) ?_
            refine g_istoreN X0 hx hby #[.val (.ref a0), .val (.int (0 : Int32)), .unset] d_hsh_1 rfl (rfl : 1 + 1 = 2) ?_
            refine g_aloadN X0 hx hby d_hsh_2 rfl rfl (rfl : 2 + 1 = 3) ?_
            obtain ⟨T531, X531, e531, st531⟩ := getF X0 hx hZ hown (host := "") (Or.inl (hw _ (own_M 62 rfl))) Via.refl e0 r528 (g := (mkF m 3 #[.val (.ref a0), .val (.int (0 : Int32)), .unset] [(.ref a0)])) rfl rfl (hb hby d_hsh_3)
            refine own_go st531 ?_
            show own_Got p e below _ T531 (mkF m 6 #[.val (.ref a0), .val (.int (0 : Int32)), .unset] [(.int (3 : Int32))])
            refine g_istoreN X531 hx hby #[.val (.ref a0), .val (.int (0 : Int32)), .val (.int (3 : Int32))] d_hsh_6 rfl (rfl : 6 + 1 = 7) ?_
            refine g_iloadN X531 hx hby d_hsh_7 rfl (rfl : 7 + 1 = 8) ?_
            refine g_aloadN X531 hx hby d_hsh_8 rfl rfl (rfl : 8 + 1 = 9) ?_
            obtain ⟨T532, X532, e532, st532⟩ := getF X531 hx hZ hown (host := "") (Or.inl (hw _ (own_M 64 rfl))) Via.refl e531 r530 (g := (mkF m 9 #[.val (.ref a0), .val (.int (0 : Int32)), .val (.int (3 : Int32))] [(.ref a0), (.int (3 : Int32))])) rfl rfl (hb hby d_hsh_9)
            refine own_go st532 ?_
            show own_Got p e below _ T532 (mkF m 12 #[.val (.ref a0), .val (.int (0 : Int32)), .val (.int (3 : Int32))] [(.int (0 : Int32)), (.int (3 : Int32))])
            refine g_icT X532 hx hby d_hsh_12 (flt (by decide : ¬ ((3 : Int32) < (0 : Int32)))).2.1 (by decide) (pc' := 35) (by decide) ?_
            refine g_iloadN X532 hx hby d_hsh_35 rfl (rfl : 35 + 1 = 36) ?_
            refine own_retI X532 hx hby hlk hrt d_hsh_36 (by decide) (by decide) ?_
            show Q_hsh Z a0 x y ax ob kb cd n vs c0 c1 c2 c3 c4 g1 w1 h0 n0 _ T532.heap _
            exact ⟨(congrArg (fun z => some (Value.int z)) (by rw [F_hsh, if_neg c356, if_neg c427, if_neg c483, if_pos c527, if_pos c529] <;> rfl)), N0, e532⟩
          · by_cases c533 : y = (1 : Int32)
            · have r534 : Fld Z h0 a0 "com/example/lexsign/lexsign/json/TextSpan" "end" "I" (.int (1 : Int32)) := by have q := hp3; rw [c533] at q; exact q
              refine g_iconst X0 hx hby (0 : Int32) d_hsh_0 (by decide) (rfl : 0 + 1 = 1) ?_
              refine g_istoreN X0 hx hby #[.val (.ref a0), .val (.int (0 : Int32)), .unset] d_hsh_1 rfl (rfl : 1 + 1 = 2) ?_
              refine g_aloadN X0 hx hby d_hsh_2 rfl rfl (rfl : 2 + 1 = 3) ?_
              obtain ⟨T535, X535, e535, st535⟩ := getF X0 hx hZ hown (host := "") (Or.inl (hw _ (own_M 62 rfl))) Via.refl e0 r528 (g := (mkF m 3 #[.val (.ref a0), .val (.int (0 : Int32)), .unset] [(.ref a0)])) rfl rfl (hb hby d_hsh_3)
              refine own_go st535 ?_
              show own_Got p e below _ T535 (mkF m 6 #[.val (.ref a0), .val (.int (0 : Int32)), .unset] [(.int (3 : Int32))])
              refine g_istoreN X535 hx hby #[.val (.ref a0), .val (.int (0 : Int32)), .val (.int (3 : Int32))] d_hsh_6 rfl (rfl : 6 + 1 = 7) ?_
              refine g_iloadN X535 hx hby d_hsh_7 rfl (rfl : 7 + 1 = 8) ?_
              refine g_aloadN X535 hx hby d_hsh_8 rfl rfl (rfl : 8 + 1 = 9) ?_
              obtain ⟨T536, X536, e536, st536⟩ := getF X535 hx hZ hown (host := "") (Or.inl (hw _ (own_M 64 rfl))) Via.refl e535 r534 (g := (mkF m 9 #[.val (.ref a0), .val (.int (0 : Int32)), .val (.int (3 : Int32))] [(.ref a0), (.int (3 : Int32))])) rfl rfl (hb hby d_hsh_9)
              refine own_go st536 ?_
              show own_Got p e below _ T536 (mkF m 12 #[.val (.ref a0), .val (.int (0 : Int32)), .val (.int (3 : Int32))] [(.int (1 : Int32)), (.int (3 : Int32))])
              refine g_icT X536 hx hby d_hsh_12 (flt (by decide : ¬ ((3 : Int32) < (1 : Int32)))).2.1 (by decide) (pc' := 35) (by decide) ?_
              refine g_iloadN X536 hx hby d_hsh_35 rfl (rfl : 35 + 1 = 36) ?_
              refine own_retI X536 hx hby hlk hrt d_hsh_36 (by decide) (by decide) ?_
              show Q_hsh Z a0 x y ax ob kb cd n vs c0 c1 c2 c3 c4 g1 w1 h0 n0 _ T536.heap _
              exact ⟨(congrArg (fun z => some (Value.int z)) (by rw [F_hsh, if_neg c356, if_neg c427, if_neg c483, if_pos c527, if_neg c529, if_pos c533] <;> rfl)), N0, e536⟩
            · by_cases c537 : y = (2 : Int32)
              · have r538 : Fld Z h0 a0 "com/example/lexsign/lexsign/json/TextSpan" "end" "I" (.int (2 : Int32)) := by have q := hp3; rw [c537] at q; exact q
                refine g_iconst X0 hx hby (0 : Int32) d_hsh_0 (by decide) (rfl : 0 + 1 = 1) ?_
                refine g_istoreN X0 hx hby #[.val (.ref a0), .val (.int (0 : Int32)), .unset] d_hsh_1 rfl (rfl : 1 + 1 = 2) ?_
                refine g_aloadN X0 hx hby d_hsh_2 rfl rfl (rfl : 2 + 1 = 3) ?_
                obtain ⟨T539, X539, e539, st539⟩ := getF X0 hx hZ hown (host := "") (Or.inl (hw _ (own_M 62 rfl))) Via.refl e0 r528 (g := (mkF m 3 #[.val (.ref a0), .val (.int (0 : Int32)), .unset] [(.ref a0)])) rfl rfl (hb hby d_hsh_3)
                refine own_go st539 ?_
                show own_Got p e below _ T539 (mkF m 6 #[.val (.ref a0), .val (.int (0 : Int32)), .unset] [(.int (3 : Int32))])
                refine g_istoreN X539 hx hby #[.val (.ref a0), .val (.int (0 : Int32)), .val (.int (3 : Int32))] d_hsh_6 rfl (rfl : 6 + 1 = 7) ?_
                refine g_iloadN X539 hx hby d_hsh_7 rfl (rfl : 7 + 1 = 8) ?_
                refine g_aloadN X539 hx hby d_hsh_8 rfl rfl (rfl : 8 + 1 = 9) ?_
                obtain ⟨T540, X540, e540, st540⟩ := getF X539 hx hZ hown (host := "") (Or.inl (hw _ (own_M 64 rfl))) Via.refl e539 r538 (g := (mkF m 9 #[.val (.ref a0), .val (.int (0 : Int32)), .val (.int (3 : Int32))] [(.ref a0), (.int (3 : Int32))])) rfl rfl (hb hby d_hsh_9)
                refine own_go st540 ?_
                show own_Got p e below _ T540 (mkF m 12 #[.val (.ref a0), .val (.int (0 : Int32)), .val (.int (3 : Int32))] [(.int (2 : Int32)), (.int (3 : Int32))])
                refine g_icT X540 hx hby d_hsh_12 (flt (by decide : ¬ ((3 : Int32) < (2 : Int32)))).2.1 (by decide) (pc' := 35) (by decide) ?_
                refine g_iloadN X540 hx hby d_hsh_35 rfl (rfl : 35 + 1 = 36) ?_
                refine own_retI X540 hx hby hlk hrt d_hsh_36 (by decide) (by decide) ?_
                show Q_hsh Z a0 x y ax ob kb cd n vs c0 c1 c2 c3 c4 g1 w1 h0 n0 _ T540.heap _
                exact ⟨(congrArg (fun z => some (Value.int z)) (by rw [F_hsh, if_neg c356, if_neg c427, if_neg c483, if_pos c527, if_neg c529, if_neg c533, if_pos c537] <;> rfl)), N0, e540⟩
              · by_cases c541 : y = (3 : Int32)
                · have r542 : Fld Z h0 a0 "com/example/lexsign/lexsign/json/TextSpan" "end" "I" (.int (3 : Int32)) := by have q := hp3; rw [c541] at q; exact q
                  refine g_iconst X0 hx hby (0 : Int32) d_hsh_0 (by decide) (rfl : 0 + 1 = 1) ?_
                  refine g_istoreN X0 hx hby #[.val (.ref a0), .val (.int (0 : Int32)), .unset] d_hsh_1 rfl (rfl : 1 + 1 = 2) ?_
                  refine g_aloadN X0 hx hby d_hsh_2 rfl rfl (rfl : 2 + 1 = 3) ?_
                  obtain ⟨T543, X543, e543, st543⟩ := getF X0 hx hZ hown (host := "") (Or.inl (hw _ (own_M 62 rfl))) Via.refl e0 r528 (g := (mkF m 3 #[.val (.ref a0), .val (.int (0 : Int32)), .unset] [(.ref a0)])) rfl rfl (hb hby d_hsh_3)
                  refine own_go st543 ?_
                  show own_Got p e below _ T543 (mkF m 6 #[.val (.ref a0), .val (.int (0 : Int32)), .unset] [(.int (3 : Int32))])
                  refine g_istoreN X543 hx hby #[.val (.ref a0), .val (.int (0 : Int32)), .val (.int (3 : Int32))] d_hsh_6 rfl (rfl : 6 + 1 = 7) ?_
                  refine g_iloadN X543 hx hby d_hsh_7 rfl (rfl : 7 + 1 = 8) ?_
                  refine g_aloadN X543 hx hby d_hsh_8 rfl rfl (rfl : 8 + 1 = 9) ?_
                  obtain ⟨T544, X544, e544, st544⟩ := getF X543 hx hZ hown (host := "") (Or.inl (hw _ (own_M 64 rfl))) Via.refl e543 r542 (g := (mkF m 9 #[.val (.ref a0), .val (.int (0 : Int32)), .val (.int (3 : Int32))] [(.ref a0), (.int (3 : Int32))])) rfl rfl (hb hby d_hsh_9)
                  refine own_go st544 ?_
                  show own_Got p e below _ T544 (mkF m 12 #[.val (.ref a0), .val (.int (0 : Int32)), .val (.int (3 : Int32))] [(.int (3 : Int32)), (.int (3 : Int32))])
                  refine g_icT X544 hx hby d_hsh_12 (flt (by decide : ¬ ((3 : Int32) < (3 : Int32)))).2.1 (by decide) (pc' := 35) (by decide) ?_
                  refine g_iloadN X544 hx hby d_hsh_35 rfl (rfl : 35 + 1 = 36) ?_
                  refine own_retI X544 hx hby hlk hrt d_hsh_36 (by decide) (by decide) ?_
                  show Q_hsh Z a0 x y ax ob kb cd n vs c0 c1 c2 c3 c4 g1 w1 h0 n0 _ T544.heap _
                  exact ⟨(congrArg (fun z => some (Value.int z)) (by rw [F_hsh, if_neg c356, if_neg c427, if_neg c483, if_pos c527, if_neg c529, if_neg c533, if_neg c537, if_pos c541] <;> rfl)), N0, e544⟩
                · by_cases c545 : y = (4 : Int32)
                  · have r546 : Fld Z h0 a0 "com/example/lexsign/lexsign/json/TextSpan" "end" "I" (.int (4 : Int32)) := by have q := hp3; rw [c545] at q; exact q
                    refine g_iconst X0 hx hby (0 : Int32) d_hsh_0 (by decide) (rfl : 0 + 1 = 1) ?_
                    refine g_istoreN X0 hx hby #[.val (.ref a0), .val (.int (0 : Int32)), .unset] d_hsh_1 rfl (rfl : 1 + 1 = 2) ?_
                    refine g_aloadN X0 hx hby d_hsh_2 rfl rfl (rfl : 2 + 1 = 3) ?_
                    obtain ⟨T547, X547, e547, st547⟩ := getF X0 hx hZ hown (host := "") (Or.inl (hw _ (own_M 62 rfl))) Via.refl e0 r528 (g := (mkF m 3 #[.val (.ref a0), .val (.int (0 : Int32)), .unset] [(.ref a0)])) rfl rfl (hb hby d_hsh_3)
                    refine own_go st547 ?_
                    show own_Got p e below _ T547 (mkF m 6 #[.val (.ref a0), .val (.int (0 : Int32)), .unset] [(.int (3 : Int32))])
                    refine g_istoreN X547 hx hby #[.val (.ref a0), .val (.int (0 : Int32)), .val (.int (3 : Int32))] d_hsh_6 rfl (rfl : 6 + 1 = 7) ?_
                    refine g_iloadN X547 hx hby d_hsh_7 rfl (rfl : 7 + 1 = 8) ?_
                    refine g_aloadN X547 hx hby d_hsh_8 rfl rfl (rfl : 8 + 1 = 9) ?_
                    obtain ⟨T548, X548, e548, st548⟩ := getF X547 hx hZ hown (host := "") (Or.inl (hw _ (own_M 64 rfl))) Via.refl e547 r546 (g := (mkF m 9 #[.val (.ref a0), .val (.int (0 : Int32)), .val (.int (3 : Int32))] [(.ref a0), (.int (3 : Int32))])) rfl rfl (hb hby d_hsh_9)
                    refine own_go st548 ?_
                    show own_Got p e below _ T548 (mkF m 12 #[.val (.ref a0), .val (.int (0 : Int32)), .val (.int (3 : Int32))] [(.int (4 : Int32)), (.int (3 : Int32))])
                    refine g_icF X548 hx hby d_hsh_12 (tlt (by decide : (3 : Int32) < (4 : Int32))).2.1 (rfl : 12 + 3 = 15) ?_
                    refine g_bipush X548 hx hby (31 : Int32) d_hsh_15 (by decide) (rfl : 15 + 2 = 17) ?_
                    refine g_iloadN X548 hx hby d_hsh_17 rfl (rfl : 17 + 1 = 18) ?_
                    refine g_imul X548 hx hby d_hsh_18 (rfl : 18 + 1 = 19) ?_
                    rw [(by decide : ((31 : Int32) * (0 : Int32)) = (0 : Int32))]
                    refine g_aloadN X548 hx hby d_hsh_19 rfl rfl (rfl : 19 + 1 = 20) ?_
                    obtain ⟨T549, X549, e549, st549⟩ := getF X548 hx hZ hown (host := "") (Or.inl (hw _ (own_M 60 rfl))) Via.refl e548 hp1 (g := (mkF m 20 #[.val (.ref a0), .val (.int (0 : Int32)), .val (.int (3 : Int32))] [(.ref a0), (.int (0 : Int32))])) rfl rfl (hb hby d_hsh_20)
                    refine own_go st549 ?_
                    show own_Got p e below _ T549 (mkF m 23 #[.val (.ref a0), .val (.int (0 : Int32)), .val (.int (3 : Int32))] [(.ref ax), (.int (0 : Int32))])
                    refine g_iloadN X549 hx hby d_hsh_23 rfl (rfl : 23 + 1 = 24) ?_
                    obtain ⟨cq550, kq550, q550a, q550b, q550c⟩ := isOf hZ e549 hp4
                    obtain ⟨_, _, ⟨T550, L550, k550, n550⟩, -, X550, ⟨Lc550, hQ550, l550, y550, z550⟩, st550⟩ := X549.virtualBack hx (y := mN7) (z := mN7) hown (mvT hZ (hw _ (own_M 82 rfl))) (mvT hZ (hw _ (own_M 83 rfl))) (notFace_of_selects (args := #[]) (mvT hZ (hw _ (own_M 85 rfl)))) (mvT hZ (hw _ (own_M 85 rfl))) (mvT hZ (hw _ (own_M 84 rfl))) (by decide) (backOf (W := 1) (rm_cha3 l Z aT hw [] ax ob kb cd n vs _ _ _ _ _ g1 w1 h0 n0 Z0 hp4 hp5 hp6 hp7 hp8 hp9 hp10 hp11 hp12 hg1 hch hr3 hw1) hZ (hw _ (own_M 86 rfl)) (hw _ (own_M 3 rfl)) (by decide) (by decide)) q550a q550c (g := (mkF m 24 #[.val (.ref a0), .val (.int (0 : Int32)), .val (.int (3 : Int32))] [(.int (3 : Int32)), (.ref ax), (.int (0 : Int32))])) rfl (by rw [hml]; rfl) (Steps.refl _) (argsL := [(.int (3 : Int32))]) (rest := [(.int (0 : Int32))]) (lenOf pd18 rfl) rfl (by show 2 * 0 + _ ≤ _; exact Nat.le_of_eq rfl) (hb hby d_hsh_24) (fun _ _ => ⟨rfl, e549, (by decide : 0 + 0 ≤ _), (by decide : 0 + 0 ≤ _)⟩)
                    dsimp only [Pt.U, Pt.locs, Pt.cells, Pt.slots] at X550 l550 y550 z550 st550 hQ550
                    subst l550 y550 z550
                    obtain ⟨rfl, N550q, eq550⟩ := hQ550
                    have N550 := Fr.app N0 N550q
                    refine own_tr st550 ?_
                    show own_Got p e below _ T550 (mkF m 27 #[.val (.ref a0), .val (.int (0 : Int32)), .val (.int (3 : Int32))] [(.int c3), (.int (0 : Int32))])
                    refine g_iadd X550 hx hby d_hsh_27 (rfl : 27 + 1 = 28) ?_
                    refine g_istoreN X550 hx hby #[.val (.ref a0), .val (.int ((0 : Int32) + c3)), .val (.int (3 : Int32))] d_hsh_28 rfl (rfl : 28 + 1 = 29) ?_
                    refine g_iinc X550 hx hby #[.val (.ref a0), .val (.int ((0 : Int32) + c3)), .val (.int ((3 : Int32) + (1 : Int32)))] d_hsh_29 rfl rfl (rfl : 29 + 3 = 32) ?_
                    rw [(by decide : ((3 : Int32) + (1 : Int32)) = (4 : Int32))]
                    refine g_goto X550 hx hby d_hsh_32 (by decide) (pc' := 7) (by decide) ?_
                    refine g_iloadN X550 hx hby d_hsh_7 rfl (rfl : 7 + 1 = 8) ?_
                    refine g_aloadN X550 hx hby d_hsh_8 rfl rfl (rfl : 8 + 1 = 9) ?_
                    obtain ⟨T551, X551, e551, st551⟩ := getF X550 hx hZ hown (host := "") (Or.inl (hw _ (own_M 64 rfl))) Via.refl eq550 r546 (g := (mkF m 9 #[.val (.ref a0), .val (.int ((0 : Int32) + c3)), .val (.int (4 : Int32))] [(.ref a0), (.int (4 : Int32))])) rfl rfl (hb hby d_hsh_9)
                    refine own_go st551 ?_
                    show own_Got p e below _ T551 (mkF m 12 #[.val (.ref a0), .val (.int ((0 : Int32) + c3)), .val (.int (4 : Int32))] [(.int (4 : Int32)), (.int (4 : Int32))])
                    refine g_icT X551 hx hby d_hsh_12 (flt (by decide : ¬ ((4 : Int32) < (4 : Int32)))).2.1 (by decide) (pc' := 35) (by decide) ?_
                    refine g_iloadN X551 hx hby d_hsh_35 rfl (rfl : 35 + 1 = 36) ?_
                    refine own_retI X551 hx hby hlk hrt d_hsh_36 (by decide) (by decide) ?_
                    show Q_hsh Z a0 x y ax ob kb cd n vs c0 c1 c2 c3 c4 g1 w1 h0 n0 _ T551.heap _
                    exact ⟨(congrArg (fun z => some (Value.int z)) (by rw [F_hsh, if_neg c356, if_neg c427, if_neg c483, if_pos c527, if_neg c529, if_neg c533, if_neg c537, if_neg c541, if_pos c545] <;> rfl)), N550, e551⟩
                  · by_cases c552 : y = (5 : Int32)
                    · have r553 : Fld Z h0 a0 "com/example/lexsign/lexsign/json/TextSpan" "end" "I" (.int (5 : Int32)) := by have q := hp3; rw [c552] at q; exact q
                      refine g_iconst X0 hx hby (0 : Int32) d_hsh_0 (by decide) (rfl : 0 + 1 = 1) ?_
                      refine g_istoreN X0 hx hby #[.val (.ref a0), .val (.int (0 : Int32)), .unset] d_hsh_1 rfl (rfl : 1 + 1 = 2) ?_
                      refine g_aloadN X0 hx hby d_hsh_2 rfl rfl (rfl : 2 + 1 = 3) ?_
                      obtain ⟨T554, X554, e554, st554⟩ := getF X0 hx hZ hown (host := "") (Or.inl (hw _ (own_M 62 rfl))) Via.refl e0 r528 (g := (mkF m 3 #[.val (.ref a0), .val (.int (0 : Int32)), .unset] [(.ref a0)])) rfl rfl (hb hby d_hsh_3)
                      refine own_go st554 ?_
                      show own_Got p e below _ T554 (mkF m 6 #[.val (.ref a0), .val (.int (0 : Int32)), .unset] [(.int (3 : Int32))])
                      refine g_istoreN X554 hx hby #[.val (.ref a0), .val (.int (0 : Int32)), .val (.int (3 : Int32))] d_hsh_6 rfl (rfl : 6 + 1 = 7) ?_
                      refine g_iloadN X554 hx hby d_hsh_7 rfl (rfl : 7 + 1 = 8) ?_
                      refine g_aloadN X554 hx hby d_hsh_8 rfl rfl (rfl : 8 + 1 = 9) ?_
                      obtain ⟨T555, X555, e555, st555⟩ := getF X554 hx hZ hown (host := "") (Or.inl (hw _ (own_M 64 rfl))) Via.refl e554 r553 (g := (mkF m 9 #[.val (.ref a0), .val (.int (0 : Int32)), .val (.int (3 : Int32))] [(.ref a0), (.int (3 : Int32))])) rfl rfl (hb hby d_hsh_9)
                      refine own_go st555 ?_
                      show own_Got p e below _ T555 (mkF m 12 #[.val (.ref a0), .val (.int (0 : Int32)), .val (.int (3 : Int32))] [(.int (5 : Int32)), (.int (3 : Int32))])
                      refine g_icF X555 hx hby d_hsh_12 (tlt (by decide : (3 : Int32) < (5 : Int32))).2.1 (rfl : 12 + 3 = 15) ?_
                      refine g_bipush X555 hx hby (31 : Int32) d_hsh_15 (by decide) (rfl : 15 + 2 = 17) ?_
                      refine g_iloadN X555 hx hby d_hsh_17 rfl (rfl : 17 + 1 = 18) ?_
                      refine g_imul X555 hx hby d_hsh_18 (rfl : 18 + 1 = 19) ?_
                      rw [(by decide : ((31 : Int32) * (0 : Int32)) = (0 : Int32))]
                      refine g_aloadN X555 hx hby d_hsh_19 rfl rfl (rfl : 19 + 1 = 20) ?_
                      obtain ⟨T556, X556, e556, st556⟩ := getF X555 hx hZ hown (host := "") (Or.inl (hw _ (own_M 60 rfl))) Via.refl e555 hp1 (g := (mkF m 20 #[.val (.ref a0), .val (.int (0 : Int32)), .val (.int (3 : Int32))] [(.ref a0), (.int (0 : Int32))])) rfl rfl (hb hby d_hsh_20)
                      refine own_go st556 ?_
                      show own_Got p e below _ T556 (mkF m 23 #[.val (.ref a0), .val (.int (0 : Int32)), .val (.int (3 : Int32))] [(.ref ax), (.int (0 : Int32))])
                      refine g_iloadN X556 hx hby d_hsh_23 rfl (rfl : 23 + 1 = 24) ?_
                      obtain ⟨cq557, kq557, q557a, q557b, q557c⟩ := isOf hZ e556 hp4
                      obtain ⟨_, _, ⟨T557, L557, k557, n557⟩, -, X557, ⟨Lc557, hQ557, l557, y557, z557⟩, st557⟩ := X556.virtualBack hx (y := mN7) (z := mN7) hown (mvT hZ (hw _ (own_M 82 rfl))) (mvT hZ (hw _ (own_M 83 rfl))) (notFace_of_selects (args := #[]) (mvT hZ (hw _ (own_M 85 rfl)))) (mvT hZ (hw _ (own_M 85 rfl))) (mvT hZ (hw _ (own_M 84 rfl))) (by decide) (backOf (W := 1) (rm_cha3 l Z aT hw [] ax ob kb cd n vs _ _ _ _ _ g1 w1 h0 n0 Z0 hp4 hp5 hp6 hp7 hp8 hp9 hp10 hp11 hp12 hg1 hch hr3 hw1) hZ (hw _ (own_M 86 rfl)) (hw _ (own_M 3 rfl)) (by decide) (by decide)) q557a q557c (g := (mkF m 24 #[.val (.ref a0), .val (.int (0 : Int32)), .val (.int (3 : Int32))] [(.int (3 : Int32)), (.ref ax), (.int (0 : Int32))])) rfl (by rw [hml]; rfl) (Steps.refl _) (argsL := [(.int (3 : Int32))]) (rest := [(.int (0 : Int32))]) (lenOf pd18 rfl) rfl (by show 2 * 0 + _ ≤ _; exact Nat.le_of_eq rfl) (hb hby d_hsh_24) (fun _ _ => ⟨rfl, e556, (by decide : 0 + 0 ≤ _), (by decide : 0 + 0 ≤ _)⟩)
                      dsimp only [Pt.U, Pt.locs, Pt.cells, Pt.slots] at X557 l557 y557 z557 st557 hQ557
                      subst l557 y557 z557
                      obtain ⟨rfl, N557q, eq557⟩ := hQ557
                      have N557 := Fr.app N0 N557q
                      refine own_tr st557 ?_
                      show own_Got p e below _ T557 (mkF m 27 #[.val (.ref a0), .val (.int (0 : Int32)), .val (.int (3 : Int32))] [(.int c3), (.int (0 : Int32))])
                      refine g_iadd X557 hx hby d_hsh_27 (rfl : 27 + 1 = 28) ?_
                      refine g_istoreN X557 hx hby #[.val (.ref a0), .val (.int ((0 : Int32) + c3)), .val (.int (3 : Int32))] d_hsh_28 rfl (rfl : 28 + 1 = 29) ?_
                      refine g_iinc X557 hx hby #[.val (.ref a0), .val (.int ((0 : Int32) + c3)), .val (.int ((3 : Int32) + (1 : Int32)))] d_hsh_29 rfl rfl (rfl : 29 + 3 = 32) ?_
                      rw [(by decide : ((3 : Int32) + (1 : Int32)) = (4 : Int32))]
                      refine g_goto X557 hx hby d_hsh_32 (by decide) (pc' := 7) (by decide) ?_
                      refine g_iloadN X557 hx hby d_hsh_7 rfl (rfl : 7 + 1 = 8) ?_
                      refine g_aloadN X557 hx hby d_hsh_8 rfl rfl (rfl : 8 + 1 = 9) ?_
                      obtain ⟨T558, X558, e558, st558⟩ := getF X557 hx hZ hown (host := "") (Or.inl (hw _ (own_M 64 rfl))) Via.refl eq557 r553 (g := (mkF m 9 #[.val (.ref a0), .val (.int ((0 : Int32) + c3)), .val (.int (4 : Int32))] [(.ref a0), (.int (4 : Int32))])) rfl rfl (hb hby d_hsh_9)
                      refine own_go st558 ?_
                      show own_Got p e below _ T558 (mkF m 12 #[.val (.ref a0), .val (.int ((0 : Int32) + c3)), .val (.int (4 : Int32))] [(.int (5 : Int32)), (.int (4 : Int32))])
                      refine g_icF X558 hx hby d_hsh_12 (tlt (by decide : (4 : Int32) < (5 : Int32))).2.1 (rfl : 12 + 3 = 15) ?_
                      refine g_bipush X558 hx hby (31 : Int32) d_hsh_15 (by decide) (rfl : 15 + 2 = 17) ?_
                      refine g_iloadN X558 hx hby d_hsh_17 rfl (rfl : 17 + 1 = 18) ?_
                      refine g_imul X558 hx hby d_hsh_18 (rfl : 18 + 1 = 19) ?_
                      refine g_aloadN X558 hx hby d_hsh_19 rfl rfl (rfl : 19 + 1 = 20) ?_
                      obtain ⟨T559, X559, e559, st559⟩ := getF X558 hx hZ hown (host := "") (Or.inl (hw _ (own_M 60 rfl))) Via.refl e558 hp1 (g := (mkF m 20 #[.val (.ref a0), .val (.int ((0 : Int32) + c3)), .val (.int (4 : Int32))] [(.ref a0), (.int ((31 : Int32) * ((0 : Int32) + c3)))])) rfl rfl (hb hby d_hsh_20)
                      refine own_go st559 ?_
                      show own_Got p e below _ T559 (mkF m 23 #[.val (.ref a0), .val (.int ((0 : Int32) + c3)), .val (.int (4 : Int32))] [(.ref ax), (.int ((31 : Int32) * ((0 : Int32) + c3)))])
                      refine g_iloadN X559 hx hby d_hsh_23 rfl (rfl : 23 + 1 = 24) ?_
                      obtain ⟨cq560, kq560, q560a, q560b, q560c⟩ := isOf hZ e559 hp4
                      obtain ⟨_, _, ⟨T560, L560, k560, n560⟩, -, X560, ⟨Lc560, hQ560, l560, y560, z560⟩, st560⟩ := X559.virtualBack hx (y := mN7) (z := mN7) hown (mvT hZ (hw _ (own_M 82 rfl))) (mvT hZ (hw _ (own_M 83 rfl))) (notFace_of_selects (args := #[]) (mvT hZ (hw _ (own_M 85 rfl)))) (mvT hZ (hw _ (own_M 85 rfl))) (mvT hZ (hw _ (own_M 84 rfl))) (by decide) (backOf (W := 1) (rm_cha4 l Z aT hw [] ax ob kb cd n vs _ _ _ _ _ g1 w1 h0 n0 Z0 hp4 hp5 hp6 hp7 hp8 hp9 hp10 hp11 hp12 hg1 hch hr4 hw1) hZ (hw _ (own_M 86 rfl)) (hw _ (own_M 3 rfl)) (by decide) (by decide)) q560a q560c (g := (mkF m 24 #[.val (.ref a0), .val (.int ((0 : Int32) + c3)), .val (.int (4 : Int32))] [(.int (4 : Int32)), (.ref ax), (.int ((31 : Int32) * ((0 : Int32) + c3)))])) rfl (by rw [hml]; rfl) (Steps.refl _) (argsL := [(.int (4 : Int32))]) (rest := [(.int ((31 : Int32) * ((0 : Int32) + c3)))]) (lenOf pd18 rfl) rfl (by show 2 * 0 + _ ≤ _; exact Nat.le_of_eq rfl) (hb hby d_hsh_24) (fun _ _ => ⟨rfl, e559, (by decide : 0 + 0 ≤ _), (by decide : 0 + 0 ≤ _)⟩)
                      dsimp only [Pt.U, Pt.locs, Pt.cells, Pt.slots] at X560 l560 y560 z560 st560 hQ560
                      subst l560 y560 z560
                      obtain ⟨rfl, N560q, eq560⟩ := hQ560
                      have N560 := Fr.app N557 N560q
                      refine own_tr st560 ?_
                      show own_Got p e below _ T560 (mkF m 27 #[.val (.ref a0), .val (.int ((0 : Int32) + c3)), .val (.int (4 : Int32))] [(.int c4), (.int ((31 : Int32) * ((0 : Int32) + c3)))])
                      refine g_iadd X560 hx hby d_hsh_27 (rfl : 27 + 1 = 28) ?_
                      refine g_istoreN X560 hx hby #[.val (.ref a0), .val (.int (((31 : Int32) * ((0 : Int32) + c3)) + c4)), .val (.int (4 : Int32))] d_hsh_28 rfl (rfl : 28 + 1 = 29) ?_
                      refine g_iinc X560 hx hby #[.val (.ref a0), .val (.int (((31 : Int32) * ((0 : Int32) + c3)) + c4)), .val (.int ((4 : Int32) + (1 : Int32)))] d_hsh_29 rfl rfl (rfl : 29 + 3 = 32) ?_
                      rw [(by decide : ((4 : Int32) + (1 : Int32)) = (5 : Int32))]
                      refine g_goto X560 hx hby d_hsh_32 (by decide) (pc' := 7) (by decide) ?_
                      refine g_iloadN X560 hx hby d_hsh_7 rfl (rfl : 7 + 1 = 8) ?_
                      refine g_aloadN X560 hx hby d_hsh_8 rfl rfl (rfl : 8 + 1 = 9) ?_
                      obtain ⟨T561, X561, e561, st561⟩ := getF X560 hx hZ hown (host := "") (Or.inl (hw _ (own_M 64 rfl))) Via.refl eq560 r553 (g := (mkF m 9 #[.val (.ref a0), .val (.int (((31 : Int32) * ((0 : Int32) + c3)) + c4)), .val (.int (5 : Int32))] [(.ref a0), (.int (5 : Int32))])) rfl rfl (hb hby d_hsh_9)
                      refine own_go st561 ?_
                      show own_Got p e below _ T561 (mkF m 12 #[.val (.ref a0), .val (.int (((31 : Int32) * ((0 : Int32) + c3)) + c4)), .val (.int (5 : Int32))] [(.int (5 : Int32)), (.int (5 : Int32))])
                      refine g_icT X561 hx hby d_hsh_12 (flt (by decide : ¬ ((5 : Int32) < (5 : Int32)))).2.1 (by decide) (pc' := 35) (by decide) ?_
                      refine g_iloadN X561 hx hby d_hsh_35 rfl (rfl : 35 + 1 = 36) ?_
                      refine own_retI X561 hx hby hlk hrt d_hsh_36 (by decide) (by decide) ?_
                      show Q_hsh Z a0 x y ax ob kb cd n vs c0 c1 c2 c3 c4 g1 w1 h0 n0 _ T561.heap _
                      exact ⟨(congrArg (fun z => some (Value.int z)) (by rw [F_hsh, if_neg c356, if_neg c427, if_neg c483, if_pos c527, if_neg c529, if_neg c533, if_neg c537, if_neg c541, if_neg c545, if_pos c552] <;> rfl)), N560, e561⟩
                    · exact (own_no6 (own_inE hse) c529 c533 c537 c541 c545 c552).elim
        · by_cases c562 : x = (4 : Int32)
          · have r563 : Fld Z h0 a0 "com/example/lexsign/lexsign/json/TextSpan" "start" "I" (.int (4 : Int32)) := by have q := hp2; rw [c562] at q; exact q
            by_cases c564 : y = (0 : Int32)
            · have r565 : Fld Z h0 a0 "com/example/lexsign/lexsign/json/TextSpan" "end" "I" (.int (0 : Int32)) := by have q := hp3; rw [c564] at q; exact q
              refine g_iconst X0 hx hby (0 : Int32) d_hsh_0 (by decide) (rfl : 0 + 1 = 1) ?_
              refine g_istoreN X0 hx hby #[.val (.ref a0), .val (.int (0 : Int32)), .unset] d_hsh_1 rfl (rfl : 1 + 1 = 2) ?_
              refine g_aloadN X0 hx hby d_hsh_2 rfl rfl (rfl : 2 + 1 = 3) ?_
              obtain ⟨T566, X566, e566, st566⟩ := getF X0 hx hZ hown (host := "") (Or.inl (hw _ (own_M 62 rfl))) Via.refl e0 r563 (g := (mkF m 3 #[.val (.ref a0), .val (.int (0 : Int32)), .unset] [(.ref a0)])) rfl rfl (hb hby d_hsh_3)
              refine own_go st566 ?_
              show own_Got p e below _ T566 (mkF m 6 #[.val (.ref a0), .val (.int (0 : Int32)), .unset] [(.int (4 : Int32))])
              refine g_istoreN X566 hx hby #[.val (.ref a0), .val (.int (0 : Int32)), .val (.int (4 : Int32))] d_hsh_6 rfl (rfl : 6 + 1 = 7) ?_
              refine g_iloadN X566 hx hby d_hsh_7 rfl (rfl : 7 + 1 = 8) ?_
              refine g_aloadN X566 hx hby d_hsh_8 rfl rfl (rfl : 8 + 1 = 9) ?_
              obtain ⟨T567, X567, e567, st567⟩ := getF X566 hx hZ hown (host := "") (Or.inl (hw _ (own_M 64 rfl))) Via.refl e566 r565 (g := (mkF m 9 #[.val (.ref a0), .val (.int (0 : Int32)), .val (.int (4 : Int32))] [(.ref a0), (.int (4 : Int32))])) rfl rfl (hb hby d_hsh_9)
              refine own_go st567 ?_
              show own_Got p e below _ T567 (mkF m 12 #[.val (.ref a0), .val (.int (0 : Int32)), .val (.int (4 : Int32))] [(.int (0 : Int32)), (.int (4 : Int32))])
              refine g_icT X567 hx hby d_hsh_12 (flt (by decide : ¬ ((4 : Int32) < (0 : Int32)))).2.1 (by decide) (pc' := 35) (by decide) ?_
              refine g_iloadN X567 hx hby d_hsh_35 rfl (rfl : 35 + 1 = 36) ?_
              refine own_retI X567 hx hby hlk hrt d_hsh_36 (by decide) (by decide) ?_
              show Q_hsh Z a0 x y ax ob kb cd n vs c0 c1 c2 c3 c4 g1 w1 h0 n0 _ T567.heap _
              exact ⟨(congrArg (fun z => some (Value.int z)) (by rw [F_hsh, if_neg c356, if_neg c427, if_neg c483, if_neg c527, if_pos c562, if_pos c564] <;> rfl)), N0, e567⟩
            · by_cases c568 : y = (1 : Int32)
              · have r569 : Fld Z h0 a0 "com/example/lexsign/lexsign/json/TextSpan" "end" "I" (.int (1 : Int32)) := by have q := hp3; rw [c568] at q; exact q
                refine g_iconst X0 hx hby (0 : Int32) d_hsh_0 (by decide) (rfl : 0 + 1 = 1) ?_
                refine g_istoreN X0 hx hby #[.val (.ref a0), .val (.int (0 : Int32)), .unset] d_hsh_1 rfl (rfl : 1 + 1 = 2) ?_
                refine g_aloadN X0 hx hby d_hsh_2 rfl rfl (rfl : 2 + 1 = 3) ?_
                obtain ⟨T570, X570, e570, st570⟩ := getF X0 hx hZ hown (host := "") (Or.inl (hw _ (own_M 62 rfl))) Via.refl e0 r563 (g := (mkF m 3 #[.val (.ref a0), .val (.int (0 : Int32)), .unset] [(.ref a0)])) rfl rfl (hb hby d_hsh_3)
                refine own_go st570 ?_
                show own_Got p e below _ T570 (mkF m 6 #[.val (.ref a0), .val (.int (0 : Int32)), .unset] [(.int (4 : Int32))])
                refine g_istoreN X570 hx hby #[.val (.ref a0), .val (.int (0 : Int32)), .val (.int (4 : Int32))] d_hsh_6 rfl (rfl : 6 + 1 = 7) ?_
                refine g_iloadN X570 hx hby d_hsh_7 rfl (rfl : 7 + 1 = 8) ?_
                refine g_aloadN X570 hx hby d_hsh_8 rfl rfl (rfl : 8 + 1 = 9) ?_
                obtain ⟨T571, X571, e571, st571⟩ := getF X570 hx hZ hown (host := "") (Or.inl (hw _ (own_M 64 rfl))) Via.refl e570 r569 (g := (mkF m 9 #[.val (.ref a0), .val (.int (0 : Int32)), .val (.int (4 : Int32))] [(.ref a0), (.int (4 : Int32))])) rfl rfl (hb hby d_hsh_9)
                refine own_go st571 ?_
                show own_Got p e below _ T571 (mkF m 12 #[.val (.ref a0), .val (.int (0 : Int32)), .val (.int (4 : Int32))] [(.int (1 : Int32)), (.int (4 : Int32))])
                refine g_icT X571 hx hby d_hsh_12 (flt (by decide : ¬ ((4 : Int32) < (1 : Int32)))).2.1 (by decide) (pc' := 35) (by decide) ?_
                refine g_iloadN X571 hx hby d_hsh_35 rfl (rfl : 35 + 1 = 36) ?_
                refine own_retI X571 hx hby hlk hrt d_hsh_36 (by decide) (by decide) ?_
                show Q_hsh Z a0 x y ax ob kb cd n vs c0 c1 c2 c3 c4 g1 w1 h0 n0 _ T571.heap _
                exact ⟨(congrArg (fun z => some (Value.int z)) (by rw [F_hsh, if_neg c356, if_neg c427, if_neg c483, if_neg c527, if_pos c562, if_neg c564, if_pos c568] <;> rfl)), N0, e571⟩
              · by_cases c572 : y = (2 : Int32)
                · have r573 : Fld Z h0 a0 "com/example/lexsign/lexsign/json/TextSpan" "end" "I" (.int (2 : Int32)) := by have q := hp3; rw [c572] at q; exact q
                  refine g_iconst X0 hx hby (0 : Int32) d_hsh_0 (by decide) (rfl : 0 + 1 = 1) ?_
                  refine g_istoreN X0 hx hby #[.val (.ref a0), .val (.int (0 : Int32)), .unset] d_hsh_1 rfl (rfl : 1 + 1 = 2) ?_
                  refine g_aloadN X0 hx hby d_hsh_2 rfl rfl (rfl : 2 + 1 = 3) ?_
                  obtain ⟨T574, X574, e574, st574⟩ := getF X0 hx hZ hown (host := "") (Or.inl (hw _ (own_M 62 rfl))) Via.refl e0 r563 (g := (mkF m 3 #[.val (.ref a0), .val (.int (0 : Int32)), .unset] [(.ref a0)])) rfl rfl (hb hby d_hsh_3)
                  refine own_go st574 ?_
                  show own_Got p e below _ T574 (mkF m 6 #[.val (.ref a0), .val (.int (0 : Int32)), .unset] [(.int (4 : Int32))])
                  refine g_istoreN X574 hx hby #[.val (.ref a0), .val (.int (0 : Int32)), .val (.int (4 : Int32))] d_hsh_6 rfl (rfl : 6 + 1 = 7) ?_
                  refine g_iloadN X574 hx hby d_hsh_7 rfl (rfl : 7 + 1 = 8) ?_
                  refine g_aloadN X574 hx hby d_hsh_8 rfl rfl (rfl : 8 + 1 = 9) ?_
                  obtain ⟨T575, X575, e575, st575⟩ := getF X574 hx hZ hown (host := "") (Or.inl (hw _ (own_M 64 rfl))) Via.refl e574 r573 (g := (mkF m 9 #[.val (.ref a0), .val (.int (0 : Int32)), .val (.int (4 : Int32))] [(.ref a0), (.int (4 : Int32))])) rfl rfl (hb hby d_hsh_9)
                  refine own_go st575 ?_
                  show own_Got p e below _ T575 (mkF m 12 #[.val (.ref a0), .val (.int (0 : Int32)), .val (.int (4 : Int32))] [(.int (2 : Int32)), (.int (4 : Int32))])
                  refine g_icT X575 hx hby d_hsh_12 (flt (by decide : ¬ ((4 : Int32) < (2 : Int32)))).2.1 (by decide) (pc' := 35) (by decide) ?_
                  refine g_iloadN X575 hx hby d_hsh_35 rfl (rfl : 35 + 1 = 36) ?_
                  refine own_retI X575 hx hby hlk hrt d_hsh_36 (by decide) (by decide) ?_
                  show Q_hsh Z a0 x y ax ob kb cd n vs c0 c1 c2 c3 c4 g1 w1 h0 n0 _ T575.heap _
                  exact ⟨(congrArg (fun z => some (Value.int z)) (by rw [F_hsh, if_neg c356, if_neg c427, if_neg c483, if_neg c527, if_pos c562, if_neg c564, if_neg c568, if_pos c572] <;> rfl)), N0, e575⟩
                · by_cases c576 : y = (3 : Int32)
                  · have r577 : Fld Z h0 a0 "com/example/lexsign/lexsign/json/TextSpan" "end" "I" (.int (3 : Int32)) := by have q := hp3; rw [c576] at q; exact q
                    refine g_iconst X0 hx hby (0 : Int32) d_hsh_0 (by decide) (rfl : 0 + 1 = 1) ?_
                    refine g_istoreN X0 hx hby #[.val (.ref a0), .val (.int (0 : Int32)), .unset] d_hsh_1 rfl (rfl : 1 + 1 = 2) ?_
                    refine g_aloadN X0 hx hby d_hsh_2 rfl rfl (rfl : 2 + 1 = 3) ?_
                    obtain ⟨T578, X578, e578, st578⟩ := getF X0 hx hZ hown (host := "") (Or.inl (hw _ (own_M 62 rfl))) Via.refl e0 r563 (g := (mkF m 3 #[.val (.ref a0), .val (.int (0 : Int32)), .unset] [(.ref a0)])) rfl rfl (hb hby d_hsh_3)
                    refine own_go st578 ?_
                    show own_Got p e below _ T578 (mkF m 6 #[.val (.ref a0), .val (.int (0 : Int32)), .unset] [(.int (4 : Int32))])
                    refine g_istoreN X578 hx hby #[.val (.ref a0), .val (.int (0 : Int32)), .val (.int (4 : Int32))] d_hsh_6 rfl (rfl : 6 + 1 = 7) ?_
                    refine g_iloadN X578 hx hby d_hsh_7 rfl (rfl : 7 + 1 = 8) ?_
                    refine g_aloadN X578 hx hby d_hsh_8 rfl rfl (rfl : 8 + 1 = 9) ?_
                    obtain ⟨T579, X579, e579, st579⟩ := getF X578 hx hZ hown (host := "") (Or.inl (hw _ (own_M 64 rfl))) Via.refl e578 r577 (g := (mkF m 9 #[.val (.ref a0), .val (.int (0 : Int32)), .val (.int (4 : Int32))] [(.ref a0), (.int (4 : Int32))])) rfl rfl (hb hby d_hsh_9)
                    refine own_go st579 ?_
                    show own_Got p e below _ T579 (mkF m 12 #[.val (.ref a0), .val (.int (0 : Int32)), .val (.int (4 : Int32))] [(.int (3 : Int32)), (.int (4 : Int32))])
                    refine g_icT X579 hx hby d_hsh_12 (flt (by decide : ¬ ((4 : Int32) < (3 : Int32)))).2.1 (by decide) (pc' := 35) (by decide) ?_
                    refine g_iloadN X579 hx hby d_hsh_35 rfl (rfl : 35 + 1 = 36) ?_
                    refine own_retI X579 hx hby hlk hrt d_hsh_36 (by decide) (by decide) ?_
                    show Q_hsh Z a0 x y ax ob kb cd n vs c0 c1 c2 c3 c4 g1 w1 h0 n0 _ T579.heap _
                    exact ⟨(congrArg (fun z => some (Value.int z)) (by rw [F_hsh, if_neg c356, if_neg c427, if_neg c483, if_neg c527, if_pos c562, if_neg c564, if_neg c568, if_neg c572, if_pos c576] <;> rfl)), N0, e579⟩
                  · by_cases c580 : y = (4 : Int32)
                    · have r581 : Fld Z h0 a0 "com/example/lexsign/lexsign/json/TextSpan" "end" "I" (.int (4 : Int32)) := by have q := hp3; rw [c580] at q; exact q
                      refine g_iconst X0 hx hby (0 : Int32) d_hsh_0 (by decide) (rfl : 0 + 1 = 1) ?_
                      refine g_istoreN X0 hx hby #[.val (.ref a0), .val (.int (0 : Int32)), .unset] d_hsh_1 rfl (rfl : 1 + 1 = 2) ?_
                      refine g_aloadN X0 hx hby d_hsh_2 rfl rfl (rfl : 2 + 1 = 3) ?_
                      obtain ⟨T582, X582, e582, st582⟩ := getF X0 hx hZ hown (host := "") (Or.inl (hw _ (own_M 62 rfl))) Via.refl e0 r563 (g := (mkF m 3 #[.val (.ref a0), .val (.int (0 : Int32)), .unset] [(.ref a0)])) rfl rfl (hb hby d_hsh_3)
                      refine own_go st582 ?_
                      show own_Got p e below _ T582 (mkF m 6 #[.val (.ref a0), .val (.int (0 : Int32)), .unset] [(.int (4 : Int32))])
                      refine g_istoreN X582 hx hby #[.val (.ref a0), .val (.int (0 : Int32)), .val (.int (4 : Int32))] d_hsh_6 rfl (rfl : 6 + 1 = 7) ?_
                      refine g_iloadN X582 hx hby d_hsh_7 rfl (rfl : 7 + 1 = 8) ?_
                      refine g_aloadN X582 hx hby d_hsh_8 rfl rfl (rfl : 8 + 1 = 9) ?_
                      obtain ⟨T583, X583, e583, st583⟩ := getF X582 hx hZ hown (host := "") (Or.inl (hw _ (own_M 64 rfl))) Via.refl e582 r581 (g := (mkF m 9 #[.val (.ref a0), .val (.int (0 : Int32)), .val (.int (4 : Int32))] [(.ref a0), (.int (4 : Int32))])) rfl rfl (hb hby d_hsh_9)
                      refine own_go st583 ?_
                      show own_Got p e below _ T583 (mkF m 12 #[.val (.ref a0), .val (.int (0 : Int32)), .val (.int (4 : Int32))] [(.int (4 : Int32)), (.int (4 : Int32))])
                      refine g_icT X583 hx hby d_hsh_12 (flt (by decide : ¬ ((4 : Int32) < (4 : Int32)))).2.1 (by decide) (pc' := 35) (by decide) ?_
                      refine g_iloadN X583 hx hby d_hsh_35 rfl (rfl : 35 + 1 = 36) ?_
                      refine own_retI X583 hx hby hlk hrt d_hsh_36 (by decide) (by decide) ?_
                      show Q_hsh Z a0 x y ax ob kb cd n vs c0 c1 c2 c3 c4 g1 w1 h0 n0 _ T583.heap _
                      exact ⟨(congrArg (fun z => some (Value.int z)) (by rw [F_hsh, if_neg c356, if_neg c427, if_neg c483, if_neg c527, if_pos c562, if_neg c564, if_neg c568, if_neg c572, if_neg c576, if_pos c580] <;> rfl)), N0, e583⟩
                    · by_cases c584 : y = (5 : Int32)
                      · have r585 : Fld Z h0 a0 "com/example/lexsign/lexsign/json/TextSpan" "end" "I" (.int (5 : Int32)) := by have q := hp3; rw [c584] at q; exact q
                        refine g_iconst X0 hx hby (0 : Int32) d_hsh_0 (by decide) (rfl : 0 + 1 = 1) ?_
                        refine g_istoreN X0 hx hby #[.val (.ref a0), .val (.int (0 : Int32)), .unset] d_hsh_1 rfl (rfl : 1 + 1 = 2) ?_
                        refine g_aloadN X0 hx hby d_hsh_2 rfl rfl (rfl : 2 + 1 = 3) ?_
                        obtain ⟨T586, X586, e586, st586⟩ := getF X0 hx hZ hown (host := "") (Or.inl (hw _ (own_M 62 rfl))) Via.refl e0 r563 (g := (mkF m 3 #[.val (.ref a0), .val (.int (0 : Int32)), .unset] [(.ref a0)])) rfl rfl (hb hby d_hsh_3)
                        refine own_go st586 ?_
                        show own_Got p e below _ T586 (mkF m 6 #[.val (.ref a0), .val (.int (0 : Int32)), .unset] [(.int (4 : Int32))])
                        refine g_istoreN X586 hx hby #[.val (.ref a0), .val (.int (0 : Int32)), .val (.int (4 : Int32))] d_hsh_6 rfl (rfl : 6 + 1 = 7) ?_
                        refine g_iloadN X586 hx hby d_hsh_7 rfl (rfl : 7 + 1 = 8) ?_
                        refine g_aloadN X586 hx hby d_hsh_8 rfl rfl (rfl : 8 + 1 = 9) ?_
                        obtain ⟨T587, X587, e587, st587⟩ := getF X586 hx hZ hown (host := "") (Or.inl (hw _ (own_M 64 rfl))) Via.refl e586 r585 (g := (mkF m 9 #[.val (.ref a0), .val (.int (0 : Int32)), .val (.int (4 : Int32))] [(.ref a0), (.int (4 : Int32))])) rfl rfl (hb hby d_hsh_9)
                        refine own_go st587 ?_
                        show own_Got p e below _ T587 (mkF m 12 #[.val (.ref a0), .val (.int (0 : Int32)), .val (.int (4 : Int32))] [(.int (5 : Int32)), (.int (4 : Int32))])
                        refine g_icF X587 hx hby d_hsh_12 (tlt (by decide : (4 : Int32) < (5 : Int32))).2.1 (rfl : 12 + 3 = 15) ?_
                        refine g_bipush X587 hx hby (31 : Int32) d_hsh_15 (by decide) (rfl : 15 + 2 = 17) ?_
                        refine g_iloadN X587 hx hby d_hsh_17 rfl (rfl : 17 + 1 = 18) ?_
                        refine g_imul X587 hx hby d_hsh_18 (rfl : 18 + 1 = 19) ?_
                        rw [(by decide : ((31 : Int32) * (0 : Int32)) = (0 : Int32))]
                        refine g_aloadN X587 hx hby d_hsh_19 rfl rfl (rfl : 19 + 1 = 20) ?_
                        obtain ⟨T588, X588, e588, st588⟩ := getF X587 hx hZ hown (host := "") (Or.inl (hw _ (own_M 60 rfl))) Via.refl e587 hp1 (g := (mkF m 20 #[.val (.ref a0), .val (.int (0 : Int32)), .val (.int (4 : Int32))] [(.ref a0), (.int (0 : Int32))])) rfl rfl (hb hby d_hsh_20)
                        refine own_go st588 ?_
                        show own_Got p e below _ T588 (mkF m 23 #[.val (.ref a0), .val (.int (0 : Int32)), .val (.int (4 : Int32))] [(.ref ax), (.int (0 : Int32))])
                        refine g_iloadN X588 hx hby d_hsh_23 rfl (rfl : 23 + 1 = 24) ?_
                        obtain ⟨cq589, kq589, q589a, q589b, q589c⟩ := isOf hZ e588 hp4
                        obtain ⟨_, _, ⟨T589, L589, k589, n589⟩, -, X589, ⟨Lc589, hQ589, l589, y589, z589⟩, st589⟩ := X588.virtualBack hx (y := mN7) (z := mN7) hown (mvT hZ (hw _ (own_M 82 rfl))) (mvT hZ (hw _ (own_M 83 rfl))) (notFace_of_selects (args := #[]) (mvT hZ (hw _ (own_M 85 rfl)))) (mvT hZ (hw _ (own_M 85 rfl))) (mvT hZ (hw _ (own_M 84 rfl))) (by decide) (backOf (W := 1) (rm_cha4 l Z aT hw [] ax ob kb cd n vs _ _ _ _ _ g1 w1 h0 n0 Z0 hp4 hp5 hp6 hp7 hp8 hp9 hp10 hp11 hp12 hg1 hch hr4 hw1) hZ (hw _ (own_M 86 rfl)) (hw _ (own_M 3 rfl)) (by decide) (by decide)) q589a q589c (g := (mkF m 24 #[.val (.ref a0), .val (.int (0 : Int32)), .val (.int (4 : Int32))] [(.int (4 : Int32)), (.ref ax), (.int (0 : Int32))])) rfl (by rw [hml]; rfl) (Steps.refl _) (argsL := [(.int (4 : Int32))]) (rest := [(.int (0 : Int32))]) (lenOf pd18 rfl) rfl (by show 2 * 0 + _ ≤ _; exact Nat.le_of_eq rfl) (hb hby d_hsh_24) (fun _ _ => ⟨rfl, e588, (by decide : 0 + 0 ≤ _), (by decide : 0 + 0 ≤ _)⟩)
                        dsimp only [Pt.U, Pt.locs, Pt.cells, Pt.slots] at X589 l589 y589 z589 st589 hQ589
                        subst l589 y589 z589
                        obtain ⟨rfl, N589q, eq589⟩ := hQ589
                        have N589 := Fr.app N0 N589q
                        refine own_tr st589 ?_
                        show own_Got p e below _ T589 (mkF m 27 #[.val (.ref a0), .val (.int (0 : Int32)), .val (.int (4 : Int32))] [(.int c4), (.int (0 : Int32))])
                        refine g_iadd X589 hx hby d_hsh_27 (rfl : 27 + 1 = 28) ?_
                        refine g_istoreN X589 hx hby #[.val (.ref a0), .val (.int ((0 : Int32) + c4)), .val (.int (4 : Int32))] d_hsh_28 rfl (rfl : 28 + 1 = 29) ?_
                        refine g_iinc X589 hx hby #[.val (.ref a0), .val (.int ((0 : Int32) + c4)), .val (.int ((4 : Int32) + (1 : Int32)))] d_hsh_29 rfl rfl (rfl : 29 + 3 = 32) ?_
                        rw [(by decide : ((4 : Int32) + (1 : Int32)) = (5 : Int32))]
                        refine g_goto X589 hx hby d_hsh_32 (by decide) (pc' := 7) (by decide) ?_
                        refine g_iloadN X589 hx hby d_hsh_7 rfl (rfl : 7 + 1 = 8) ?_
                        refine g_aloadN X589 hx hby d_hsh_8 rfl rfl (rfl : 8 + 1 = 9) ?_
                        obtain ⟨T590, X590, e590, st590⟩ := getF X589 hx hZ hown (host := "") (Or.inl (hw _ (own_M 64 rfl))) Via.refl eq589 r585 (g := (mkF m 9 #[.val (.ref a0), .val (.int ((0 : Int32) + c4)), .val (.int (5 : Int32))] [(.ref a0), (.int (5 : Int32))])) rfl rfl (hb hby d_hsh_9)
                        refine own_go st590 ?_
                        show own_Got p e below _ T590 (mkF m 12 #[.val (.ref a0), .val (.int ((0 : Int32) + c4)), .val (.int (5 : Int32))] [(.int (5 : Int32)), (.int (5 : Int32))])
                        refine g_icT X590 hx hby d_hsh_12 (flt (by decide : ¬ ((5 : Int32) < (5 : Int32)))).2.1 (by decide) (pc' := 35) (by decide) ?_
                        refine g_iloadN X590 hx hby d_hsh_35 rfl (rfl : 35 + 1 = 36) ?_
                        refine own_retI X590 hx hby hlk hrt d_hsh_36 (by decide) (by decide) ?_
                        show Q_hsh Z a0 x y ax ob kb cd n vs c0 c1 c2 c3 c4 g1 w1 h0 n0 _ T590.heap _
                        exact ⟨(congrArg (fun z => some (Value.int z)) (by rw [F_hsh, if_neg c356, if_neg c427, if_neg c483, if_neg c527, if_pos c562, if_neg c564, if_neg c568, if_neg c572, if_neg c576, if_neg c580, if_pos c584] <;> rfl)), N589, e590⟩
                      · exact (own_no6 (own_inE hse) c564 c568 c572 c576 c580 c584).elim
          · by_cases c591 : x = (5 : Int32)
            · have r592 : Fld Z h0 a0 "com/example/lexsign/lexsign/json/TextSpan" "start" "I" (.int (5 : Int32)) := by have q := hp2; rw [c591] at q; exact q
              by_cases c593 : y = (0 : Int32)
              · have r594 : Fld Z h0 a0 "com/example/lexsign/lexsign/json/TextSpan" "end" "I" (.int (0 : Int32)) := by have q := hp3; rw [c593] at q; exact q
                refine g_iconst X0 hx hby (0 : Int32) d_hsh_0 (by decide) (rfl : 0 + 1 = 1) ?_
                refine g_istoreN X0 hx hby #[.val (.ref a0), .val (.int (0 : Int32)), .unset] d_hsh_1 rfl (rfl : 1 + 1 = 2) ?_
                refine g_aloadN X0 hx hby d_hsh_2 rfl rfl (rfl : 2 + 1 = 3) ?_
                obtain ⟨T595, X595, e595, st595⟩ := getF X0 hx hZ hown (host := "") (Or.inl (hw _ (own_M 62 rfl))) Via.refl e0 r592 (g := (mkF m 3 #[.val (.ref a0), .val (.int (0 : Int32)), .unset] [(.ref a0)])) rfl rfl (hb hby d_hsh_3)
                refine own_go st595 ?_
                show own_Got p e below _ T595 (mkF m 6 #[.val (.ref a0), .val (.int (0 : Int32)), .unset] [(.int (5 : Int32))])
                refine g_istoreN X595 hx hby #[.val (.ref a0), .val (.int (0 : Int32)), .val (.int (5 : Int32))] d_hsh_6 rfl (rfl : 6 + 1 = 7) ?_
                refine g_iloadN X595 hx hby d_hsh_7 rfl (rfl : 7 + 1 = 8) ?_
                refine g_aloadN X595 hx hby d_hsh_8 rfl rfl (rfl : 8 + 1 = 9) ?_
                obtain ⟨T596, X596, e596, st596⟩ := getF X595 hx hZ hown (host := "") (Or.inl (hw _ (own_M 64 rfl))) Via.refl e595 r594 (g := (mkF m 9 #[.val (.ref a0), .val (.int (0 : Int32)), .val (.int (5 : Int32))] [(.ref a0), (.int (5 : Int32))])) rfl rfl (hb hby d_hsh_9)
                refine own_go st596 ?_
                show own_Got p e below _ T596 (mkF m 12 #[.val (.ref a0), .val (.int (0 : Int32)), .val (.int (5 : Int32))] [(.int (0 : Int32)), (.int (5 : Int32))])
                refine g_icT X596 hx hby d_hsh_12 (flt (by decide : ¬ ((5 : Int32) < (0 : Int32)))).2.1 (by decide) (pc' := 35) (by decide) ?_
                refine g_iloadN X596 hx hby d_hsh_35 rfl (rfl : 35 + 1 = 36) ?_
                refine own_retI X596 hx hby hlk hrt d_hsh_36 (by decide) (by decide) ?_
                show Q_hsh Z a0 x y ax ob kb cd n vs c0 c1 c2 c3 c4 g1 w1 h0 n0 _ T596.heap _
                exact ⟨(congrArg (fun z => some (Value.int z)) (by rw [F_hsh, if_neg c356, if_neg c427, if_neg c483, if_neg c527, if_neg c562, if_pos c591, if_pos c593] <;> rfl)), N0, e596⟩
              · by_cases c597 : y = (1 : Int32)
                · have r598 : Fld Z h0 a0 "com/example/lexsign/lexsign/json/TextSpan" "end" "I" (.int (1 : Int32)) := by have q := hp3; rw [c597] at q; exact q
                  refine g_iconst X0 hx hby (0 : Int32) d_hsh_0 (by decide) (rfl : 0 + 1 = 1) ?_
                  refine g_istoreN X0 hx hby #[.val (.ref a0), .val (.int (0 : Int32)), .unset] d_hsh_1 rfl (rfl : 1 + 1 = 2) ?_
                  refine g_aloadN X0 hx hby d_hsh_2 rfl rfl (rfl : 2 + 1 = 3) ?_
                  obtain ⟨T599, X599, e599, st599⟩ := getF X0 hx hZ hown (host := "") (Or.inl (hw _ (own_M 62 rfl))) Via.refl e0 r592 (g := (mkF m 3 #[.val (.ref a0), .val (.int (0 : Int32)), .unset] [(.ref a0)])) rfl rfl (hb hby d_hsh_3)
                  refine own_go st599 ?_
                  show own_Got p e below _ T599 (mkF m 6 #[.val (.ref a0), .val (.int (0 : Int32)), .unset] [(.int (5 : Int32))])
                  refine g_istoreN X599 hx hby #[.val (.ref a0), .val (.int (0 : Int32)), .val (.int (5 : Int32))] d_hsh_6 rfl (rfl : 6 + 1 = 7) ?_
                  refine g_iloadN X599 hx hby d_hsh_7 rfl (rfl : 7 + 1 = 8) ?_
                  refine g_aloadN X599 hx hby d_hsh_8 rfl rfl (rfl : 8 + 1 = 9) ?_
                  obtain ⟨T600, X600, e600, st600⟩ := getF X599 hx hZ hown (host := "") (Or.inl (hw _ (own_M 64 rfl))) Via.refl e599 r598 (g := (mkF m 9 #[.val (.ref a0), .val (.int (0 : Int32)), .val (.int (5 : Int32))] [(.ref a0), (.int (5 : Int32))])) rfl rfl (hb hby d_hsh_9)
                  refine own_go st600 ?_
                  show own_Got p e below _ T600 (mkF m 12 #[.val (.ref a0), .val (.int (0 : Int32)), .val (.int (5 : Int32))] [(.int (1 : Int32)), (.int (5 : Int32))])
                  refine g_icT X600 hx hby d_hsh_12 (flt (by decide : ¬ ((5 : Int32) < (1 : Int32)))).2.1 (by decide) (pc' := 35) (by decide) ?_
                  refine g_iloadN X600 hx hby d_hsh_35 rfl (rfl : 35 + 1 = 36) ?_
                  refine own_retI X600 hx hby hlk hrt d_hsh_36 (by decide) (by decide) ?_
                  show Q_hsh Z a0 x y ax ob kb cd n vs c0 c1 c2 c3 c4 g1 w1 h0 n0 _ T600.heap _
                  exact ⟨(congrArg (fun z => some (Value.int z)) (by rw [F_hsh, if_neg c356, if_neg c427, if_neg c483, if_neg c527, if_neg c562, if_pos c591, if_neg c593, if_pos c597] <;> rfl)), N0, e600⟩
                · by_cases c601 : y = (2 : Int32)
                  · have r602 : Fld Z h0 a0 "com/example/lexsign/lexsign/json/TextSpan" "end" "I" (.int (2 : Int32)) := by have q := hp3; rw [c601] at q; exact q
                    refine g_iconst X0 hx hby (0 : Int32) d_hsh_0 (by decide) (rfl : 0 + 1 = 1) ?_
                    refine g_istoreN X0 hx hby #[.val (.ref a0), .val (.int (0 : Int32)), .unset] d_hsh_1 rfl (rfl : 1 + 1 = 2) ?_
                    refine g_aloadN X0 hx hby d_hsh_2 rfl rfl (rfl : 2 + 1 = 3) ?_
                    obtain ⟨T603, X603, e603, st603⟩ := getF X0 hx hZ hown (host := "") (Or.inl (hw _ (own_M 62 rfl))) Via.refl e0 r592 (g := (mkF m 3 #[.val (.ref a0), .val (.int (0 : Int32)), .unset] [(.ref a0)])) rfl rfl (hb hby d_hsh_3)
                    refine own_go st603 ?_
                    show own_Got p e below _ T603 (mkF m 6 #[.val (.ref a0), .val (.int (0 : Int32)), .unset] [(.int (5 : Int32))])
                    refine g_istoreN X603 hx hby #[.val (.ref a0), .val (.int (0 : Int32)), .val (.int (5 : Int32))] d_hsh_6 rfl (rfl : 6 + 1 = 7) ?_
                    refine g_iloadN X603 hx hby d_hsh_7 rfl (rfl : 7 + 1 = 8) ?_
                    refine g_aloadN X603 hx hby d_hsh_8 rfl rfl (rfl : 8 + 1 = 9) ?_
                    obtain ⟨T604, X604, e604, st604⟩ := getF X603 hx hZ hown (host := "") (Or.inl (hw _ (own_M 64 rfl))) Via.refl e603 r602 (g := (mkF m 9 #[.val (.ref a0), .val (.int (0 : Int32)), .val (.int (5 : Int32))] [(.ref a0), (.int (5 : Int32))])) rfl rfl (hb hby d_hsh_9)
                    refine own_go st604 ?_
                    show own_Got p e below _ T604 (mkF m 12 #[.val (.ref a0), .val (.int (0 : Int32)), .val (.int (5 : Int32))] [(.int (2 : Int32)), (.int (5 : Int32))])
                    refine g_icT X604 hx hby d_hsh_12 (flt (by decide : ¬ ((5 : Int32) < (2 : Int32)))).2.1 (by decide) (pc' := 35) (by decide) ?_
                    refine g_iloadN X604 hx hby d_hsh_35 rfl (rfl : 35 + 1 = 36) ?_
                    refine own_retI X604 hx hby hlk hrt d_hsh_36 (by decide) (by decide) ?_
                    show Q_hsh Z a0 x y ax ob kb cd n vs c0 c1 c2 c3 c4 g1 w1 h0 n0 _ T604.heap _
                    exact ⟨(congrArg (fun z => some (Value.int z)) (by rw [F_hsh, if_neg c356, if_neg c427, if_neg c483, if_neg c527, if_neg c562, if_pos c591, if_neg c593, if_neg c597, if_pos c601] <;> rfl)), N0, e604⟩
                  · by_cases c605 : y = (3 : Int32)
                    · have r606 : Fld Z h0 a0 "com/example/lexsign/lexsign/json/TextSpan" "end" "I" (.int (3 : Int32)) := by have q := hp3; rw [c605] at q; exact q
                      refine g_iconst X0 hx hby (0 : Int32) d_hsh_0 (by decide) (rfl : 0 + 1 = 1) ?_
                      refine g_istoreN X0 hx hby #[.val (.ref a0), .val (.int (0 : Int32)), .unset] d_hsh_1 rfl (rfl : 1 + 1 = 2) ?_
                      refine g_aloadN X0 hx hby d_hsh_2 rfl rfl (rfl : 2 + 1 = 3) ?_
                      obtain ⟨T607, X607, e607, st607⟩ := getF X0 hx hZ hown (host := "") (Or.inl (hw _ (own_M 62 rfl))) Via.refl e0 r592 (g := (mkF m 3 #[.val (.ref a0), .val (.int (0 : Int32)), .unset] [(.ref a0)])) rfl rfl (hb hby d_hsh_3)
                      refine own_go st607 ?_
                      show own_Got p e below _ T607 (mkF m 6 #[.val (.ref a0), .val (.int (0 : Int32)), .unset] [(.int (5 : Int32))])
                      refine g_istoreN X607 hx hby #[.val (.ref a0), .val (.int (0 : Int32)), .val (.int (5 : Int32))] d_hsh_6 rfl (rfl : 6 + 1 = 7) ?_
                      refine g_iloadN X607 hx hby d_hsh_7 rfl (rfl : 7 + 1 = 8) ?_
                      refine g_aloadN X607 hx hby d_hsh_8 rfl rfl (rfl : 8 + 1 = 9) ?_
                      obtain ⟨T608, X608, e608, st608⟩ := getF X607 hx hZ hown (host := "") (Or.inl (hw _ (own_M 64 rfl))) Via.refl e607 r606 (g := (mkF m 9 #[.val (.ref a0), .val (.int (0 : Int32)), .val (.int (5 : Int32))] [(.ref a0), (.int (5 : Int32))])) rfl rfl (hb hby d_hsh_9)
                      refine own_go st608 ?_
                      show own_Got p e below _ T608 (mkF m 12 #[.val (.ref a0), .val (.int (0 : Int32)), .val (.int (5 : Int32))] [(.int (3 : Int32)), (.int (5 : Int32))])
                      refine g_icT X608 hx hby d_hsh_12 (flt (by decide : ¬ ((5 : Int32) < (3 : Int32)))).2.1 (by decide) (pc' := 35) (by decide) ?_
                      refine g_iloadN X608 hx hby d_hsh_35 rfl (rfl : 35 + 1 = 36) ?_
                      refine own_retI X608 hx hby hlk hrt d_hsh_36 (by decide) (by decide) ?_
                      show Q_hsh Z a0 x y ax ob kb cd n vs c0 c1 c2 c3 c4 g1 w1 h0 n0 _ T608.heap _
                      exact ⟨(congrArg (fun z => some (Value.int z)) (by rw [F_hsh, if_neg c356, if_neg c427, if_neg c483, if_neg c527, if_neg c562, if_pos c591, if_neg c593, if_neg c597, if_neg c601, if_pos c605] <;> rfl)), N0, e608⟩
                    · by_cases c609 : y = (4 : Int32)
                      · have r610 : Fld Z h0 a0 "com/example/lexsign/lexsign/json/TextSpan" "end" "I" (.int (4 : Int32)) := by have q := hp3; rw [c609] at q; exact q
                        refine g_iconst X0 hx hby (0 : Int32) d_hsh_0 (by decide) (rfl : 0 + 1 = 1) ?_
                        refine g_istoreN X0 hx hby #[.val (.ref a0), .val (.int (0 : Int32)), .unset] d_hsh_1 rfl (rfl : 1 + 1 = 2) ?_
                        refine g_aloadN X0 hx hby d_hsh_2 rfl rfl (rfl : 2 + 1 = 3) ?_
                        obtain ⟨T611, X611, e611, st611⟩ := getF X0 hx hZ hown (host := "") (Or.inl (hw _ (own_M 62 rfl))) Via.refl e0 r592 (g := (mkF m 3 #[.val (.ref a0), .val (.int (0 : Int32)), .unset] [(.ref a0)])) rfl rfl (hb hby d_hsh_3)
                        refine own_go st611 ?_
                        show own_Got p e below _ T611 (mkF m 6 #[.val (.ref a0), .val (.int (0 : Int32)), .unset] [(.int (5 : Int32))])
                        refine g_istoreN X611 hx hby #[.val (.ref a0), .val (.int (0 : Int32)), .val (.int (5 : Int32))] d_hsh_6 rfl (rfl : 6 + 1 = 7) ?_
                        refine g_iloadN X611 hx hby d_hsh_7 rfl (rfl : 7 + 1 = 8) ?_
                        refine g_aloadN X611 hx hby d_hsh_8 rfl rfl (rfl : 8 + 1 = 9) ?_
                        obtain ⟨T612, X612, e612, st612⟩ := getF X611 hx hZ hown (host := "") (Or.inl (hw _ (own_M 64 rfl))) Via.refl e611 r610 (g := (mkF m 9 #[.val (.ref a0), .val (.int (0 : Int32)), .val (.int (5 : Int32))] [(.ref a0), (.int (5 : Int32))])) rfl rfl (hb hby d_hsh_9)
                        refine own_go st612 ?_
                        show own_Got p e below _ T612 (mkF m 12 #[.val (.ref a0), .val (.int (0 : Int32)), .val (.int (5 : Int32))] [(.int (4 : Int32)), (.int (5 : Int32))])
                        refine g_icT X612 hx hby d_hsh_12 (flt (by decide : ¬ ((5 : Int32) < (4 : Int32)))).2.1 (by decide) (pc' := 35) (by decide) ?_
                        refine g_iloadN X612 hx hby d_hsh_35 rfl (rfl : 35 + 1 = 36) ?_
                        refine own_retI X612 hx hby hlk hrt d_hsh_36 (by decide) (by decide) ?_
                        show Q_hsh Z a0 x y ax ob kb cd n vs c0 c1 c2 c3 c4 g1 w1 h0 n0 _ T612.heap _
                        exact ⟨(congrArg (fun z => some (Value.int z)) (by rw [F_hsh, if_neg c356, if_neg c427, if_neg c483, if_neg c527, if_neg c562, if_pos c591, if_neg c593, if_neg c597, if_neg c601, if_neg c605, if_pos c609] <;> rfl)), N0, e612⟩
                      · by_cases c613 : y = (5 : Int32)
                        · have r614 : Fld Z h0 a0 "com/example/lexsign/lexsign/json/TextSpan" "end" "I" (.int (5 : Int32)) := by have q := hp3; rw [c613] at q; exact q
                          refine g_iconst X0 hx hby (0 : Int32) d_hsh_0 (by decide) (rfl : 0 + 1 = 1) ?_
                          refine g_istoreN X0 hx hby #[.val (.ref a0), .val (.int (0 : Int32)), .unset] d_hsh_1 rfl (rfl : 1 + 1 = 2) ?_
                          refine g_aloadN X0 hx hby d_hsh_2 rfl rfl (rfl : 2 + 1 = 3) ?_
                          obtain ⟨T615, X615, e615, st615⟩ := getF X0 hx hZ hown (host := "") (Or.inl (hw _ (own_M 62 rfl))) Via.refl e0 r592 (g := (mkF m 3 #[.val (.ref a0), .val (.int (0 : Int32)), .unset] [(.ref a0)])) rfl rfl (hb hby d_hsh_3)
                          refine own_go st615 ?_
                          show own_Got p e below _ T615 (mkF m 6 #[.val (.ref a0), .val (.int (0 : Int32)), .unset] [(.int (5 : Int32))])
                          refine g_istoreN X615 hx hby #[.val (.ref a0), .val (.int (0 : Int32)), .val (.int (5 : Int32))] d_hsh_6 rfl (rfl : 6 + 1 = 7) ?_
                          refine g_iloadN X615 hx hby d_hsh_7 rfl (rfl : 7 + 1 = 8) ?_
                          refine g_aloadN X615 hx hby d_hsh_8 rfl rfl (rfl : 8 + 1 = 9) ?_
                          obtain ⟨T616, X616, e616, st616⟩ := getF X615 hx hZ hown (host := "") (Or.inl (hw _ (own_M 64 rfl))) Via.refl e615 r614 (g := (mkF m 9 #[.val (.ref a0), .val (.int (0 : Int32)), .val (.int (5 : Int32))] [(.ref a0), (.int (5 : Int32))])) rfl rfl (hb hby d_hsh_9)
                          refine own_go st616 ?_
                          show own_Got p e below _ T616 (mkF m 12 #[.val (.ref a0), .val (.int (0 : Int32)), .val (.int (5 : Int32))] [(.int (5 : Int32)), (.int (5 : Int32))])
                          refine g_icT X616 hx hby d_hsh_12 (flt (by decide : ¬ ((5 : Int32) < (5 : Int32)))).2.1 (by decide) (pc' := 35) (by decide) ?_
                          refine g_iloadN X616 hx hby d_hsh_35 rfl (rfl : 35 + 1 = 36) ?_
                          refine own_retI X616 hx hby hlk hrt d_hsh_36 (by decide) (by decide) ?_
                          show Q_hsh Z a0 x y ax ob kb cd n vs c0 c1 c2 c3 c4 g1 w1 h0 n0 _ T616.heap _
                          exact ⟨(congrArg (fun z => some (Value.int z)) (by rw [F_hsh, if_neg c356, if_neg c427, if_neg c483, if_neg c527, if_neg c562, if_pos c591, if_neg c593, if_neg c597, if_neg c601, if_neg c605, if_neg c609, if_pos c613] <;> rfl)), N0, e616⟩
                        · exact (own_no6 (own_inE hse) c593 c597 c601 c605 c609 c613).elim
            · exact (own_no6 (own_inS hse) c356 c427 c483 c527 c562 c591).elim
theorem d_jhs_0 : decode prog_23_method_4_code 0 = .ok (.aload_n 0, 1) := by decide +kernel
theorem d_jhs_1 : decode prog_23_method_4_code 1 = .ok (.invokespecial 18, 3) := by decide +kernel
theorem d_jhs_4 : decode prog_23_method_4_code 4 = .ok (.ireturn, 1) := by decide +kernel
theorem ef_jhs (m : MethodId) (a0 : Addr) : entryFrame m #[(.ref a0)] 1 = mkF m 0 #[.val (.ref a0)] [] := by first | (simp [entryFrame, mkF, argsToLocals, Value.category]; done) | rfl
def F_jhs (x : Int32) (y : Int32) (c0 : Int32) (c1 : Int32) (c2 : Int32) (c3 : Int32) (c4 : Int32) : Int32 := (F_hsh x y c0 c1 c2 c3 c4)
def Q_jhs (Z : State) (a0 : Addr) (x : Int32) (y : Int32) (ax : Addr) (ob : Addr) (kb : ClassId) (cd : Int32) (n : Int32) (vs : List Value) (c0 : Int32) (c1 : Int32) (c2 : Int32) (c3 : Int32) (c4 : Int32) (g1 : Int32) (w1 : Value) (h0 : Heap) (n0 : Nat) (v : Option Value) (h : Heap) (L : List Loc) : Prop := v = some (.int (F_jhs x y c0 c1 c2 c3 c4)) ∧ Fr n0 L ∧ h = h0
set_option maxRecDepth 65536 in
set_option maxHeartbeats 40000000 in
theorem rm_jhs (l : Launch) (Z : State) (aT : Array Value) (hw : ∀ d ∈ tables_1, d.before aT Z = true) (ws : List Jvm.Cond) (a0 : Addr) (x : Int32) (y : Int32) (ax : Addr) (ob : Addr) (kb : ClassId) (cd : Int32) (n : Int32) (vs : List Value) (c0 : Int32) (c1 : Int32) (c2 : Int32) (c3 : Int32) (c4 : Int32) (g1 : Int32) (w1 : Value) (h0 : Heap) (n0 : Nat) (Z0 : n0 ≤ h0.size) (hp0 : Exa Z h0 a0 "com/example/lexsign/lexsign/json/JsonString") (hp1 : Fld Z h0 a0 "com/example/lexsign/lexsign/json/TextSpan" "text" "Ljava/lang/String;" (.ref ax)) (hp2 : Fld Z h0 a0 "com/example/lexsign/lexsign/json/TextSpan" "start" "I" (.int x)) (hp3 : Fld Z h0 a0 "com/example/lexsign/lexsign/json/TextSpan" "end" "I" (.int y)) (hp4 : Exa Z h0 ax "java/lang/String") (hp5 : Fld Z h0 ax "java/lang/String" "coder" "B" (.int cd)) (hp6 : Fld Z h0 ax "java/lang/String" "value" "[B" (.ref ob)) (hp7 : Arv Z h0 ob kb .byte n vs (.int (0 : Int32))) (hp8 : Sta Z h0 "java/lang/String" "COMPACT_STRINGS" "Z" (.int g1)) (hp9 : Sta Z h0 "jdk/internal/util/Preconditions" "SIOOBE_FORMATTER" "Ljava/util/function/BiFunction;" w1) (hp10 : Sta Z h0 "java/lang/StringUTF16" "$assertionsDisabled" "Z" (.int (1 : Int32))) (hp11 : Sta Z h0 "java/lang/StringUTF16" "HI_BYTE_SHIFT" "I" (.int (0 : Int32))) (hp12 : Sta Z h0 "java/lang/StringUTF16" "LO_BYTE_SHIFT" "I" (.int (8 : Int32))) (hg1 : ¬ (g1 = (0 : Int32))) (hch : own_ch cd n vs c0 c1 c2 c3 c4) (hw1 : w1.isRef = true) (hse : own_se x y) (hr0 : own_chr c0) (hr1 : own_chr c1) (hr2 : own_chr c2) (hr3 : own_chr c3) (hr4 : own_chr c4) :
    MetFree l mN1 (head1 (Jvm.Cond.code mN1 prog_23_method_4_code 1 (some .int) :: ws) ({ frames := 6, cells := 0, slots := 0, locals := 81 } : Room)) (fun a U => a = #[(.ref a0)] ∧ Z.Warmed39 U.vm ∧ U.heap = h0) (fun _ _ _ _ _ => True) (fun _ U o U' => ∃ v L, o = .returned v ∧ Q_jhs Z a0 x y ax ob kb cd n vs c0 c1 c2 c3 c4 g1 w1 h0 n0 v U'.heap L ∧ FrameEnd U o U' L ({ frames := 6, cells := 0, slots := 0, locals := 81 } : Room).cells ({ frames := 6, cells := 0, slots := 0, locals := 81 } : Room).slots) := by
  refine MetFree.of_bodySF (plainFor_of_name pn6) hisR ?_
  intro p e s m args below meth c s₁ Bd hml0 hP hK
  obtain ⟨rfl, hZ, hh⟩ := hP
  have hx := Bd.exec
  have hby := Bd.bytes
  have hml : c.maxLocals = 1 := hml0
  have hown : s.vm.findClass "com/example/lexsign/lexsign/json/JsonString" = some m.cls := findClass_of_methodNamed Bd.named
  have hnm := (name_of_methodNamed Bd.named Bd.method).1
  have hlk := Bd.notSynchronized
  have hrt := Bd.returns
  have X0 : Stand p l e ({ frames := 6, cells := 0, slots := 0, locals := 81 } : Room) s m #[(.ref a0)] below meth c s₁ [] 0 0 := Stand.of_body Bd
  have e0 : s₁.heap = h0 := by rw [← hh, Bd.state]; rfl
  have N0 := Fr.nil n0
  refine own_cast (P := own_End s (Q_jhs Z a0 x y ax ob kb cd n vs c0 c1 c2 c3 c4 g1 w1 h0 n0) ({ frames := 6, cells := 0, slots := 0, locals := 81 } : Room).cells ({ frames := 6, cells := 0, slots := 0, locals := 81 } : Room).slots) (ef_jhs m a0) ?_
  refine g_aloadN X0 hx hby d_jhs_0 rfl rfl (rfl : 0 + 1 = 1) ?_
  obtain ⟨_, _, ⟨T617, L617, k617, n617⟩, -, X617, ⟨Lc617, hQ617, l617, y617, z617⟩, st617⟩ := own_superBack X0 hx hZ (y := mN3) hown (hw _ (own_M 77 rfl)) (hw _ (own_M 78 rfl)) (hw _ (own_M 79 rfl)) (by decide) (by decide) (backOf (W := 0) (rm_hsh l Z aT hw [] a0 x y ax ob kb cd n vs _ _ _ _ _ g1 w1 h0 n0 Z0 hp0 hp1 hp2 hp3 hp4 hp5 hp6 hp7 hp8 hp9 hp10 hp11 hp12 hg1 hch hw1 hse hr0 hr1 hr2 hr3 hr4) hZ (hw _ (own_M 81 rfl)) (hw _ (own_M 39 rfl)) (by decide) (by decide)) e0 (Ins.self hp0) (g := (mkF m 1 #[.val (.ref a0)] [(.ref a0)])) rfl (by rw [hml]; rfl) (hw _ (own_M 81 rfl)) (argsL := []) (rest := []) (lenOf pd15 rfl) rfl (by show 2 * 0 + _ ≤ _; exact Nat.le_of_eq rfl) (hb hby d_jhs_1) (fun _ _ => ⟨rfl, e0, (by decide : 0 + 0 ≤ _), (by decide : 0 + 0 ≤ _)⟩)
  dsimp only [Pt.U, Pt.locs, Pt.cells, Pt.slots] at X617 l617 y617 z617 st617 hQ617
  subst l617 y617 z617
  obtain ⟨rfl, N617q, eq617⟩ := hQ617
  have N617 := Fr.app N0 N617q
  refine own_tr st617 ?_
  show own_Got p e below _ T617 (mkF m 4 #[.val (.ref a0)] [(.int (F_hsh x y c0 c1 c2 c3 c4))])
  refine own_retI X617 hx hby hlk hrt d_jhs_4 (by decide) (by decide) ?_
  show Q_jhs Z a0 x y ax ob kb cd n vs c0 c1 c2 c3 c4 g1 w1 h0 n0 _ T617.heap _
  exact ⟨rfl, N617, eq617⟩
theorem pd19 : parseMethodDescriptor "([C)V" = some ⟨[(.array .char)], none⟩ := by decide +kernel
theorem pd20 : parseMethodDescriptor "([C[IIII)I" = some ⟨[(.array .char), (.array .int), .int, .int, .int], some .int⟩ := by decide +kernel
theorem ef_law (m : MethodId) (x0 : Int32) (x1 : Int32) (x2 : Int32) (x3 : Int32) : entryFrame m #[(.int x0), (.int x1), (.int x2), (.int x3)] maxLocals = mkF m 0 #[.val (.int x0), .val (.int x1), .val (.int x2), .val (.int x3), .unset, .unset, .unset, .unset, .unset, .unset, .unset] [] := by first | (simp [entryFrame, mkF, argsToLocals, Value.category, maxLocals]; done) | rfl
def F_law (x0 : Int32) (x1 : Int32) (x2 : Int32) (x3 : Int32) : Int32 := if (F_jhs ((x3 &&& (7 : Int32)) % (6 : Int32)) (((x3 &&& (7 : Int32)) % (6 : Int32)) + ((((x3.toUInt32 >>> ((3 : Int32) &&& 31).toUInt32).toInt32) &&& (7 : Int32)) % ((6 : Int32) - ((x3 &&& (7 : Int32)) % (6 : Int32))))) (x0.toUInt32.toUInt16.toUInt32.toInt32) (((x0.toUInt32 >>> ((16 : Int32) &&& 31).toUInt32).toInt32).toUInt32.toUInt16.toUInt32.toInt32) (x1.toUInt32.toUInt16.toUInt32.toInt32) (((x1.toUInt32 >>> ((16 : Int32) &&& 31).toUInt32).toInt32).toUInt32.toUInt16.toUInt32.toInt32) (x2.toUInt32.toUInt16.toUInt32.toInt32)) = (((((F_trm0 ((x3 &&& (7 : Int32)) % (6 : Int32)) (((x3 &&& (7 : Int32)) % (6 : Int32)) + ((((x3.toUInt32 >>> ((3 : Int32) &&& 31).toUInt32).toInt32) &&& (7 : Int32)) % ((6 : Int32) - ((x3 &&& (7 : Int32)) % (6 : Int32))))) (x0.toUInt32.toUInt16.toUInt32.toInt32)) + (F_trm1 ((x3 &&& (7 : Int32)) % (6 : Int32)) (((x3 &&& (7 : Int32)) % (6 : Int32)) + ((((x3.toUInt32 >>> ((3 : Int32) &&& 31).toUInt32).toInt32) &&& (7 : Int32)) % ((6 : Int32) - ((x3 &&& (7 : Int32)) % (6 : Int32))))) (((x0.toUInt32 >>> ((16 : Int32) &&& 31).toUInt32).toInt32).toUInt32.toUInt16.toUInt32.toInt32))) + (F_trm2 ((x3 &&& (7 : Int32)) % (6 : Int32)) (((x3 &&& (7 : Int32)) % (6 : Int32)) + ((((x3.toUInt32 >>> ((3 : Int32) &&& 31).toUInt32).toInt32) &&& (7 : Int32)) % ((6 : Int32) - ((x3 &&& (7 : Int32)) % (6 : Int32))))) (x1.toUInt32.toUInt16.toUInt32.toInt32))) + (F_trm3 ((x3 &&& (7 : Int32)) % (6 : Int32)) (((x3 &&& (7 : Int32)) % (6 : Int32)) + ((((x3.toUInt32 >>> ((3 : Int32) &&& 31).toUInt32).toInt32) &&& (7 : Int32)) % ((6 : Int32) - ((x3 &&& (7 : Int32)) % (6 : Int32))))) (((x1.toUInt32 >>> ((16 : Int32) &&& 31).toUInt32).toInt32).toUInt32.toUInt16.toUInt32.toInt32))) + (F_trm4 ((x3 &&& (7 : Int32)) % (6 : Int32)) (((x3 &&& (7 : Int32)) % (6 : Int32)) + ((((x3.toUInt32 >>> ((3 : Int32) &&& 31).toUInt32).toInt32) &&& (7 : Int32)) % ((6 : Int32) - ((x3 &&& (7 : Int32)) % (6 : Int32))))) (x2.toUInt32.toUInt16.toUInt32.toInt32))) then ((1 : Int32)) else ((0 : Int32))
def Q_law (Z : State) (x0 : Int32) (x1 : Int32) (x2 : Int32) (x3 : Int32) (g1 : Int32) (w1 : Value) (h0 : Heap) (n0 : Nat) (v : Option Value) (h : Heap) (L : List Loc) : Prop := v = some (.int (F_law x0 x1 x2 x3)) ∧ Fr n0 L
set_option maxRecDepth 65536 in
set_option maxHeartbeats 40000000 in
theorem rm_law (l : Launch) (Z : State) (aT : Array Value) (hw : ∀ d ∈ tables_1, d.before aT Z = true) (ws : List Jvm.Cond) (x0 : Int32) (x1 : Int32) (x2 : Int32) (x3 : Int32) (g1 : Int32) (w1 : Value) (h0 : Heap) (n0 : Nat) (Z0 : n0 ≤ h0.size) (hp0 : Sta Z h0 "java/lang/String" "COMPACT_STRINGS" "Z" (.int g1)) (hp1 : Sta Z h0 "jdk/internal/util/Preconditions" "SIOOBE_FORMATTER" "Ljava/util/function/BiFunction;" w1) (hp2 : Sta Z h0 "java/lang/StringUTF16" "$assertionsDisabled" "Z" (.int (1 : Int32))) (hp3 : Sta Z h0 "java/lang/StringUTF16" "HI_BYTE_SHIFT" "I" (.int (0 : Int32))) (hp4 : Sta Z h0 "java/lang/StringUTF16" "LO_BYTE_SHIFT" "I" (.int (8 : Int32))) (hg1 : ¬ (g1 = (0 : Int32))) (hw1 : w1.isRef = true) :
    MetFree l x (head1 (Jvm.Cond.code x code maxLocals ret :: ws) room_1) (fun a U => a = #[(.int x0), (.int x1), (.int x2), (.int x3)] ∧ Z.Warmed39 U.vm ∧ U.heap = h0) (fun _ _ _ _ _ => True) (fun _ U o U' => ∃ v L, o = .returned v ∧ Q_law Z x0 x1 x2 x3 g1 w1 h0 n0 v U'.heap L ∧ FrameEnd U o U' L 24 128) := by
  refine MetFree.of_bodySF (plainFor_of_name pn7) hisR ?_
  intro p e s m args below meth c s₁ Bd hml0 hP hK
  obtain ⟨rfl, hZ, hh⟩ := hP
  have hx := Bd.exec
  have hby := Bd.bytes
  have hml : c.maxLocals = 11 := hml0
  have hown : s.vm.findClass "com/example/lexsign/lexsign/json/TextSpanHashCodePinLaw" = some m.cls := findClass_of_methodNamed Bd.named
  have hnm := (name_of_methodNamed Bd.named Bd.method).1
  have hlk := Bd.notSynchronized
  have hrt := Bd.returns
  have X0 : Stand p l e room_1 s m #[(.int x0), (.int x1), (.int x2), (.int x3)] below meth c s₁ [] 0 0 := Stand.of_body Bd
  have e0 : s₁.heap = h0 := by rw [← hh, Bd.state]; rfl
  have N0 := Fr.nil n0
  refine own_cast (P := own_End s (Q_law Z x0 x1 x2 x3 g1 w1 h0 n0) 24 128) (ef_law m x0 x1 x2 x3) ?_
  refine g_iconst X0 hx hby (5 : Int32) at_0 (by decide) (rfl : 0 + 1 = 1) ?_
  obtain ⟨T618, h618, k618, X618, e618, E618, A618, B618, st618⟩ := newPE X0 hx hZ (hw _ (own_M 0 rfl)) e0 (g := (mkF m 1 #[.val (.int x0), .val (.int x1), .val (.int x2), .val (.int x3), .unset, .unset, .unset, .unset, .unset, .unset, .unset] [(.int (5 : Int32))])) rfl (hb hby at_1) rfl (by decide) (cap := 5) (by decide) (by decide) (by decide) (by decide) (ad := "[C") (by decide +kernel)
  obtain ⟨b618, g618⟩ : ∃ z, z = h0.size := ⟨_, rfl⟩
  rw [← g618] at A618 B618 st618
  have Z618 : n0 ≤ h618.size := Nat.le_trans Z0 E618.1
  have ge618 : n0 ≤ b618 := Nat.le_trans Z0 (Nat.le_of_eq g618.symm)
  have V618 : Arv Z h618 b618 k618 .char (5 : Int32) [(.int (0 : Int32)), (.int (0 : Int32)), (.int (0 : Int32)), (.int (0 : Int32)), (.int (0 : Int32))] (.int (0 : Int32)) := (Arv.new A618 (by decide)).pad (pad_rep [] _ 5)
  refine own_go st618 ?_
  show own_Got p e below _ T618 (mkF m 3 #[.val (.int x0), .val (.int x1), .val (.int x2), .val (.int x3), .unset, .unset, .unset, .unset, .unset, .unset, .unset] [(.ref b618)])
  refine g_astore X618 hx hby #[.val (.int x0), .val (.int x1), .val (.int x2), .val (.int x3), .val (.ref b618), .unset, .unset, .unset, .unset, .unset, .unset] at_3 rfl rfl (rfl : 3 + 2 = 5) ?_
  refine g_aload X618 hx hby at_5 rfl rfl (rfl : 5 + 2 = 7) ?_
  refine g_iconst X618 hx hby (0 : Int32) at_7 (by decide) (rfl : 7 + 1 = 8) ?_
  refine g_iloadN X618 hx hby at_8 rfl (rfl : 8 + 1 = 9) ?_
  refine g_i2c X618 hx hby at_9 (rfl : 9 + 1 = 10) ?_
  obtain ⟨T619, h619, X619, e619, W619, V619, st619⟩ := a_castore X618 hx hby hZ e618 (ls := #[.val (.int x0), .val (.int x1), .val (.int x2), .val (.int x3), .val (.ref b618), .unset, .unset, .unset, .unset, .unset, .unset]) (st := []) (j := (0 : Int32)) (x0.toUInt32.toUInt16.toUInt32.toInt32) 0 V618 ⟨by decide, by decide⟩ (by decide) (Nat.le_of_ble_eq_true rfl) at_10
  have Z619 : n0 ≤ h619.size := Nat.le_trans Z618 (Keep.of_wr W619).1
  have N619 := Fr.snoc X619 N0 ge618
  have V619' : Arv Z h619 b618 k618 .char (5 : Int32) [(.int (x0.toUInt32.toUInt16.toUInt32.toInt32)), (.int (0 : Int32)), (.int (0 : Int32)), (.int (0 : Int32)), (.int (0 : Int32))] (.int (0 : Int32)) := by have q := V619; rw [own_nc] at q; exact q
  refine own_go st619 ?_
  show own_Got p e below _ T619 (mkF m 11 #[.val (.int x0), .val (.int x1), .val (.int x2), .val (.int x3), .val (.ref b618), .unset, .unset, .unset, .unset, .unset, .unset] [])
  refine g_aload X619 hx hby at_11 rfl rfl (rfl : 11 + 2 = 13) ?_
  refine g_iconst X619 hx hby (1 : Int32) at_13 (by decide) (rfl : 13 + 1 = 14) ?_
  refine g_iloadN X619 hx hby at_14 rfl (rfl : 14 + 1 = 15) ?_
  refine g_bipush X619 hx hby (16 : Int32) at_15 (by decide) (rfl : 15 + 2 = 17) ?_
  refine g_iushr X619 hx hby at_17 (rfl : 17 + 1 = 18) ?_
  refine g_i2c X619 hx hby at_18 (rfl : 18 + 1 = 19) ?_
  obtain ⟨T620, h620, X620, e620, W620, V620, st620⟩ := a_castore X619 hx hby hZ e619 (ls := #[.val (.int x0), .val (.int x1), .val (.int x2), .val (.int x3), .val (.ref b618), .unset, .unset, .unset, .unset, .unset, .unset]) (st := []) (j := (1 : Int32)) (((x0.toUInt32 >>> ((16 : Int32) &&& 31).toUInt32).toInt32).toUInt32.toUInt16.toUInt32.toInt32) 1 V619' ⟨by decide, by decide⟩ (by decide) (Nat.le_of_ble_eq_true rfl) at_19
  have Z620 : n0 ≤ h620.size := Nat.le_trans Z619 (Keep.of_wr W620).1
  have N620 := Fr.snoc X620 N619 ge618
  have V620' : Arv Z h620 b618 k618 .char (5 : Int32) [(.int (x0.toUInt32.toUInt16.toUInt32.toInt32)), (.int (((x0.toUInt32 >>> ((16 : Int32) &&& 31).toUInt32).toInt32).toUInt32.toUInt16.toUInt32.toInt32)), (.int (0 : Int32)), (.int (0 : Int32)), (.int (0 : Int32))] (.int (0 : Int32)) := by have q := V620; rw [own_nc] at q; exact q
  refine own_go st620 ?_
  show own_Got p e below _ T620 (mkF m 20 #[.val (.int x0), .val (.int x1), .val (.int x2), .val (.int x3), .val (.ref b618), .unset, .unset, .unset, .unset, .unset, .unset] [])
  refine g_aload X620 hx hby at_20 rfl rfl (rfl : 20 + 2 = 22) ?_
  refine g_iconst X620 hx hby (2 : Int32) at_22 (by decide) (rfl : 22 + 1 = 23) ?_
  refine g_iloadN X620 hx hby at_23 rfl (rfl : 23 + 1 = 24) ?_
  refine g_i2c X620 hx hby at_24 (rfl : 24 + 1 = 25) ?_
  obtain ⟨T621, h621, X621, e621, W621, V621, st621⟩ := a_castore X620 hx hby hZ e620 (ls := #[.val (.int x0), .val (.int x1), .val (.int x2), .val (.int x3), .val (.ref b618), .unset, .unset, .unset, .unset, .unset, .unset]) (st := []) (j := (2 : Int32)) (x1.toUInt32.toUInt16.toUInt32.toInt32) 2 V620' ⟨by decide, by decide⟩ (by decide) (Nat.le_of_ble_eq_true rfl) at_25
  have Z621 : n0 ≤ h621.size := Nat.le_trans Z620 (Keep.of_wr W621).1
  have N621 := Fr.snoc X621 N620 ge618
  have V621' : Arv Z h621 b618 k618 .char (5 : Int32) [(.int (x0.toUInt32.toUInt16.toUInt32.toInt32)), (.int (((x0.toUInt32 >>> ((16 : Int32) &&& 31).toUInt32).toInt32).toUInt32.toUInt16.toUInt32.toInt32)), (.int (x1.toUInt32.toUInt16.toUInt32.toInt32)), (.int (0 : Int32)), (.int (0 : Int32))] (.int (0 : Int32)) := by have q := V621; rw [own_nc] at q; exact q
  refine own_go st621 ?_
  show own_Got p e below _ T621 (mkF m 26 #[.val (.int x0), .val (.int x1), .val (.int x2), .val (.int x3), .val (.ref b618), .unset, .unset, .unset, .unset, .unset, .unset] [])
  refine g_aload X621 hx hby at_26 rfl rfl (rfl : 26 + 2 = 28) ?_
  refine g_iconst X621 hx hby (3 : Int32) at_28 (by decide) (rfl : 28 + 1 = 29) ?_
  refine g_iloadN X621 hx hby at_29 rfl (rfl : 29 + 1 = 30) ?_
  refine g_bipush X621 hx hby (16 : Int32) at_30 (by decide) (rfl : 30 + 2 = 32) ?_
  refine g_iushr X621 hx hby at_32 (rfl : 32 + 1 = 33) ?_
  refine g_i2c X621 hx hby at_33 (rfl : 33 + 1 = 34) ?_
  obtain ⟨T622, h622, X622, e622, W622, V622, st622⟩ := a_castore X621 hx hby hZ e621 (ls := #[.val (.int x0), .val (.int x1), .val (.int x2), .val (.int x3), .val (.ref b618), .unset, .unset, .unset, .unset, .unset, .unset]) (st := []) (j := (3 : Int32)) (((x1.toUInt32 >>> ((16 : Int32) &&& 31).toUInt32).toInt32).toUInt32.toUInt16.toUInt32.toInt32) 3 V621' ⟨by decide, by decide⟩ (by decide) (Nat.le_of_ble_eq_true rfl) at_34
  have Z622 : n0 ≤ h622.size := Nat.le_trans Z621 (Keep.of_wr W622).1
  have N622 := Fr.snoc X622 N621 ge618
  have V622' : Arv Z h622 b618 k618 .char (5 : Int32) [(.int (x0.toUInt32.toUInt16.toUInt32.toInt32)), (.int (((x0.toUInt32 >>> ((16 : Int32) &&& 31).toUInt32).toInt32).toUInt32.toUInt16.toUInt32.toInt32)), (.int (x1.toUInt32.toUInt16.toUInt32.toInt32)), (.int (((x1.toUInt32 >>> ((16 : Int32) &&& 31).toUInt32).toInt32).toUInt32.toUInt16.toUInt32.toInt32)), (.int (0 : Int32))] (.int (0 : Int32)) := by have q := V622; rw [own_nc] at q; exact q
  refine own_go st622 ?_
  show own_Got p e below _ T622 (mkF m 35 #[.val (.int x0), .val (.int x1), .val (.int x2), .val (.int x3), .val (.ref b618), .unset, .unset, .unset, .unset, .unset, .unset] [])
  refine g_aload X622 hx hby at_35 rfl rfl (rfl : 35 + 2 = 37) ?_
  refine g_iconst X622 hx hby (4 : Int32) at_37 (by decide) (rfl : 37 + 1 = 38) ?_
  refine g_iloadN X622 hx hby at_38 rfl (rfl : 38 + 1 = 39) ?_
  refine g_i2c X622 hx hby at_39 (rfl : 39 + 1 = 40) ?_
  obtain ⟨T623, h623, X623, e623, W623, V623, st623⟩ := a_castore X622 hx hby hZ e622 (ls := #[.val (.int x0), .val (.int x1), .val (.int x2), .val (.int x3), .val (.ref b618), .unset, .unset, .unset, .unset, .unset, .unset]) (st := []) (j := (4 : Int32)) (x2.toUInt32.toUInt16.toUInt32.toInt32) 4 V622' ⟨by decide, by decide⟩ (by decide) (Nat.le_of_ble_eq_true rfl) at_40
  have Z623 : n0 ≤ h623.size := Nat.le_trans Z622 (Keep.of_wr W623).1
  have N623 := Fr.snoc X623 N622 ge618
  have V623' : Arv Z h623 b618 k618 .char (5 : Int32) [(.int (x0.toUInt32.toUInt16.toUInt32.toInt32)), (.int (((x0.toUInt32 >>> ((16 : Int32) &&& 31).toUInt32).toInt32).toUInt32.toUInt16.toUInt32.toInt32)), (.int (x1.toUInt32.toUInt16.toUInt32.toInt32)), (.int (((x1.toUInt32 >>> ((16 : Int32) &&& 31).toUInt32).toInt32).toUInt32.toUInt16.toUInt32.toInt32)), (.int (x2.toUInt32.toUInt16.toUInt32.toInt32))] (.int (0 : Int32)) := by have q := V623; rw [own_nc] at q; exact q
  refine own_go st623 ?_
  show own_Got p e below _ T623 (mkF m 41 #[.val (.int x0), .val (.int x1), .val (.int x2), .val (.int x3), .val (.ref b618), .unset, .unset, .unset, .unset, .unset, .unset] [])
  refine g_iloadN X623 hx hby at_41 rfl (rfl : 41 + 1 = 42) ?_
  refine g_bipush X623 hx hby (7 : Int32) at_42 (by decide) (rfl : 42 + 2 = 44) ?_
  refine g_iand X623 hx hby at_44 (rfl : 44 + 1 = 45) ?_
  refine g_bipush X623 hx hby (6 : Int32) at_45 (by decide) (rfl : 45 + 2 = 47) ?_
  refine g_irem X623 hx hby at_47 (by decide) (rfl : 47 + 1 = 48) ?_
  refine g_istore X623 hx hby #[.val (.int x0), .val (.int x1), .val (.int x2), .val (.int x3), .val (.ref b618), .val (.int ((x3 &&& (7 : Int32)) % (6 : Int32))), .unset, .unset, .unset, .unset, .unset] at_48 rfl (rfl : 48 + 2 = 50) ?_
  refine g_iload X623 hx hby at_50 rfl (rfl : 50 + 2 = 52) ?_
  refine g_iloadN X623 hx hby at_52 rfl (rfl : 52 + 1 = 53) ?_
  refine g_iconst X623 hx hby (3 : Int32) at_53 (by decide) (rfl : 53 + 1 = 54) ?_
  refine g_iushr X623 hx hby at_54 (rfl : 54 + 1 = 55) ?_
  refine g_bipush X623 hx hby (7 : Int32) at_55 (by decide) (rfl : 55 + 2 = 57) ?_
  refine g_iand X623 hx hby at_57 (rfl : 57 + 1 = 58) ?_
  refine g_bipush X623 hx hby (6 : Int32) at_58 (by decide) (rfl : 58 + 2 = 60) ?_
  refine g_iload X623 hx hby at_60 rfl (rfl : 60 + 2 = 62) ?_
  refine g_isub X623 hx hby at_62 (rfl : 62 + 1 = 63) ?_
  refine g_irem X623 hx hby at_63 (own_SE _ (0 : Int32) (own_7 _) (by decide)).1 (rfl : 63 + 1 = 64) ?_
  refine g_iadd X623 hx hby at_64 (rfl : 64 + 1 = 65) ?_
  refine g_istore X623 hx hby #[.val (.int x0), .val (.int x1), .val (.int x2), .val (.int x3), .val (.ref b618), .val (.int ((x3 &&& (7 : Int32)) % (6 : Int32))), .val (.int (((x3 &&& (7 : Int32)) % (6 : Int32)) + ((((x3.toUInt32 >>> ((3 : Int32) &&& 31).toUInt32).toInt32) &&& (7 : Int32)) % ((6 : Int32) - ((x3 &&& (7 : Int32)) % (6 : Int32)))))), .unset, .unset, .unset, .unset] at_65 rfl (rfl : 65 + 2 = 67) ?_
  have f625 : Exa Z h623 b618 "[C" := (Exa.wr W623 (Exa.wr W622 (Exa.wr W621 (Exa.wr W620 (Exa.wr W619 B618)))))
  obtain ⟨T624, h624, X624, e624, E624, A624, D624, -, st624⟩ := newO X623 hx hZ hown (hw _ (own_M 1 rfl)) (hw _ (own_M 2 rfl)) (hw _ (own_M 3 rfl)) e623 (g := (mkF m 67 #[.val (.int x0), .val (.int x1), .val (.int x2), .val (.int x3), .val (.ref b618), .val (.int ((x3 &&& (7 : Int32)) % (6 : Int32))), .val (.int (((x3 &&& (7 : Int32)) % (6 : Int32)) + ((((x3.toUInt32 >>> ((3 : Int32) &&& 31).toUInt32).toInt32) &&& (7 : Int32)) % ((6 : Int32) - ((x3 &&& (7 : Int32)) % (6 : Int32)))))), .unset, .unset, .unset, .unset] [])) rfl (hb hby at_67) (by decide) (by decide)
  obtain ⟨b624, g624⟩ : ∃ z, z = h623.size := ⟨_, rfl⟩
  rw [← g624] at A624 D624 st624
  have ne626 : b618 ≠ b624 := Nat.ne_of_lt (Nat.lt_of_lt_of_le (f625).lt (Nat.le_of_eq g624.symm))
  have Z624 : n0 ≤ h624.size := Nat.le_trans Z623 E624.1
  have ge624 : n0 ≤ b624 := Nat.le_trans Z623 (Nat.le_of_eq g624.symm)
  have f627 : Fld Z h624 b624 "java/lang/String" "coder" "B" (.int (0 : Int32)) := D624 (Or.inr (hw _ (own_M 27 rfl))) (ty := .byte) (by decide)
  have f628 : Fld Z h624 b624 "java/lang/String" "value" "[B" .null := D624 (Or.inr (hw _ (own_M 29 rfl))) (ty := (.array .byte)) (by decide)
  refine own_go st624 ?_
  show own_Got p e below _ T624 (mkF m 70 #[.val (.int x0), .val (.int x1), .val (.int x2), .val (.int x3), .val (.ref b618), .val (.int ((x3 &&& (7 : Int32)) % (6 : Int32))), .val (.int (((x3 &&& (7 : Int32)) % (6 : Int32)) + ((((x3.toUInt32 >>> ((3 : Int32) &&& 31).toUInt32).toInt32) &&& (7 : Int32)) % ((6 : Int32) - ((x3 &&& (7 : Int32)) % (6 : Int32)))))), .unset, .unset, .unset, .unset] [(.ref b624)])
  refine g_dup X624 hx hby at_70 rfl (rfl : 70 + 1 = 71) ?_
  refine g_aload X624 hx hby at_71 rfl rfl (rfl : 71 + 2 = 73) ?_
  have f630 : Arv Z h624 b618 k618 .char (5 : Int32) [(.int (x0.toUInt32.toUInt16.toUInt32.toInt32)), (.int (((x0.toUInt32 >>> ((16 : Int32) &&& 31).toUInt32).toInt32).toUInt32.toUInt16.toUInt32.toInt32)), (.int (x1.toUInt32.toUInt16.toUInt32.toInt32)), (.int (((x1.toUInt32 >>> ((16 : Int32) &&& 31).toUInt32).toInt32).toUInt32.toUInt16.toUInt32.toInt32)), (.int (x2.toUInt32.toUInt16.toUInt32.toInt32))] (.int (0 : Int32)) := (V623'.ext E624)
  have f631 : Sta Z h624 "java/lang/String" "COMPACT_STRINGS" "Z" (.int g1) := (Sta.ext E624 (Sta.wr W623 (Sta.wr W622 (Sta.wr W621 (Sta.wr W620 (Sta.wr W619 (Sta.ext E618 hp0)))))))
  have f632 : Sta Z h624 "java/lang/StringUTF16" "$assertionsDisabled" "Z" (.int (1 : Int32)) := (Sta.ext E624 (Sta.wr W623 (Sta.wr W622 (Sta.wr W621 (Sta.wr W620 (Sta.wr W619 (Sta.ext E618 hp2)))))))
  have f633 : Sta Z h624 "java/lang/StringUTF16" "HI_BYTE_SHIFT" "I" (.int (0 : Int32)) := (Sta.ext E624 (Sta.wr W623 (Sta.wr W622 (Sta.wr W621 (Sta.wr W620 (Sta.wr W619 (Sta.ext E618 hp3)))))))
  have f634 : Sta Z h624 "java/lang/StringUTF16" "LO_BYTE_SHIFT" "I" (.int (8 : Int32)) := (Sta.ext E624 (Sta.wr W623 (Sta.wr W622 (Sta.wr W621 (Sta.wr W620 (Sta.wr W619 (Sta.ext E618 hp4)))))))
  have f635 : Exa Z h624 b618 "[C" := (Exa.ext E624 f625)
  obtain ⟨_, _, ⟨T629, L629, k629, n629⟩, -, X629, ⟨Lc629, hQ629, l629, y629, z629⟩, st629⟩ := X624.specialBack hx (y := mN5) rfl hown (mvT hZ (hw _ (own_M 4 rfl))) (mvT hZ (hw _ (own_M 5 rfl))) (mvT hZ (hw _ (own_M 6 rfl))) (by decide) (backOf (W := 1) (rm_si1 l Z aT hw [] b624 b618 k618 (x0.toUInt32.toUInt16.toUInt32.toInt32) (((x0.toUInt32 >>> ((16 : Int32) &&& 31).toUInt32).toInt32).toUInt32.toUInt16.toUInt32.toInt32) (x1.toUInt32.toUInt16.toUInt32.toInt32) (((x1.toUInt32 >>> ((16 : Int32) &&& 31).toUInt32).toInt32).toUInt32.toUInt16.toUInt32.toInt32) (x2.toUInt32.toUInt16.toUInt32.toInt32) g1 h624 n0 Z624 A624 f628 f627 ge624 f630 f631 f632 f633 f634 (⟨_, rfl⟩ : own_chr (x0.toUInt32.toUInt16.toUInt32.toInt32)) (⟨_, rfl⟩ : own_chr (((x0.toUInt32 >>> ((16 : Int32) &&& 31).toUInt32).toInt32).toUInt32.toUInt16.toUInt32.toInt32)) (⟨_, rfl⟩ : own_chr (x1.toUInt32.toUInt16.toUInt32.toInt32)) (⟨_, rfl⟩ : own_chr (((x1.toUInt32 >>> ((16 : Int32) &&& 31).toUInt32).toInt32).toUInt32.toUInt16.toUInt32.toInt32)) (⟨_, rfl⟩ : own_chr (x2.toUInt32.toUInt16.toUInt32.toInt32)) hg1) hZ (hw _ (own_M 6 rfl)) (hw _ (own_M 3 rfl)) (by decide) (by decide)) (g := (mkF m 73 #[.val (.int x0), .val (.int x1), .val (.int x2), .val (.int x3), .val (.ref b618), .val (.int ((x3 &&& (7 : Int32)) % (6 : Int32))), .val (.int (((x3 &&& (7 : Int32)) % (6 : Int32)) + ((((x3.toUInt32 >>> ((3 : Int32) &&& 31).toUInt32).toInt32) &&& (7 : Int32)) % ((6 : Int32) - ((x3 &&& (7 : Int32)) % (6 : Int32)))))), .unset, .unset, .unset, .unset] [(.ref b618), (.ref b624), (.ref b624)])) rfl (by rw [hml]; rfl) (Steps.refl _) (a := b624) (argsL := [(.ref b618)]) (rest := [(.ref b624)]) (lenOf pd19 rfl) rfl (by show 2 * 0 + _ ≤ _; exact Nat.le_of_eq rfl) (hb hby at_73) (fun _ _ => ⟨rfl, e624, (by decide : 2 + 2 ≤ _), (by decide : 9 + 15 ≤ _)⟩)
  dsimp only [Pt.U, Pt.locs, Pt.cells, Pt.slots] at X629 l629 y629 z629 st629 hQ629
  subst l629 y629 z629
  obtain ⟨ob_629, kb_629, cd_629, n_629, vs_629, rfl, N629q, K629, q629_0, q629_1, q629_2, q629_3, q629_4, q629_5, q629_6⟩ := hQ629
  have N629 := Fr.app N623 N629q
  have Z629 : n0 ≤ T629.heap.size := Nat.le_trans Z624 K629.1
  have ne636 : b618 ≠ ob_629 := Nat.ne_of_lt (Nat.lt_of_lt_of_le (f635).lt q629_4)
  have ne637 : b624 ≠ ob_629 := Nat.ne_of_lt (Nat.lt_of_lt_of_le (A624).lt q629_4)
  have ge638 : n0 ≤ ob_629 := Nat.le_trans Z624 q629_4
  refine own_tr st629 ?_
  show own_Got p e below _ T629 (mkF m 76 #[.val (.int x0), .val (.int x1), .val (.int x2), .val (.int x3), .val (.ref b618), .val (.int ((x3 &&& (7 : Int32)) % (6 : Int32))), .val (.int (((x3 &&& (7 : Int32)) % (6 : Int32)) + ((((x3.toUInt32 >>> ((3 : Int32) &&& 31).toUInt32).toInt32) &&& (7 : Int32)) % ((6 : Int32) - ((x3 &&& (7 : Int32)) % (6 : Int32)))))), .unset, .unset, .unset, .unset] [(.ref b624)])
  refine g_astore X629 hx hby #[.val (.int x0), .val (.int x1), .val (.int x2), .val (.int x3), .val (.ref b618), .val (.int ((x3 &&& (7 : Int32)) % (6 : Int32))), .val (.int (((x3 &&& (7 : Int32)) % (6 : Int32)) + ((((x3.toUInt32 >>> ((3 : Int32) &&& 31).toUInt32).toInt32) &&& (7 : Int32)) % ((6 : Int32) - ((x3 &&& (7 : Int32)) % (6 : Int32)))))), .val (.ref b624), .unset, .unset, .unset] at_76 rfl rfl (rfl : 76 + 2 = 78) ?_
  have f640 : Exa Z T629.heap b618 "[C" := (Exa.keep f635 K629)
  obtain ⟨T639, h639, X639, e639, E639, A639, D639, -, st639⟩ := newO X629 hx hZ hown (hw _ (own_M 30 rfl)) (hw _ (own_M 31 rfl)) (hw _ (own_M 32 rfl)) rfl (g := (mkF m 78 #[.val (.int x0), .val (.int x1), .val (.int x2), .val (.int x3), .val (.ref b618), .val (.int ((x3 &&& (7 : Int32)) % (6 : Int32))), .val (.int (((x3 &&& (7 : Int32)) % (6 : Int32)) + ((((x3.toUInt32 >>> ((3 : Int32) &&& 31).toUInt32).toInt32) &&& (7 : Int32)) % ((6 : Int32) - ((x3 &&& (7 : Int32)) % (6 : Int32)))))), .val (.ref b624), .unset, .unset, .unset] [])) rfl (hb hby at_78) (by decide) (by decide)
  obtain ⟨b639, g639⟩ : ∃ z, z = T629.heap.size := ⟨_, rfl⟩
  rw [← g639] at A639 D639 st639
  have ne641 : b618 ≠ b639 := Nat.ne_of_lt (Nat.lt_of_lt_of_le (f640).lt (Nat.le_of_eq g639.symm))
  have ne642 : b624 ≠ b639 := Nat.ne_of_lt (Nat.lt_of_lt_of_le (q629_0).lt (Nat.le_of_eq g639.symm))
  have ne643 : ob_629 ≠ b639 := Nat.ne_of_lt (Nat.lt_of_lt_of_le (q629_3).lt (Nat.le_of_eq g639.symm))
  have Z639 : n0 ≤ h639.size := Nat.le_trans Z629 E639.1
  have ge639 : n0 ≤ b639 := Nat.le_trans Z629 (Nat.le_of_eq g639.symm)
  have f644 : Fld Z h639 b639 "com/example/lexsign/lexsign/json/TextSpan" "text" "Ljava/lang/String;" .null := D639 (Or.inr (hw _ (own_M 61 rfl))) (ty := (.object "java/lang/String")) (by decide)
  have f645 : Fld Z h639 b639 "com/example/lexsign/lexsign/json/TextSpan" "start" "I" (.int (0 : Int32)) := D639 (Or.inr (hw _ (own_M 63 rfl))) (ty := .int) (by decide)
  have f646 : Fld Z h639 b639 "com/example/lexsign/lexsign/json/TextSpan" "end" "I" (.int (0 : Int32)) := D639 (Or.inr (hw _ (own_M 65 rfl))) (ty := .int) (by decide)
  refine own_go st639 ?_
  show own_Got p e below _ T639 (mkF m 81 #[.val (.int x0), .val (.int x1), .val (.int x2), .val (.int x3), .val (.ref b618), .val (.int ((x3 &&& (7 : Int32)) % (6 : Int32))), .val (.int (((x3 &&& (7 : Int32)) % (6 : Int32)) + ((((x3.toUInt32 >>> ((3 : Int32) &&& 31).toUInt32).toInt32) &&& (7 : Int32)) % ((6 : Int32) - ((x3 &&& (7 : Int32)) % (6 : Int32)))))), .val (.ref b624), .unset, .unset, .unset] [(.ref b639)])
  refine g_dup X639 hx hby at_81 rfl (rfl : 81 + 1 = 82) ?_
  refine g_aload X639 hx hby at_82 rfl rfl (rfl : 82 + 2 = 84) ?_
  refine g_iload X639 hx hby at_84 rfl (rfl : 84 + 2 = 86) ?_
  refine g_iload X639 hx hby at_86 rfl (rfl : 86 + 2 = 88) ?_
  have f648 : Exa Z h639 b624 "java/lang/String" := (Exa.ext E639 q629_0)
  have f649 : Fld Z h639 b624 "java/lang/String" "coder" "B" (.int cd_629) := (Fld.ext E639 q629_1)
  have f650 : Fld Z h639 b624 "java/lang/String" "value" "[B" (.ref ob_629) := (Fld.ext E639 q629_2)
  have f651 : Arv Z h639 ob_629 kb_629 .byte n_629 vs_629 (.int (0 : Int32)) := (q629_3.ext E639)
  have f652 : Sta Z h639 "java/lang/String" "COMPACT_STRINGS" "Z" (.int g1) := (Sta.ext E639 (own_stakeep f631 K629 A624))
  have f653 : Exa Z h639 b618 "[C" := (Exa.ext E639 f640)
  obtain ⟨_, _, ⟨T647, L647, k647, n647⟩, -, X647, ⟨Lc647, hQ647, l647, y647, z647⟩, st647⟩ := X639.specialBack hx (y := mN0) rfl hown (mvT hZ (hw _ (own_M 33 rfl))) (mvT hZ (hw _ (own_M 34 rfl))) (mvT hZ (hw _ (own_M 35 rfl))) (by decide) (backOf (W := 1) (rm_jsi l Z aT hw [] b639 b624 ((x3 &&& (7 : Int32)) % (6 : Int32)) (((x3 &&& (7 : Int32)) % (6 : Int32)) + ((((x3.toUInt32 >>> ((3 : Int32) &&& 31).toUInt32).toInt32) &&& (7 : Int32)) % ((6 : Int32) - ((x3 &&& (7 : Int32)) % (6 : Int32))))) ob_629 kb_629 cd_629 n_629 vs_629 (x0.toUInt32.toUInt16.toUInt32.toInt32) (((x0.toUInt32 >>> ((16 : Int32) &&& 31).toUInt32).toInt32).toUInt32.toUInt16.toUInt32.toInt32) (x1.toUInt32.toUInt16.toUInt32.toInt32) (((x1.toUInt32 >>> ((16 : Int32) &&& 31).toUInt32).toInt32).toUInt32.toUInt16.toUInt32.toInt32) (x2.toUInt32.toUInt16.toUInt32.toInt32) g1 h639 n0 Z639 A639 f644 f645 f646 ge639 f648 f649 f650 f651 f652 (own_se0 (own_SE _ _ (own_7 x3) (own_7 ((x3.toUInt32 >>> ((3 : Int32) &&& 31).toUInt32).toInt32))).2) (own_se1 (own_SE _ _ (own_7 x3) (own_7 ((x3.toUInt32 >>> ((3 : Int32) &&& 31).toUInt32).toInt32))).2) (own_se2 (own_SE _ _ (own_7 x3) (own_7 ((x3.toUInt32 >>> ((3 : Int32) &&& 31).toUInt32).toInt32))).2) hg1 q629_6) hZ (hw _ (own_M 35 rfl)) (hw _ (own_M 32 rfl)) (by decide) (by decide)) (g := (mkF m 88 #[.val (.int x0), .val (.int x1), .val (.int x2), .val (.int x3), .val (.ref b618), .val (.int ((x3 &&& (7 : Int32)) % (6 : Int32))), .val (.int (((x3 &&& (7 : Int32)) % (6 : Int32)) + ((((x3.toUInt32 >>> ((3 : Int32) &&& 31).toUInt32).toInt32) &&& (7 : Int32)) % ((6 : Int32) - ((x3 &&& (7 : Int32)) % (6 : Int32)))))), .val (.ref b624), .unset, .unset, .unset] [(.int (((x3 &&& (7 : Int32)) % (6 : Int32)) + ((((x3.toUInt32 >>> ((3 : Int32) &&& 31).toUInt32).toInt32) &&& (7 : Int32)) % ((6 : Int32) - ((x3 &&& (7 : Int32)) % (6 : Int32)))))), (.int ((x3 &&& (7 : Int32)) % (6 : Int32))), (.ref b624), (.ref b639), (.ref b639)])) rfl (by rw [hml]; rfl) (Steps.refl _) (a := b639) (argsL := [(.ref b624), (.int ((x3 &&& (7 : Int32)) % (6 : Int32))), (.int (((x3 &&& (7 : Int32)) % (6 : Int32)) + ((((x3.toUInt32 >>> ((3 : Int32) &&& 31).toUInt32).toInt32) &&& (7 : Int32)) % ((6 : Int32) - ((x3 &&& (7 : Int32)) % (6 : Int32))))))]) (rest := [(.ref b639)]) (lenOf pd17 rfl) rfl (by show 2 * 0 + _ ≤ _; exact Nat.le_of_eq rfl) (hb hby at_88) (fun _ _ => ⟨rfl, e639, (by decide : 5 + 0 ≤ _), (by decide : 27 + 0 ≤ _)⟩)
  dsimp only [Pt.U, Pt.locs, Pt.cells, Pt.slots] at X647 l647 y647 z647 st647 hQ647
  subst l647 y647 z647
  obtain ⟨rfl, N647q, K647, q647_0, q647_1, q647_2, q647_3⟩ := hQ647
  have N647 := Fr.app N629 N647q
  have Z647 : n0 ≤ T647.heap.size := Nat.le_trans Z639 K647.1
  refine own_tr st647 ?_
  show own_Got p e below _ T647 (mkF m 91 #[.val (.int x0), .val (.int x1), .val (.int x2), .val (.int x3), .val (.ref b618), .val (.int ((x3 &&& (7 : Int32)) % (6 : Int32))), .val (.int (((x3 &&& (7 : Int32)) % (6 : Int32)) + ((((x3.toUInt32 >>> ((3 : Int32) &&& 31).toUInt32).toInt32) &&& (7 : Int32)) % ((6 : Int32) - ((x3 &&& (7 : Int32)) % (6 : Int32)))))), .val (.ref b624), .unset, .unset, .unset] [(.ref b639)])
  refine g_astore X647 hx hby #[.val (.int x0), .val (.int x1), .val (.int x2), .val (.int x3), .val (.ref b618), .val (.int ((x3 &&& (7 : Int32)) % (6 : Int32))), .val (.int (((x3 &&& (7 : Int32)) % (6 : Int32)) + ((((x3.toUInt32 >>> ((3 : Int32) &&& 31).toUInt32).toInt32) &&& (7 : Int32)) % ((6 : Int32) - ((x3 &&& (7 : Int32)) % (6 : Int32)))))), .val (.ref b624), .val (.ref b639), .unset, .unset] at_91 rfl rfl (rfl : 91 + 2 = 93) ?_
  refine g_iconst X647 hx hby (5 : Int32) at_93 (by decide) (rfl : 93 + 1 = 94) ?_
  have f655 : Exa Z T647.heap b618 "[C" := (Exa.keep f653 K647)
  have f656 : Exa Z T647.heap b624 "java/lang/String" := (Exa.keep f648 K647)
  have f657 : Arv Z T647.heap ob_629 kb_629 .byte n_629 vs_629 (.int (0 : Int32)) := (Arv.keep f651 K647 (ninS ne643 nin0))
  obtain ⟨T654, h654, k654, X654, e654, E654, A654, B654, st654⟩ := newPE X647 hx hZ (hw _ (own_M 66 rfl)) rfl (g := (mkF m 94 #[.val (.int x0), .val (.int x1), .val (.int x2), .val (.int x3), .val (.ref b618), .val (.int ((x3 &&& (7 : Int32)) % (6 : Int32))), .val (.int (((x3 &&& (7 : Int32)) % (6 : Int32)) + ((((x3.toUInt32 >>> ((3 : Int32) &&& 31).toUInt32).toInt32) &&& (7 : Int32)) % ((6 : Int32) - ((x3 &&& (7 : Int32)) % (6 : Int32)))))), .val (.ref b624), .val (.ref b639), .unset, .unset] [(.int (5 : Int32))])) rfl (hb hby at_94) rfl (by decide) (cap := 5) (by decide) (by decide) (by decide) (by decide) (ad := "[I") (by decide +kernel)
  obtain ⟨b654, g654⟩ : ∃ z, z = T647.heap.size := ⟨_, rfl⟩
  rw [← g654] at A654 B654 st654
  have ne658 : b618 ≠ b654 := Nat.ne_of_lt (Nat.lt_of_lt_of_le (f655).lt (Nat.le_of_eq g654.symm))
  have ne659 : b624 ≠ b654 := Nat.ne_of_lt (Nat.lt_of_lt_of_le (f656).lt (Nat.le_of_eq g654.symm))
  have ne660 : ob_629 ≠ b654 := Nat.ne_of_lt (Nat.lt_of_lt_of_le (f657).lt (Nat.le_of_eq g654.symm))
  have ne661 : b639 ≠ b654 := Nat.ne_of_lt (Nat.lt_of_lt_of_le (q647_0).lt (Nat.le_of_eq g654.symm))
  have Z654 : n0 ≤ h654.size := Nat.le_trans Z647 E654.1
  have ge654 : n0 ≤ b654 := Nat.le_trans Z647 (Nat.le_of_eq g654.symm)
  have V654 : Arv Z h654 b654 k654 .int (5 : Int32) [(.int (0 : Int32)), (.int (0 : Int32)), (.int (0 : Int32)), (.int (0 : Int32)), (.int (0 : Int32))] (.int (0 : Int32)) := (Arv.new A654 (by decide)).pad (pad_rep [] _ 5)
  refine own_go st654 ?_
  show own_Got p e below _ T654 (mkF m 96 #[.val (.int x0), .val (.int x1), .val (.int x2), .val (.int x3), .val (.ref b618), .val (.int ((x3 &&& (7 : Int32)) % (6 : Int32))), .val (.int (((x3 &&& (7 : Int32)) % (6 : Int32)) + ((((x3.toUInt32 >>> ((3 : Int32) &&& 31).toUInt32).toInt32) &&& (7 : Int32)) % ((6 : Int32) - ((x3 &&& (7 : Int32)) % (6 : Int32)))))), .val (.ref b624), .val (.ref b639), .unset, .unset] [(.ref b654)])
  refine g_dup X654 hx hby at_96 rfl (rfl : 96 + 1 = 97) ?_
  refine g_iconst X654 hx hby (0 : Int32) at_97 (by decide) (rfl : 97 + 1 = 98) ?_
  refine g_iconst X654 hx hby (1 : Int32) at_98 (by decide) (rfl : 98 + 1 = 99) ?_
  obtain ⟨T662, h662, X662, e662, W662, V662, st662⟩ := a_iastore X654 hx hby hZ e654 (ls := #[.val (.int x0), .val (.int x1), .val (.int x2), .val (.int x3), .val (.ref b618), .val (.int ((x3 &&& (7 : Int32)) % (6 : Int32))), .val (.int (((x3 &&& (7 : Int32)) % (6 : Int32)) + ((((x3.toUInt32 >>> ((3 : Int32) &&& 31).toUInt32).toInt32) &&& (7 : Int32)) % ((6 : Int32) - ((x3 &&& (7 : Int32)) % (6 : Int32)))))), .val (.ref b624), .val (.ref b639), .unset, .unset]) (st := [(.ref b654)]) (j := (0 : Int32)) (1 : Int32) 0 V654 ⟨by decide, by decide⟩ (by decide) (Nat.le_of_ble_eq_true rfl) at_99
  have Z662 : n0 ≤ h662.size := Nat.le_trans Z654 (Keep.of_wr W662).1
  have N662 := Fr.snoc X662 N647 ge654
  have V662' : Arv Z h662 b654 k654 .int (5 : Int32) [(.int (1 : Int32)), (.int (0 : Int32)), (.int (0 : Int32)), (.int (0 : Int32)), (.int (0 : Int32))] (.int (0 : Int32)) := V662
  refine own_go st662 ?_
  show own_Got p e below _ T662 (mkF m 100 #[.val (.int x0), .val (.int x1), .val (.int x2), .val (.int x3), .val (.ref b618), .val (.int ((x3 &&& (7 : Int32)) % (6 : Int32))), .val (.int (((x3 &&& (7 : Int32)) % (6 : Int32)) + ((((x3.toUInt32 >>> ((3 : Int32) &&& 31).toUInt32).toInt32) &&& (7 : Int32)) % ((6 : Int32) - ((x3 &&& (7 : Int32)) % (6 : Int32)))))), .val (.ref b624), .val (.ref b639), .unset, .unset] [(.ref b654)])
  refine g_dup X662 hx hby at_100 rfl (rfl : 100 + 1 = 101) ?_
  refine g_iconst X662 hx hby (1 : Int32) at_101 (by decide) (rfl : 101 + 1 = 102) ?_
  refine g_bipush X662 hx hby (31 : Int32) at_102 (by decide) (rfl : 102 + 2 = 104) ?_
  obtain ⟨T663, h663, X663, e663, W663, V663, st663⟩ := a_iastore X662 hx hby hZ e662 (ls := #[.val (.int x0), .val (.int x1), .val (.int x2), .val (.int x3), .val (.ref b618), .val (.int ((x3 &&& (7 : Int32)) % (6 : Int32))), .val (.int (((x3 &&& (7 : Int32)) % (6 : Int32)) + ((((x3.toUInt32 >>> ((3 : Int32) &&& 31).toUInt32).toInt32) &&& (7 : Int32)) % ((6 : Int32) - ((x3 &&& (7 : Int32)) % (6 : Int32)))))), .val (.ref b624), .val (.ref b639), .unset, .unset]) (st := [(.ref b654)]) (j := (1 : Int32)) (31 : Int32) 1 V662' ⟨by decide, by decide⟩ (by decide) (Nat.le_of_ble_eq_true rfl) at_104
  have Z663 : n0 ≤ h663.size := Nat.le_trans Z662 (Keep.of_wr W663).1
  have N663 := Fr.snoc X663 N662 ge654
  have V663' : Arv Z h663 b654 k654 .int (5 : Int32) [(.int (1 : Int32)), (.int (31 : Int32)), (.int (0 : Int32)), (.int (0 : Int32)), (.int (0 : Int32))] (.int (0 : Int32)) := V663
  refine own_go st663 ?_
  show own_Got p e below _ T663 (mkF m 105 #[.val (.int x0), .val (.int x1), .val (.int x2), .val (.int x3), .val (.ref b618), .val (.int ((x3 &&& (7 : Int32)) % (6 : Int32))), .val (.int (((x3 &&& (7 : Int32)) % (6 : Int32)) + ((((x3.toUInt32 >>> ((3 : Int32) &&& 31).toUInt32).toInt32) &&& (7 : Int32)) % ((6 : Int32) - ((x3 &&& (7 : Int32)) % (6 : Int32)))))), .val (.ref b624), .val (.ref b639), .unset, .unset] [(.ref b654)])
  refine g_dup X663 hx hby at_105 rfl (rfl : 105 + 1 = 106) ?_
  refine g_iconst X663 hx hby (2 : Int32) at_106 (by decide) (rfl : 106 + 1 = 107) ?_
  refine g_sipush X663 hx hby (961 : Int32) at_107 (by decide) (rfl : 107 + 3 = 110) ?_
  obtain ⟨T664, h664, X664, e664, W664, V664, st664⟩ := a_iastore X663 hx hby hZ e663 (ls := #[.val (.int x0), .val (.int x1), .val (.int x2), .val (.int x3), .val (.ref b618), .val (.int ((x3 &&& (7 : Int32)) % (6 : Int32))), .val (.int (((x3 &&& (7 : Int32)) % (6 : Int32)) + ((((x3.toUInt32 >>> ((3 : Int32) &&& 31).toUInt32).toInt32) &&& (7 : Int32)) % ((6 : Int32) - ((x3 &&& (7 : Int32)) % (6 : Int32)))))), .val (.ref b624), .val (.ref b639), .unset, .unset]) (st := [(.ref b654)]) (j := (2 : Int32)) (961 : Int32) 2 V663' ⟨by decide, by decide⟩ (by decide) (Nat.le_of_ble_eq_true rfl) at_110
  have Z664 : n0 ≤ h664.size := Nat.le_trans Z663 (Keep.of_wr W664).1
  have N664 := Fr.snoc X664 N663 ge654
  have V664' : Arv Z h664 b654 k654 .int (5 : Int32) [(.int (1 : Int32)), (.int (31 : Int32)), (.int (961 : Int32)), (.int (0 : Int32)), (.int (0 : Int32))] (.int (0 : Int32)) := V664
  refine own_go st664 ?_
  show own_Got p e below _ T664 (mkF m 111 #[.val (.int x0), .val (.int x1), .val (.int x2), .val (.int x3), .val (.ref b618), .val (.int ((x3 &&& (7 : Int32)) % (6 : Int32))), .val (.int (((x3 &&& (7 : Int32)) % (6 : Int32)) + ((((x3.toUInt32 >>> ((3 : Int32) &&& 31).toUInt32).toInt32) &&& (7 : Int32)) % ((6 : Int32) - ((x3 &&& (7 : Int32)) % (6 : Int32)))))), .val (.ref b624), .val (.ref b639), .unset, .unset] [(.ref b654)])
  refine g_dup X664 hx hby at_111 rfl (rfl : 111 + 1 = 112) ?_
  refine g_iconst X664 hx hby (3 : Int32) at_112 (by decide) (rfl : 112 + 1 = 113) ?_
  refine g_sipush X664 hx hby (29791 : Int32) at_113 (by decide) (rfl : 113 + 3 = 116) ?_
  obtain ⟨T665, h665, X665, e665, W665, V665, st665⟩ := a_iastore X664 hx hby hZ e664 (ls := #[.val (.int x0), .val (.int x1), .val (.int x2), .val (.int x3), .val (.ref b618), .val (.int ((x3 &&& (7 : Int32)) % (6 : Int32))), .val (.int (((x3 &&& (7 : Int32)) % (6 : Int32)) + ((((x3.toUInt32 >>> ((3 : Int32) &&& 31).toUInt32).toInt32) &&& (7 : Int32)) % ((6 : Int32) - ((x3 &&& (7 : Int32)) % (6 : Int32)))))), .val (.ref b624), .val (.ref b639), .unset, .unset]) (st := [(.ref b654)]) (j := (3 : Int32)) (29791 : Int32) 3 V664' ⟨by decide, by decide⟩ (by decide) (Nat.le_of_ble_eq_true rfl) at_116
  have Z665 : n0 ≤ h665.size := Nat.le_trans Z664 (Keep.of_wr W665).1
  have N665 := Fr.snoc X665 N664 ge654
  have V665' : Arv Z h665 b654 k654 .int (5 : Int32) [(.int (1 : Int32)), (.int (31 : Int32)), (.int (961 : Int32)), (.int (29791 : Int32)), (.int (0 : Int32))] (.int (0 : Int32)) := V665
  refine own_go st665 ?_
  show own_Got p e below _ T665 (mkF m 117 #[.val (.int x0), .val (.int x1), .val (.int x2), .val (.int x3), .val (.ref b618), .val (.int ((x3 &&& (7 : Int32)) % (6 : Int32))), .val (.int (((x3 &&& (7 : Int32)) % (6 : Int32)) + ((((x3.toUInt32 >>> ((3 : Int32) &&& 31).toUInt32).toInt32) &&& (7 : Int32)) % ((6 : Int32) - ((x3 &&& (7 : Int32)) % (6 : Int32)))))), .val (.ref b624), .val (.ref b639), .unset, .unset] [(.ref b654)])
  refine g_dup X665 hx hby at_117 rfl (rfl : 117 + 1 = 118) ?_
  refine g_iconst X665 hx hby (4 : Int32) at_118 (by decide) (rfl : 118 + 1 = 119) ?_
  refine g_ldcI X665 hx hby hZ hown (hw _ (own_M 67 rfl)) at_119 (rfl : 119 + 2 = 121) ?_
  obtain ⟨T666, h666, X666, e666, W666, V666, st666⟩ := a_iastore X665 hx hby hZ e665 (ls := #[.val (.int x0), .val (.int x1), .val (.int x2), .val (.int x3), .val (.ref b618), .val (.int ((x3 &&& (7 : Int32)) % (6 : Int32))), .val (.int (((x3 &&& (7 : Int32)) % (6 : Int32)) + ((((x3.toUInt32 >>> ((3 : Int32) &&& 31).toUInt32).toInt32) &&& (7 : Int32)) % ((6 : Int32) - ((x3 &&& (7 : Int32)) % (6 : Int32)))))), .val (.ref b624), .val (.ref b639), .unset, .unset]) (st := [(.ref b654)]) (j := (4 : Int32)) (923521 : Int32) 4 V665' ⟨by decide, by decide⟩ (by decide) (Nat.le_of_ble_eq_true rfl) at_121
  have Z666 : n0 ≤ h666.size := Nat.le_trans Z665 (Keep.of_wr W666).1
  have N666 := Fr.snoc X666 N665 ge654
  have V666' : Arv Z h666 b654 k654 .int (5 : Int32) [(.int (1 : Int32)), (.int (31 : Int32)), (.int (961 : Int32)), (.int (29791 : Int32)), (.int (923521 : Int32))] (.int (0 : Int32)) := V666
  refine own_go st666 ?_
  show own_Got p e below _ T666 (mkF m 122 #[.val (.int x0), .val (.int x1), .val (.int x2), .val (.int x3), .val (.ref b618), .val (.int ((x3 &&& (7 : Int32)) % (6 : Int32))), .val (.int (((x3 &&& (7 : Int32)) % (6 : Int32)) + ((((x3.toUInt32 >>> ((3 : Int32) &&& 31).toUInt32).toInt32) &&& (7 : Int32)) % ((6 : Int32) - ((x3 &&& (7 : Int32)) % (6 : Int32)))))), .val (.ref b624), .val (.ref b639), .unset, .unset] [(.ref b654)])
  refine g_astore X666 hx hby #[.val (.int x0), .val (.int x1), .val (.int x2), .val (.int x3), .val (.ref b618), .val (.int ((x3 &&& (7 : Int32)) % (6 : Int32))), .val (.int (((x3 &&& (7 : Int32)) % (6 : Int32)) + ((((x3.toUInt32 >>> ((3 : Int32) &&& 31).toUInt32).toInt32) &&& (7 : Int32)) % ((6 : Int32) - ((x3 &&& (7 : Int32)) % (6 : Int32)))))), .val (.ref b624), .val (.ref b639), .val (.ref b654), .unset] at_122 rfl rfl (rfl : 122 + 2 = 124) ?_
  refine g_aload X666 hx hby at_124 rfl rfl (rfl : 124 + 2 = 126) ?_
  refine g_aload X666 hx hby at_126 rfl rfl (rfl : 126 + 2 = 128) ?_
  refine g_iconst X666 hx hby (0 : Int32) at_128 (by decide) (rfl : 128 + 1 = 129) ?_
  refine g_iload X666 hx hby at_129 rfl (rfl : 129 + 2 = 131) ?_
  refine g_iload X666 hx hby at_131 rfl (rfl : 131 + 2 = 133) ?_
  have f668 : Arv Z h666 b618 k618 .char (5 : Int32) [(.int (x0.toUInt32.toUInt16.toUInt32.toInt32)), (.int (((x0.toUInt32 >>> ((16 : Int32) &&& 31).toUInt32).toInt32).toUInt32.toUInt16.toUInt32.toInt32)), (.int (x1.toUInt32.toUInt16.toUInt32.toInt32)), (.int (((x1.toUInt32 >>> ((16 : Int32) &&& 31).toUInt32).toInt32).toUInt32.toUInt16.toUInt32.toInt32)), (.int (x2.toUInt32.toUInt16.toUInt32.toInt32))] (.int (0 : Int32)) := (Arv.other (Arv.other (Arv.other (Arv.other (Arv.other ((Arv.keep ((Arv.keep f630 K629 (ninS ne626 nin0)).ext E639) K647 (ninS ne641 nin0)).ext E654) W662 ne658) W663 ne658) W664 ne658) W665 ne658) W666 ne658)
  obtain ⟨_, _, ⟨T667, L667, k667, n667⟩, -, X667, ⟨Lc667, hQ667, l667, y667, z667⟩, st667⟩ := Jvm.LawKit.callS X666 hx (y := mN4) hown (mvT hZ (hw _ (own_M 68 rfl))) (mvT hZ (hw _ (own_M 69 rfl))) (mvT hZ (hw _ (own_M 70 rfl))) (mvT hZ (hw _ (own_M 71 rfl))) (by decide) (backOf (W := 0) (rm_trm0 l Z aT hw [] b618 b654 ((x3 &&& (7 : Int32)) % (6 : Int32)) (((x3 &&& (7 : Int32)) % (6 : Int32)) + ((((x3.toUInt32 >>> ((3 : Int32) &&& 31).toUInt32).toInt32) &&& (7 : Int32)) % ((6 : Int32) - ((x3 &&& (7 : Int32)) % (6 : Int32))))) k618 (x0.toUInt32.toUInt16.toUInt32.toInt32) (((x0.toUInt32 >>> ((16 : Int32) &&& 31).toUInt32).toInt32).toUInt32.toUInt16.toUInt32.toInt32) (x1.toUInt32.toUInt16.toUInt32.toInt32) (((x1.toUInt32 >>> ((16 : Int32) &&& 31).toUInt32).toInt32).toUInt32.toUInt16.toUInt32.toInt32) (x2.toUInt32.toUInt16.toUInt32.toInt32) k654 h666 n0 Z666 f668 V666' (own_SE _ _ (own_7 x3) (own_7 ((x3.toUInt32 >>> ((3 : Int32) &&& 31).toUInt32).toInt32))).2) hZ (hw _ (own_M 71 rfl)) (hw _ (own_M 70 rfl)) (by decide) (by decide)) (g := (mkF m 133 #[.val (.int x0), .val (.int x1), .val (.int x2), .val (.int x3), .val (.ref b618), .val (.int ((x3 &&& (7 : Int32)) % (6 : Int32))), .val (.int (((x3 &&& (7 : Int32)) % (6 : Int32)) + ((((x3.toUInt32 >>> ((3 : Int32) &&& 31).toUInt32).toInt32) &&& (7 : Int32)) % ((6 : Int32) - ((x3 &&& (7 : Int32)) % (6 : Int32)))))), .val (.ref b624), .val (.ref b639), .val (.ref b654), .unset] [(.int (((x3 &&& (7 : Int32)) % (6 : Int32)) + ((((x3.toUInt32 >>> ((3 : Int32) &&& 31).toUInt32).toInt32) &&& (7 : Int32)) % ((6 : Int32) - ((x3 &&& (7 : Int32)) % (6 : Int32)))))), (.int ((x3 &&& (7 : Int32)) % (6 : Int32))), (.int (0 : Int32)), (.ref b654), (.ref b618)])) rfl (by rw [hml]; rfl) (argsL := [(.ref b618), (.ref b654), (.int (0 : Int32)), (.int ((x3 &&& (7 : Int32)) % (6 : Int32))), (.int (((x3 &&& (7 : Int32)) % (6 : Int32)) + ((((x3.toUInt32 >>> ((3 : Int32) &&& 31).toUInt32).toInt32) &&& (7 : Int32)) % ((6 : Int32) - ((x3 &&& (7 : Int32)) % (6 : Int32))))))]) (rest := []) (lenOf pd20 rfl) rfl (by show 2 * 0 + _ ≤ _; exact Nat.le_of_eq rfl) (hb hby at_133) (fun _ _ => ⟨rfl, e666, (by decide : 6 + 0 ≤ _), (by decide : 32 + 0 ≤ _)⟩)
  dsimp only [Pt.U, Pt.locs, Pt.cells, Pt.slots] at X667 l667 y667 z667 st667 hQ667
  subst l667 y667 z667
  obtain ⟨rfl, N667q, eq667⟩ := hQ667
  have N667 := Fr.app N666 N667q
  refine own_go st667 ?_
  show own_Got p e below _ T667 (mkF m 136 #[.val (.int x0), .val (.int x1), .val (.int x2), .val (.int x3), .val (.ref b618), .val (.int ((x3 &&& (7 : Int32)) % (6 : Int32))), .val (.int (((x3 &&& (7 : Int32)) % (6 : Int32)) + ((((x3.toUInt32 >>> ((3 : Int32) &&& 31).toUInt32).toInt32) &&& (7 : Int32)) % ((6 : Int32) - ((x3 &&& (7 : Int32)) % (6 : Int32)))))), .val (.ref b624), .val (.ref b639), .val (.ref b654), .unset] [(.int (F_trm0 ((x3 &&& (7 : Int32)) % (6 : Int32)) (((x3 &&& (7 : Int32)) % (6 : Int32)) + ((((x3.toUInt32 >>> ((3 : Int32) &&& 31).toUInt32).toInt32) &&& (7 : Int32)) % ((6 : Int32) - ((x3 &&& (7 : Int32)) % (6 : Int32))))) (x0.toUInt32.toUInt16.toUInt32.toInt32)))])
  refine g_aload X667 hx hby at_136 rfl rfl (rfl : 136 + 2 = 138) ?_
  refine g_aload X667 hx hby at_138 rfl rfl (rfl : 138 + 2 = 140) ?_
  refine g_iconst X667 hx hby (1 : Int32) at_140 (by decide) (rfl : 140 + 1 = 141) ?_
  refine g_iload X667 hx hby at_141 rfl (rfl : 141 + 2 = 143) ?_
  refine g_iload X667 hx hby at_143 rfl (rfl : 143 + 2 = 145) ?_
  obtain ⟨_, _, ⟨T669, L669, k669, n669⟩, -, X669, ⟨Lc669, hQ669, l669, y669, z669⟩, st669⟩ := Jvm.LawKit.callS X667 hx (y := mN4) hown (mvT hZ (hw _ (own_M 68 rfl))) (mvT hZ (hw _ (own_M 69 rfl))) (mvT hZ (hw _ (own_M 70 rfl))) (mvT hZ (hw _ (own_M 71 rfl))) (by decide) (backOf (W := 1) (rm_trm1 l Z aT hw [] b618 b654 ((x3 &&& (7 : Int32)) % (6 : Int32)) (((x3 &&& (7 : Int32)) % (6 : Int32)) + ((((x3.toUInt32 >>> ((3 : Int32) &&& 31).toUInt32).toInt32) &&& (7 : Int32)) % ((6 : Int32) - ((x3 &&& (7 : Int32)) % (6 : Int32))))) k618 (x0.toUInt32.toUInt16.toUInt32.toInt32) (((x0.toUInt32 >>> ((16 : Int32) &&& 31).toUInt32).toInt32).toUInt32.toUInt16.toUInt32.toInt32) (x1.toUInt32.toUInt16.toUInt32.toInt32) (((x1.toUInt32 >>> ((16 : Int32) &&& 31).toUInt32).toInt32).toUInt32.toUInt16.toUInt32.toInt32) (x2.toUInt32.toUInt16.toUInt32.toInt32) k654 h666 n0 Z666 f668 V666' (own_SE _ _ (own_7 x3) (own_7 ((x3.toUInt32 >>> ((3 : Int32) &&& 31).toUInt32).toInt32))).2) hZ (hw _ (own_M 71 rfl)) (hw _ (own_M 70 rfl)) (by decide) (by decide)) (g := (mkF m 145 #[.val (.int x0), .val (.int x1), .val (.int x2), .val (.int x3), .val (.ref b618), .val (.int ((x3 &&& (7 : Int32)) % (6 : Int32))), .val (.int (((x3 &&& (7 : Int32)) % (6 : Int32)) + ((((x3.toUInt32 >>> ((3 : Int32) &&& 31).toUInt32).toInt32) &&& (7 : Int32)) % ((6 : Int32) - ((x3 &&& (7 : Int32)) % (6 : Int32)))))), .val (.ref b624), .val (.ref b639), .val (.ref b654), .unset] [(.int (((x3 &&& (7 : Int32)) % (6 : Int32)) + ((((x3.toUInt32 >>> ((3 : Int32) &&& 31).toUInt32).toInt32) &&& (7 : Int32)) % ((6 : Int32) - ((x3 &&& (7 : Int32)) % (6 : Int32)))))), (.int ((x3 &&& (7 : Int32)) % (6 : Int32))), (.int (1 : Int32)), (.ref b654), (.ref b618), (.int (F_trm0 ((x3 &&& (7 : Int32)) % (6 : Int32)) (((x3 &&& (7 : Int32)) % (6 : Int32)) + ((((x3.toUInt32 >>> ((3 : Int32) &&& 31).toUInt32).toInt32) &&& (7 : Int32)) % ((6 : Int32) - ((x3 &&& (7 : Int32)) % (6 : Int32))))) (x0.toUInt32.toUInt16.toUInt32.toInt32)))])) rfl (by rw [hml]; rfl) (argsL := [(.ref b618), (.ref b654), (.int (1 : Int32)), (.int ((x3 &&& (7 : Int32)) % (6 : Int32))), (.int (((x3 &&& (7 : Int32)) % (6 : Int32)) + ((((x3.toUInt32 >>> ((3 : Int32) &&& 31).toUInt32).toInt32) &&& (7 : Int32)) % ((6 : Int32) - ((x3 &&& (7 : Int32)) % (6 : Int32))))))]) (rest := [(.int (F_trm0 ((x3 &&& (7 : Int32)) % (6 : Int32)) (((x3 &&& (7 : Int32)) % (6 : Int32)) + ((((x3.toUInt32 >>> ((3 : Int32) &&& 31).toUInt32).toInt32) &&& (7 : Int32)) % ((6 : Int32) - ((x3 &&& (7 : Int32)) % (6 : Int32))))) (x0.toUInt32.toUInt16.toUInt32.toInt32)))]) (lenOf pd20 rfl) rfl (by show 2 * 0 + _ ≤ _; exact Nat.le_of_eq rfl) (hb hby at_145) (fun _ _ => ⟨rfl, eq667, (by decide : 6 + 0 ≤ _), (by decide : 32 + 0 ≤ _)⟩)
  dsimp only [Pt.U, Pt.locs, Pt.cells, Pt.slots] at X669 l669 y669 z669 st669 hQ669
  subst l669 y669 z669
  obtain ⟨rfl, N669q, eq669⟩ := hQ669
  have N669 := Fr.app N667 N669q
  refine own_go st669 ?_
  show own_Got p e below _ T669 (mkF m 148 #[.val (.int x0), .val (.int x1), .val (.int x2), .val (.int x3), .val (.ref b618), .val (.int ((x3 &&& (7 : Int32)) % (6 : Int32))), .val (.int (((x3 &&& (7 : Int32)) % (6 : Int32)) + ((((x3.toUInt32 >>> ((3 : Int32) &&& 31).toUInt32).toInt32) &&& (7 : Int32)) % ((6 : Int32) - ((x3 &&& (7 : Int32)) % (6 : Int32)))))), .val (.ref b624), .val (.ref b639), .val (.ref b654), .unset] [(.int (F_trm1 ((x3 &&& (7 : Int32)) % (6 : Int32)) (((x3 &&& (7 : Int32)) % (6 : Int32)) + ((((x3.toUInt32 >>> ((3 : Int32) &&& 31).toUInt32).toInt32) &&& (7 : Int32)) % ((6 : Int32) - ((x3 &&& (7 : Int32)) % (6 : Int32))))) (((x0.toUInt32 >>> ((16 : Int32) &&& 31).toUInt32).toInt32).toUInt32.toUInt16.toUInt32.toInt32))), (.int (F_trm0 ((x3 &&& (7 : Int32)) % (6 : Int32)) (((x3 &&& (7 : Int32)) % (6 : Int32)) + ((((x3.toUInt32 >>> ((3 : Int32) &&& 31).toUInt32).toInt32) &&& (7 : Int32)) % ((6 : Int32) - ((x3 &&& (7 : Int32)) % (6 : Int32))))) (x0.toUInt32.toUInt16.toUInt32.toInt32)))])
  refine g_iadd X669 hx hby at_148 (rfl : 148 + 1 = 149) ?_
  refine g_aload X669 hx hby at_149 rfl rfl (rfl : 149 + 2 = 151) ?_
  refine g_aload X669 hx hby at_151 rfl rfl (rfl : 151 + 2 = 153) ?_
  refine g_iconst X669 hx hby (2 : Int32) at_153 (by decide) (rfl : 153 + 1 = 154) ?_
  refine g_iload X669 hx hby at_154 rfl (rfl : 154 + 2 = 156) ?_
  refine g_iload X669 hx hby at_156 rfl (rfl : 156 + 2 = 158) ?_
  obtain ⟨_, _, ⟨T670, L670, k670, n670⟩, -, X670, ⟨Lc670, hQ670, l670, y670, z670⟩, st670⟩ := Jvm.LawKit.callS X669 hx (y := mN4) hown (mvT hZ (hw _ (own_M 68 rfl))) (mvT hZ (hw _ (own_M 69 rfl))) (mvT hZ (hw _ (own_M 70 rfl))) (mvT hZ (hw _ (own_M 71 rfl))) (by decide) (backOf (W := 1) (rm_trm2 l Z aT hw [] b618 b654 ((x3 &&& (7 : Int32)) % (6 : Int32)) (((x3 &&& (7 : Int32)) % (6 : Int32)) + ((((x3.toUInt32 >>> ((3 : Int32) &&& 31).toUInt32).toInt32) &&& (7 : Int32)) % ((6 : Int32) - ((x3 &&& (7 : Int32)) % (6 : Int32))))) k618 (x0.toUInt32.toUInt16.toUInt32.toInt32) (((x0.toUInt32 >>> ((16 : Int32) &&& 31).toUInt32).toInt32).toUInt32.toUInt16.toUInt32.toInt32) (x1.toUInt32.toUInt16.toUInt32.toInt32) (((x1.toUInt32 >>> ((16 : Int32) &&& 31).toUInt32).toInt32).toUInt32.toUInt16.toUInt32.toInt32) (x2.toUInt32.toUInt16.toUInt32.toInt32) k654 h666 n0 Z666 f668 V666' (own_SE _ _ (own_7 x3) (own_7 ((x3.toUInt32 >>> ((3 : Int32) &&& 31).toUInt32).toInt32))).2) hZ (hw _ (own_M 71 rfl)) (hw _ (own_M 70 rfl)) (by decide) (by decide)) (g := (mkF m 158 #[.val (.int x0), .val (.int x1), .val (.int x2), .val (.int x3), .val (.ref b618), .val (.int ((x3 &&& (7 : Int32)) % (6 : Int32))), .val (.int (((x3 &&& (7 : Int32)) % (6 : Int32)) + ((((x3.toUInt32 >>> ((3 : Int32) &&& 31).toUInt32).toInt32) &&& (7 : Int32)) % ((6 : Int32) - ((x3 &&& (7 : Int32)) % (6 : Int32)))))), .val (.ref b624), .val (.ref b639), .val (.ref b654), .unset] [(.int (((x3 &&& (7 : Int32)) % (6 : Int32)) + ((((x3.toUInt32 >>> ((3 : Int32) &&& 31).toUInt32).toInt32) &&& (7 : Int32)) % ((6 : Int32) - ((x3 &&& (7 : Int32)) % (6 : Int32)))))), (.int ((x3 &&& (7 : Int32)) % (6 : Int32))), (.int (2 : Int32)), (.ref b654), (.ref b618), (.int ((F_trm0 ((x3 &&& (7 : Int32)) % (6 : Int32)) (((x3 &&& (7 : Int32)) % (6 : Int32)) + ((((x3.toUInt32 >>> ((3 : Int32) &&& 31).toUInt32).toInt32) &&& (7 : Int32)) % ((6 : Int32) - ((x3 &&& (7 : Int32)) % (6 : Int32))))) (x0.toUInt32.toUInt16.toUInt32.toInt32)) + (F_trm1 ((x3 &&& (7 : Int32)) % (6 : Int32)) (((x3 &&& (7 : Int32)) % (6 : Int32)) + ((((x3.toUInt32 >>> ((3 : Int32) &&& 31).toUInt32).toInt32) &&& (7 : Int32)) % ((6 : Int32) - ((x3 &&& (7 : Int32)) % (6 : Int32))))) (((x0.toUInt32 >>> ((16 : Int32) &&& 31).toUInt32).toInt32).toUInt32.toUInt16.toUInt32.toInt32))))])) rfl (by rw [hml]; rfl) (argsL := [(.ref b618), (.ref b654), (.int (2 : Int32)), (.int ((x3 &&& (7 : Int32)) % (6 : Int32))), (.int (((x3 &&& (7 : Int32)) % (6 : Int32)) + ((((x3.toUInt32 >>> ((3 : Int32) &&& 31).toUInt32).toInt32) &&& (7 : Int32)) % ((6 : Int32) - ((x3 &&& (7 : Int32)) % (6 : Int32))))))]) (rest := [(.int ((F_trm0 ((x3 &&& (7 : Int32)) % (6 : Int32)) (((x3 &&& (7 : Int32)) % (6 : Int32)) + ((((x3.toUInt32 >>> ((3 : Int32) &&& 31).toUInt32).toInt32) &&& (7 : Int32)) % ((6 : Int32) - ((x3 &&& (7 : Int32)) % (6 : Int32))))) (x0.toUInt32.toUInt16.toUInt32.toInt32)) + (F_trm1 ((x3 &&& (7 : Int32)) % (6 : Int32)) (((x3 &&& (7 : Int32)) % (6 : Int32)) + ((((x3.toUInt32 >>> ((3 : Int32) &&& 31).toUInt32).toInt32) &&& (7 : Int32)) % ((6 : Int32) - ((x3 &&& (7 : Int32)) % (6 : Int32))))) (((x0.toUInt32 >>> ((16 : Int32) &&& 31).toUInt32).toInt32).toUInt32.toUInt16.toUInt32.toInt32))))]) (lenOf pd20 rfl) rfl (by show 2 * 0 + _ ≤ _; exact Nat.le_of_eq rfl) (hb hby at_158) (fun _ _ => ⟨rfl, eq669, (by decide : 6 + 0 ≤ _), (by decide : 32 + 0 ≤ _)⟩)
  dsimp only [Pt.U, Pt.locs, Pt.cells, Pt.slots] at X670 l670 y670 z670 st670 hQ670
  subst l670 y670 z670
  obtain ⟨rfl, N670q, eq670⟩ := hQ670
  have N670 := Fr.app N669 N670q
  refine own_go st670 ?_
  show own_Got p e below _ T670 (mkF m 161 #[.val (.int x0), .val (.int x1), .val (.int x2), .val (.int x3), .val (.ref b618), .val (.int ((x3 &&& (7 : Int32)) % (6 : Int32))), .val (.int (((x3 &&& (7 : Int32)) % (6 : Int32)) + ((((x3.toUInt32 >>> ((3 : Int32) &&& 31).toUInt32).toInt32) &&& (7 : Int32)) % ((6 : Int32) - ((x3 &&& (7 : Int32)) % (6 : Int32)))))), .val (.ref b624), .val (.ref b639), .val (.ref b654), .unset] [(.int (F_trm2 ((x3 &&& (7 : Int32)) % (6 : Int32)) (((x3 &&& (7 : Int32)) % (6 : Int32)) + ((((x3.toUInt32 >>> ((3 : Int32) &&& 31).toUInt32).toInt32) &&& (7 : Int32)) % ((6 : Int32) - ((x3 &&& (7 : Int32)) % (6 : Int32))))) (x1.toUInt32.toUInt16.toUInt32.toInt32))), (.int ((F_trm0 ((x3 &&& (7 : Int32)) % (6 : Int32)) (((x3 &&& (7 : Int32)) % (6 : Int32)) + ((((x3.toUInt32 >>> ((3 : Int32) &&& 31).toUInt32).toInt32) &&& (7 : Int32)) % ((6 : Int32) - ((x3 &&& (7 : Int32)) % (6 : Int32))))) (x0.toUInt32.toUInt16.toUInt32.toInt32)) + (F_trm1 ((x3 &&& (7 : Int32)) % (6 : Int32)) (((x3 &&& (7 : Int32)) % (6 : Int32)) + ((((x3.toUInt32 >>> ((3 : Int32) &&& 31).toUInt32).toInt32) &&& (7 : Int32)) % ((6 : Int32) - ((x3 &&& (7 : Int32)) % (6 : Int32))))) (((x0.toUInt32 >>> ((16 : Int32) &&& 31).toUInt32).toInt32).toUInt32.toUInt16.toUInt32.toInt32))))])
  refine g_iadd X670 hx hby at_161 (rfl : 161 + 1 = 162) ?_
  refine g_aload X670 hx hby at_162 rfl rfl (rfl : 162 + 2 = 164) ?_
  refine g_aload X670 hx hby at_164 rfl rfl (rfl : 164 + 2 = 166) ?_
  refine g_iconst X670 hx hby (3 : Int32) at_166 (by decide) (rfl : 166 + 1 = 167) ?_
  refine g_iload X670 hx hby at_167 rfl (rfl : 167 + 2 = 169) ?_
  refine g_iload X670 hx hby at_169 rfl (rfl : 169 + 2 = 171) ?_
  obtain ⟨_, _, ⟨T671, L671, k671, n671⟩, -, X671, ⟨Lc671, hQ671, l671, y671, z671⟩, st671⟩ := Jvm.LawKit.callS X670 hx (y := mN4) hown (mvT hZ (hw _ (own_M 68 rfl))) (mvT hZ (hw _ (own_M 69 rfl))) (mvT hZ (hw _ (own_M 70 rfl))) (mvT hZ (hw _ (own_M 71 rfl))) (by decide) (backOf (W := 1) (rm_trm3 l Z aT hw [] b618 b654 ((x3 &&& (7 : Int32)) % (6 : Int32)) (((x3 &&& (7 : Int32)) % (6 : Int32)) + ((((x3.toUInt32 >>> ((3 : Int32) &&& 31).toUInt32).toInt32) &&& (7 : Int32)) % ((6 : Int32) - ((x3 &&& (7 : Int32)) % (6 : Int32))))) k618 (x0.toUInt32.toUInt16.toUInt32.toInt32) (((x0.toUInt32 >>> ((16 : Int32) &&& 31).toUInt32).toInt32).toUInt32.toUInt16.toUInt32.toInt32) (x1.toUInt32.toUInt16.toUInt32.toInt32) (((x1.toUInt32 >>> ((16 : Int32) &&& 31).toUInt32).toInt32).toUInt32.toUInt16.toUInt32.toInt32) (x2.toUInt32.toUInt16.toUInt32.toInt32) k654 h666 n0 Z666 f668 V666' (own_SE _ _ (own_7 x3) (own_7 ((x3.toUInt32 >>> ((3 : Int32) &&& 31).toUInt32).toInt32))).2) hZ (hw _ (own_M 71 rfl)) (hw _ (own_M 70 rfl)) (by decide) (by decide)) (g := (mkF m 171 #[.val (.int x0), .val (.int x1), .val (.int x2), .val (.int x3), .val (.ref b618), .val (.int ((x3 &&& (7 : Int32)) % (6 : Int32))), .val (.int (((x3 &&& (7 : Int32)) % (6 : Int32)) + ((((x3.toUInt32 >>> ((3 : Int32) &&& 31).toUInt32).toInt32) &&& (7 : Int32)) % ((6 : Int32) - ((x3 &&& (7 : Int32)) % (6 : Int32)))))), .val (.ref b624), .val (.ref b639), .val (.ref b654), .unset] [(.int (((x3 &&& (7 : Int32)) % (6 : Int32)) + ((((x3.toUInt32 >>> ((3 : Int32) &&& 31).toUInt32).toInt32) &&& (7 : Int32)) % ((6 : Int32) - ((x3 &&& (7 : Int32)) % (6 : Int32)))))), (.int ((x3 &&& (7 : Int32)) % (6 : Int32))), (.int (3 : Int32)), (.ref b654), (.ref b618), (.int (((F_trm0 ((x3 &&& (7 : Int32)) % (6 : Int32)) (((x3 &&& (7 : Int32)) % (6 : Int32)) + ((((x3.toUInt32 >>> ((3 : Int32) &&& 31).toUInt32).toInt32) &&& (7 : Int32)) % ((6 : Int32) - ((x3 &&& (7 : Int32)) % (6 : Int32))))) (x0.toUInt32.toUInt16.toUInt32.toInt32)) + (F_trm1 ((x3 &&& (7 : Int32)) % (6 : Int32)) (((x3 &&& (7 : Int32)) % (6 : Int32)) + ((((x3.toUInt32 >>> ((3 : Int32) &&& 31).toUInt32).toInt32) &&& (7 : Int32)) % ((6 : Int32) - ((x3 &&& (7 : Int32)) % (6 : Int32))))) (((x0.toUInt32 >>> ((16 : Int32) &&& 31).toUInt32).toInt32).toUInt32.toUInt16.toUInt32.toInt32))) + (F_trm2 ((x3 &&& (7 : Int32)) % (6 : Int32)) (((x3 &&& (7 : Int32)) % (6 : Int32)) + ((((x3.toUInt32 >>> ((3 : Int32) &&& 31).toUInt32).toInt32) &&& (7 : Int32)) % ((6 : Int32) - ((x3 &&& (7 : Int32)) % (6 : Int32))))) (x1.toUInt32.toUInt16.toUInt32.toInt32))))])) rfl (by rw [hml]; rfl) (argsL := [(.ref b618), (.ref b654), (.int (3 : Int32)), (.int ((x3 &&& (7 : Int32)) % (6 : Int32))), (.int (((x3 &&& (7 : Int32)) % (6 : Int32)) + ((((x3.toUInt32 >>> ((3 : Int32) &&& 31).toUInt32).toInt32) &&& (7 : Int32)) % ((6 : Int32) - ((x3 &&& (7 : Int32)) % (6 : Int32))))))]) (rest := [(.int (((F_trm0 ((x3 &&& (7 : Int32)) % (6 : Int32)) (((x3 &&& (7 : Int32)) % (6 : Int32)) + ((((x3.toUInt32 >>> ((3 : Int32) &&& 31).toUInt32).toInt32) &&& (7 : Int32)) % ((6 : Int32) - ((x3 &&& (7 : Int32)) % (6 : Int32))))) (x0.toUInt32.toUInt16.toUInt32.toInt32)) + (F_trm1 ((x3 &&& (7 : Int32)) % (6 : Int32)) (((x3 &&& (7 : Int32)) % (6 : Int32)) + ((((x3.toUInt32 >>> ((3 : Int32) &&& 31).toUInt32).toInt32) &&& (7 : Int32)) % ((6 : Int32) - ((x3 &&& (7 : Int32)) % (6 : Int32))))) (((x0.toUInt32 >>> ((16 : Int32) &&& 31).toUInt32).toInt32).toUInt32.toUInt16.toUInt32.toInt32))) + (F_trm2 ((x3 &&& (7 : Int32)) % (6 : Int32)) (((x3 &&& (7 : Int32)) % (6 : Int32)) + ((((x3.toUInt32 >>> ((3 : Int32) &&& 31).toUInt32).toInt32) &&& (7 : Int32)) % ((6 : Int32) - ((x3 &&& (7 : Int32)) % (6 : Int32))))) (x1.toUInt32.toUInt16.toUInt32.toInt32))))]) (lenOf pd20 rfl) rfl (by show 2 * 0 + _ ≤ _; exact Nat.le_of_eq rfl) (hb hby at_171) (fun _ _ => ⟨rfl, eq670, (by decide : 6 + 0 ≤ _), (by decide : 32 + 0 ≤ _)⟩)
  dsimp only [Pt.U, Pt.locs, Pt.cells, Pt.slots] at X671 l671 y671 z671 st671 hQ671
  subst l671 y671 z671
  obtain ⟨rfl, N671q, eq671⟩ := hQ671
  have N671 := Fr.app N670 N671q
  refine own_go st671 ?_
  show own_Got p e below _ T671 (mkF m 174 #[.val (.int x0), .val (.int x1), .val (.int x2), .val (.int x3), .val (.ref b618), .val (.int ((x3 &&& (7 : Int32)) % (6 : Int32))), .val (.int (((x3 &&& (7 : Int32)) % (6 : Int32)) + ((((x3.toUInt32 >>> ((3 : Int32) &&& 31).toUInt32).toInt32) &&& (7 : Int32)) % ((6 : Int32) - ((x3 &&& (7 : Int32)) % (6 : Int32)))))), .val (.ref b624), .val (.ref b639), .val (.ref b654), .unset] [(.int (F_trm3 ((x3 &&& (7 : Int32)) % (6 : Int32)) (((x3 &&& (7 : Int32)) % (6 : Int32)) + ((((x3.toUInt32 >>> ((3 : Int32) &&& 31).toUInt32).toInt32) &&& (7 : Int32)) % ((6 : Int32) - ((x3 &&& (7 : Int32)) % (6 : Int32))))) (((x1.toUInt32 >>> ((16 : Int32) &&& 31).toUInt32).toInt32).toUInt32.toUInt16.toUInt32.toInt32))), (.int (((F_trm0 ((x3 &&& (7 : Int32)) % (6 : Int32)) (((x3 &&& (7 : Int32)) % (6 : Int32)) + ((((x3.toUInt32 >>> ((3 : Int32) &&& 31).toUInt32).toInt32) &&& (7 : Int32)) % ((6 : Int32) - ((x3 &&& (7 : Int32)) % (6 : Int32))))) (x0.toUInt32.toUInt16.toUInt32.toInt32)) + (F_trm1 ((x3 &&& (7 : Int32)) % (6 : Int32)) (((x3 &&& (7 : Int32)) % (6 : Int32)) + ((((x3.toUInt32 >>> ((3 : Int32) &&& 31).toUInt32).toInt32) &&& (7 : Int32)) % ((6 : Int32) - ((x3 &&& (7 : Int32)) % (6 : Int32))))) (((x0.toUInt32 >>> ((16 : Int32) &&& 31).toUInt32).toInt32).toUInt32.toUInt16.toUInt32.toInt32))) + (F_trm2 ((x3 &&& (7 : Int32)) % (6 : Int32)) (((x3 &&& (7 : Int32)) % (6 : Int32)) + ((((x3.toUInt32 >>> ((3 : Int32) &&& 31).toUInt32).toInt32) &&& (7 : Int32)) % ((6 : Int32) - ((x3 &&& (7 : Int32)) % (6 : Int32))))) (x1.toUInt32.toUInt16.toUInt32.toInt32))))])
  refine g_iadd X671 hx hby at_174 (rfl : 174 + 1 = 175) ?_
  refine g_aload X671 hx hby at_175 rfl rfl (rfl : 175 + 2 = 177) ?_
  refine g_aload X671 hx hby at_177 rfl rfl (rfl : 177 + 2 = 179) ?_
  refine g_iconst X671 hx hby (4 : Int32) at_179 (by decide) (rfl : 179 + 1 = 180) ?_
  refine g_iload X671 hx hby at_180 rfl (rfl : 180 + 2 = 182) ?_
  refine g_iload X671 hx hby at_182 rfl (rfl : 182 + 2 = 184) ?_
  obtain ⟨_, _, ⟨T672, L672, k672, n672⟩, -, X672, ⟨Lc672, hQ672, l672, y672, z672⟩, st672⟩ := Jvm.LawKit.callS X671 hx (y := mN4) hown (mvT hZ (hw _ (own_M 68 rfl))) (mvT hZ (hw _ (own_M 69 rfl))) (mvT hZ (hw _ (own_M 70 rfl))) (mvT hZ (hw _ (own_M 71 rfl))) (by decide) (backOf (W := 1) (rm_trm4 l Z aT hw [] b618 b654 ((x3 &&& (7 : Int32)) % (6 : Int32)) (((x3 &&& (7 : Int32)) % (6 : Int32)) + ((((x3.toUInt32 >>> ((3 : Int32) &&& 31).toUInt32).toInt32) &&& (7 : Int32)) % ((6 : Int32) - ((x3 &&& (7 : Int32)) % (6 : Int32))))) k618 (x0.toUInt32.toUInt16.toUInt32.toInt32) (((x0.toUInt32 >>> ((16 : Int32) &&& 31).toUInt32).toInt32).toUInt32.toUInt16.toUInt32.toInt32) (x1.toUInt32.toUInt16.toUInt32.toInt32) (((x1.toUInt32 >>> ((16 : Int32) &&& 31).toUInt32).toInt32).toUInt32.toUInt16.toUInt32.toInt32) (x2.toUInt32.toUInt16.toUInt32.toInt32) k654 h666 n0 Z666 f668 V666' (own_SE _ _ (own_7 x3) (own_7 ((x3.toUInt32 >>> ((3 : Int32) &&& 31).toUInt32).toInt32))).2) hZ (hw _ (own_M 71 rfl)) (hw _ (own_M 70 rfl)) (by decide) (by decide)) (g := (mkF m 184 #[.val (.int x0), .val (.int x1), .val (.int x2), .val (.int x3), .val (.ref b618), .val (.int ((x3 &&& (7 : Int32)) % (6 : Int32))), .val (.int (((x3 &&& (7 : Int32)) % (6 : Int32)) + ((((x3.toUInt32 >>> ((3 : Int32) &&& 31).toUInt32).toInt32) &&& (7 : Int32)) % ((6 : Int32) - ((x3 &&& (7 : Int32)) % (6 : Int32)))))), .val (.ref b624), .val (.ref b639), .val (.ref b654), .unset] [(.int (((x3 &&& (7 : Int32)) % (6 : Int32)) + ((((x3.toUInt32 >>> ((3 : Int32) &&& 31).toUInt32).toInt32) &&& (7 : Int32)) % ((6 : Int32) - ((x3 &&& (7 : Int32)) % (6 : Int32)))))), (.int ((x3 &&& (7 : Int32)) % (6 : Int32))), (.int (4 : Int32)), (.ref b654), (.ref b618), (.int ((((F_trm0 ((x3 &&& (7 : Int32)) % (6 : Int32)) (((x3 &&& (7 : Int32)) % (6 : Int32)) + ((((x3.toUInt32 >>> ((3 : Int32) &&& 31).toUInt32).toInt32) &&& (7 : Int32)) % ((6 : Int32) - ((x3 &&& (7 : Int32)) % (6 : Int32))))) (x0.toUInt32.toUInt16.toUInt32.toInt32)) + (F_trm1 ((x3 &&& (7 : Int32)) % (6 : Int32)) (((x3 &&& (7 : Int32)) % (6 : Int32)) + ((((x3.toUInt32 >>> ((3 : Int32) &&& 31).toUInt32).toInt32) &&& (7 : Int32)) % ((6 : Int32) - ((x3 &&& (7 : Int32)) % (6 : Int32))))) (((x0.toUInt32 >>> ((16 : Int32) &&& 31).toUInt32).toInt32).toUInt32.toUInt16.toUInt32.toInt32))) + (F_trm2 ((x3 &&& (7 : Int32)) % (6 : Int32)) (((x3 &&& (7 : Int32)) % (6 : Int32)) + ((((x3.toUInt32 >>> ((3 : Int32) &&& 31).toUInt32).toInt32) &&& (7 : Int32)) % ((6 : Int32) - ((x3 &&& (7 : Int32)) % (6 : Int32))))) (x1.toUInt32.toUInt16.toUInt32.toInt32))) + (F_trm3 ((x3 &&& (7 : Int32)) % (6 : Int32)) (((x3 &&& (7 : Int32)) % (6 : Int32)) + ((((x3.toUInt32 >>> ((3 : Int32) &&& 31).toUInt32).toInt32) &&& (7 : Int32)) % ((6 : Int32) - ((x3 &&& (7 : Int32)) % (6 : Int32))))) (((x1.toUInt32 >>> ((16 : Int32) &&& 31).toUInt32).toInt32).toUInt32.toUInt16.toUInt32.toInt32))))])) rfl (by rw [hml]; rfl) (argsL := [(.ref b618), (.ref b654), (.int (4 : Int32)), (.int ((x3 &&& (7 : Int32)) % (6 : Int32))), (.int (((x3 &&& (7 : Int32)) % (6 : Int32)) + ((((x3.toUInt32 >>> ((3 : Int32) &&& 31).toUInt32).toInt32) &&& (7 : Int32)) % ((6 : Int32) - ((x3 &&& (7 : Int32)) % (6 : Int32))))))]) (rest := [(.int ((((F_trm0 ((x3 &&& (7 : Int32)) % (6 : Int32)) (((x3 &&& (7 : Int32)) % (6 : Int32)) + ((((x3.toUInt32 >>> ((3 : Int32) &&& 31).toUInt32).toInt32) &&& (7 : Int32)) % ((6 : Int32) - ((x3 &&& (7 : Int32)) % (6 : Int32))))) (x0.toUInt32.toUInt16.toUInt32.toInt32)) + (F_trm1 ((x3 &&& (7 : Int32)) % (6 : Int32)) (((x3 &&& (7 : Int32)) % (6 : Int32)) + ((((x3.toUInt32 >>> ((3 : Int32) &&& 31).toUInt32).toInt32) &&& (7 : Int32)) % ((6 : Int32) - ((x3 &&& (7 : Int32)) % (6 : Int32))))) (((x0.toUInt32 >>> ((16 : Int32) &&& 31).toUInt32).toInt32).toUInt32.toUInt16.toUInt32.toInt32))) + (F_trm2 ((x3 &&& (7 : Int32)) % (6 : Int32)) (((x3 &&& (7 : Int32)) % (6 : Int32)) + ((((x3.toUInt32 >>> ((3 : Int32) &&& 31).toUInt32).toInt32) &&& (7 : Int32)) % ((6 : Int32) - ((x3 &&& (7 : Int32)) % (6 : Int32))))) (x1.toUInt32.toUInt16.toUInt32.toInt32))) + (F_trm3 ((x3 &&& (7 : Int32)) % (6 : Int32)) (((x3 &&& (7 : Int32)) % (6 : Int32)) + ((((x3.toUInt32 >>> ((3 : Int32) &&& 31).toUInt32).toInt32) &&& (7 : Int32)) % ((6 : Int32) - ((x3 &&& (7 : Int32)) % (6 : Int32))))) (((x1.toUInt32 >>> ((16 : Int32) &&& 31).toUInt32).toInt32).toUInt32.toUInt16.toUInt32.toInt32))))]) (lenOf pd20 rfl) rfl (by show 2 * 0 + _ ≤ _; exact Nat.le_of_eq rfl) (hb hby at_184) (fun _ _ => ⟨rfl, eq671, (by decide : 6 + 0 ≤ _), (by decide : 32 + 0 ≤ _)⟩)
  dsimp only [Pt.U, Pt.locs, Pt.cells, Pt.slots] at X672 l672 y672 z672 st672 hQ672
  subst l672 y672 z672
  obtain ⟨rfl, N672q, eq672⟩ := hQ672
  have N672 := Fr.app N671 N672q
  refine own_go st672 ?_
  show own_Got p e below _ T672 (mkF m 187 #[.val (.int x0), .val (.int x1), .val (.int x2), .val (.int x3), .val (.ref b618), .val (.int ((x3 &&& (7 : Int32)) % (6 : Int32))), .val (.int (((x3 &&& (7 : Int32)) % (6 : Int32)) + ((((x3.toUInt32 >>> ((3 : Int32) &&& 31).toUInt32).toInt32) &&& (7 : Int32)) % ((6 : Int32) - ((x3 &&& (7 : Int32)) % (6 : Int32)))))), .val (.ref b624), .val (.ref b639), .val (.ref b654), .unset] [(.int (F_trm4 ((x3 &&& (7 : Int32)) % (6 : Int32)) (((x3 &&& (7 : Int32)) % (6 : Int32)) + ((((x3.toUInt32 >>> ((3 : Int32) &&& 31).toUInt32).toInt32) &&& (7 : Int32)) % ((6 : Int32) - ((x3 &&& (7 : Int32)) % (6 : Int32))))) (x2.toUInt32.toUInt16.toUInt32.toInt32))), (.int ((((F_trm0 ((x3 &&& (7 : Int32)) % (6 : Int32)) (((x3 &&& (7 : Int32)) % (6 : Int32)) + ((((x3.toUInt32 >>> ((3 : Int32) &&& 31).toUInt32).toInt32) &&& (7 : Int32)) % ((6 : Int32) - ((x3 &&& (7 : Int32)) % (6 : Int32))))) (x0.toUInt32.toUInt16.toUInt32.toInt32)) + (F_trm1 ((x3 &&& (7 : Int32)) % (6 : Int32)) (((x3 &&& (7 : Int32)) % (6 : Int32)) + ((((x3.toUInt32 >>> ((3 : Int32) &&& 31).toUInt32).toInt32) &&& (7 : Int32)) % ((6 : Int32) - ((x3 &&& (7 : Int32)) % (6 : Int32))))) (((x0.toUInt32 >>> ((16 : Int32) &&& 31).toUInt32).toInt32).toUInt32.toUInt16.toUInt32.toInt32))) + (F_trm2 ((x3 &&& (7 : Int32)) % (6 : Int32)) (((x3 &&& (7 : Int32)) % (6 : Int32)) + ((((x3.toUInt32 >>> ((3 : Int32) &&& 31).toUInt32).toInt32) &&& (7 : Int32)) % ((6 : Int32) - ((x3 &&& (7 : Int32)) % (6 : Int32))))) (x1.toUInt32.toUInt16.toUInt32.toInt32))) + (F_trm3 ((x3 &&& (7 : Int32)) % (6 : Int32)) (((x3 &&& (7 : Int32)) % (6 : Int32)) + ((((x3.toUInt32 >>> ((3 : Int32) &&& 31).toUInt32).toInt32) &&& (7 : Int32)) % ((6 : Int32) - ((x3 &&& (7 : Int32)) % (6 : Int32))))) (((x1.toUInt32 >>> ((16 : Int32) &&& 31).toUInt32).toInt32).toUInt32.toUInt16.toUInt32.toInt32))))])
  refine g_iadd X672 hx hby at_187 (rfl : 187 + 1 = 188) ?_
  refine g_istore X672 hx hby #[.val (.int x0), .val (.int x1), .val (.int x2), .val (.int x3), .val (.ref b618), .val (.int ((x3 &&& (7 : Int32)) % (6 : Int32))), .val (.int (((x3 &&& (7 : Int32)) % (6 : Int32)) + ((((x3.toUInt32 >>> ((3 : Int32) &&& 31).toUInt32).toInt32) &&& (7 : Int32)) % ((6 : Int32) - ((x3 &&& (7 : Int32)) % (6 : Int32)))))), .val (.ref b624), .val (.ref b639), .val (.ref b654), .val (.int (((((F_trm0 ((x3 &&& (7 : Int32)) % (6 : Int32)) (((x3 &&& (7 : Int32)) % (6 : Int32)) + ((((x3.toUInt32 >>> ((3 : Int32) &&& 31).toUInt32).toInt32) &&& (7 : Int32)) % ((6 : Int32) - ((x3 &&& (7 : Int32)) % (6 : Int32))))) (x0.toUInt32.toUInt16.toUInt32.toInt32)) + (F_trm1 ((x3 &&& (7 : Int32)) % (6 : Int32)) (((x3 &&& (7 : Int32)) % (6 : Int32)) + ((((x3.toUInt32 >>> ((3 : Int32) &&& 31).toUInt32).toInt32) &&& (7 : Int32)) % ((6 : Int32) - ((x3 &&& (7 : Int32)) % (6 : Int32))))) (((x0.toUInt32 >>> ((16 : Int32) &&& 31).toUInt32).toInt32).toUInt32.toUInt16.toUInt32.toInt32))) + (F_trm2 ((x3 &&& (7 : Int32)) % (6 : Int32)) (((x3 &&& (7 : Int32)) % (6 : Int32)) + ((((x3.toUInt32 >>> ((3 : Int32) &&& 31).toUInt32).toInt32) &&& (7 : Int32)) % ((6 : Int32) - ((x3 &&& (7 : Int32)) % (6 : Int32))))) (x1.toUInt32.toUInt16.toUInt32.toInt32))) + (F_trm3 ((x3 &&& (7 : Int32)) % (6 : Int32)) (((x3 &&& (7 : Int32)) % (6 : Int32)) + ((((x3.toUInt32 >>> ((3 : Int32) &&& 31).toUInt32).toInt32) &&& (7 : Int32)) % ((6 : Int32) - ((x3 &&& (7 : Int32)) % (6 : Int32))))) (((x1.toUInt32 >>> ((16 : Int32) &&& 31).toUInt32).toInt32).toUInt32.toUInt16.toUInt32.toInt32))) + (F_trm4 ((x3 &&& (7 : Int32)) % (6 : Int32)) (((x3 &&& (7 : Int32)) % (6 : Int32)) + ((((x3.toUInt32 >>> ((3 : Int32) &&& 31).toUInt32).toInt32) &&& (7 : Int32)) % ((6 : Int32) - ((x3 &&& (7 : Int32)) % (6 : Int32))))) (x2.toUInt32.toUInt16.toUInt32.toInt32))))] at_188 rfl (rfl : 188 + 2 = 190) ?_
  refine g_aload X672 hx hby at_190 rfl rfl (rfl : 190 + 2 = 192) ?_
  have f674 : Exa Z h666 b639 "com/example/lexsign/lexsign/json/JsonString" := (Exa.wr W666 (Exa.wr W665 (Exa.wr W664 (Exa.wr W663 (Exa.wr W662 (Exa.ext E654 q647_0))))))
  have f675 : Fld Z h666 b639 "com/example/lexsign/lexsign/json/TextSpan" "text" "Ljava/lang/String;" (.ref b624) := (Fld.other W666 (Fld.other W665 (Fld.other W664 (Fld.other W663 (Fld.other W662 (Fld.ext E654 q647_1) (Or.inl ne661)) (Or.inl ne661)) (Or.inl ne661)) (Or.inl ne661)) (Or.inl ne661))
  have f676 : Fld Z h666 b639 "com/example/lexsign/lexsign/json/TextSpan" "start" "I" (.int ((x3 &&& (7 : Int32)) % (6 : Int32))) := (Fld.other W666 (Fld.other W665 (Fld.other W664 (Fld.other W663 (Fld.other W662 (Fld.ext E654 q647_2) (Or.inl ne661)) (Or.inl ne661)) (Or.inl ne661)) (Or.inl ne661)) (Or.inl ne661))
  have f677 : Fld Z h666 b639 "com/example/lexsign/lexsign/json/TextSpan" "end" "I" (.int (((x3 &&& (7 : Int32)) % (6 : Int32)) + ((((x3.toUInt32 >>> ((3 : Int32) &&& 31).toUInt32).toInt32) &&& (7 : Int32)) % ((6 : Int32) - ((x3 &&& (7 : Int32)) % (6 : Int32)))))) := (Fld.other W666 (Fld.other W665 (Fld.other W664 (Fld.other W663 (Fld.other W662 (Fld.ext E654 q647_3) (Or.inl ne661)) (Or.inl ne661)) (Or.inl ne661)) (Or.inl ne661)) (Or.inl ne661))
  have f678 : Exa Z h666 b624 "java/lang/String" := (Exa.wr W666 (Exa.wr W665 (Exa.wr W664 (Exa.wr W663 (Exa.wr W662 (Exa.ext E654 f656))))))
  have f679 : Fld Z h666 b624 "java/lang/String" "coder" "B" (.int cd_629) := (Fld.other W666 (Fld.other W665 (Fld.other W664 (Fld.other W663 (Fld.other W662 (Fld.ext E654 (Fld.keep f649 K647 (ninS ne642 nin0))) (Or.inl ne659)) (Or.inl ne659)) (Or.inl ne659)) (Or.inl ne659)) (Or.inl ne659))
  have f680 : Fld Z h666 b624 "java/lang/String" "value" "[B" (.ref ob_629) := (Fld.other W666 (Fld.other W665 (Fld.other W664 (Fld.other W663 (Fld.other W662 (Fld.ext E654 (Fld.keep f650 K647 (ninS ne642 nin0))) (Or.inl ne659)) (Or.inl ne659)) (Or.inl ne659)) (Or.inl ne659)) (Or.inl ne659))
  have f681 : Arv Z h666 ob_629 kb_629 .byte n_629 vs_629 (.int (0 : Int32)) := (Arv.other (Arv.other (Arv.other (Arv.other (Arv.other (f657.ext E654) W662 ne660) W663 ne660) W664 ne660) W665 ne660) W666 ne660)
  have f682 : Sta Z h666 "java/lang/String" "COMPACT_STRINGS" "Z" (.int g1) := (Sta.wr W666 (Sta.wr W665 (Sta.wr W664 (Sta.wr W663 (Sta.wr W662 (Sta.ext E654 (own_stakeep f652 K647 A639)))))))
  have f683 : Sta Z h666 "jdk/internal/util/Preconditions" "SIOOBE_FORMATTER" "Ljava/util/function/BiFunction;" w1 := (Sta.wr W666 (Sta.wr W665 (Sta.wr W664 (Sta.wr W663 (Sta.wr W662 (Sta.ext E654 (own_stakeep (Sta.ext E639 (own_stakeep (Sta.ext E624 (Sta.wr W623 (Sta.wr W622 (Sta.wr W621 (Sta.wr W620 (Sta.wr W619 (Sta.ext E618 hp1))))))) K629 A624)) K647 A639)))))))
  have f684 : Sta Z h666 "java/lang/StringUTF16" "$assertionsDisabled" "Z" (.int (1 : Int32)) := (Sta.wr W666 (Sta.wr W665 (Sta.wr W664 (Sta.wr W663 (Sta.wr W662 (Sta.ext E654 (own_stakeep (Sta.ext E639 (own_stakeep f632 K629 A624)) K647 A639)))))))
  have f685 : Sta Z h666 "java/lang/StringUTF16" "HI_BYTE_SHIFT" "I" (.int (0 : Int32)) := (Sta.wr W666 (Sta.wr W665 (Sta.wr W664 (Sta.wr W663 (Sta.wr W662 (Sta.ext E654 (own_stakeep (Sta.ext E639 (own_stakeep f633 K629 A624)) K647 A639)))))))
  have f686 : Sta Z h666 "java/lang/StringUTF16" "LO_BYTE_SHIFT" "I" (.int (8 : Int32)) := (Sta.wr W666 (Sta.wr W665 (Sta.wr W664 (Sta.wr W663 (Sta.wr W662 (Sta.ext E654 (own_stakeep (Sta.ext E639 (own_stakeep f634 K629 A624)) K647 A639)))))))
  obtain ⟨cq673, kq673, q673a, q673b, q673c⟩ := isOf hZ eq672 f674
  obtain ⟨_, _, ⟨T673, L673, k673, n673⟩, -, X673, ⟨Lc673, hQ673, l673, y673, z673⟩, st673⟩ := X672.virtualBack hx (y := mN1) (z := mN1) hown (mvT hZ (hw _ (own_M 72 rfl))) (mvT hZ (hw _ (own_M 73 rfl))) (notFace_of_selects (args := #[]) (mvT hZ (hw _ (own_M 75 rfl)))) (mvT hZ (hw _ (own_M 75 rfl))) (mvT hZ (hw _ (own_M 74 rfl))) (by decide) (backOf (W := 0) (rm_jhs l Z aT hw [] b639 ((x3 &&& (7 : Int32)) % (6 : Int32)) (((x3 &&& (7 : Int32)) % (6 : Int32)) + ((((x3.toUInt32 >>> ((3 : Int32) &&& 31).toUInt32).toInt32) &&& (7 : Int32)) % ((6 : Int32) - ((x3 &&& (7 : Int32)) % (6 : Int32))))) b624 ob_629 kb_629 cd_629 n_629 vs_629 (x0.toUInt32.toUInt16.toUInt32.toInt32) (((x0.toUInt32 >>> ((16 : Int32) &&& 31).toUInt32).toInt32).toUInt32.toUInt16.toUInt32.toInt32) (x1.toUInt32.toUInt16.toUInt32.toInt32) (((x1.toUInt32 >>> ((16 : Int32) &&& 31).toUInt32).toInt32).toUInt32.toUInt16.toUInt32.toInt32) (x2.toUInt32.toUInt16.toUInt32.toInt32) g1 w1 h666 n0 Z666 f674 f675 f676 f677 f678 f679 f680 f681 f682 f683 f684 f685 f686 hg1 q629_6 hw1 (own_SE _ _ (own_7 x3) (own_7 ((x3.toUInt32 >>> ((3 : Int32) &&& 31).toUInt32).toInt32))).2 (⟨_, rfl⟩ : own_chr (x0.toUInt32.toUInt16.toUInt32.toInt32)) (⟨_, rfl⟩ : own_chr (((x0.toUInt32 >>> ((16 : Int32) &&& 31).toUInt32).toInt32).toUInt32.toUInt16.toUInt32.toInt32)) (⟨_, rfl⟩ : own_chr (x1.toUInt32.toUInt16.toUInt32.toInt32)) (⟨_, rfl⟩ : own_chr (((x1.toUInt32 >>> ((16 : Int32) &&& 31).toUInt32).toInt32).toUInt32.toUInt16.toUInt32.toInt32)) (⟨_, rfl⟩ : own_chr (x2.toUInt32.toUInt16.toUInt32.toInt32))) hZ (hw _ (own_M 76 rfl)) (hw _ (own_M 32 rfl)) (by decide) (by decide)) q673a q673c (g := (mkF m 192 #[.val (.int x0), .val (.int x1), .val (.int x2), .val (.int x3), .val (.ref b618), .val (.int ((x3 &&& (7 : Int32)) % (6 : Int32))), .val (.int (((x3 &&& (7 : Int32)) % (6 : Int32)) + ((((x3.toUInt32 >>> ((3 : Int32) &&& 31).toUInt32).toInt32) &&& (7 : Int32)) % ((6 : Int32) - ((x3 &&& (7 : Int32)) % (6 : Int32)))))), .val (.ref b624), .val (.ref b639), .val (.ref b654), .val (.int (((((F_trm0 ((x3 &&& (7 : Int32)) % (6 : Int32)) (((x3 &&& (7 : Int32)) % (6 : Int32)) + ((((x3.toUInt32 >>> ((3 : Int32) &&& 31).toUInt32).toInt32) &&& (7 : Int32)) % ((6 : Int32) - ((x3 &&& (7 : Int32)) % (6 : Int32))))) (x0.toUInt32.toUInt16.toUInt32.toInt32)) + (F_trm1 ((x3 &&& (7 : Int32)) % (6 : Int32)) (((x3 &&& (7 : Int32)) % (6 : Int32)) + ((((x3.toUInt32 >>> ((3 : Int32) &&& 31).toUInt32).toInt32) &&& (7 : Int32)) % ((6 : Int32) - ((x3 &&& (7 : Int32)) % (6 : Int32))))) (((x0.toUInt32 >>> ((16 : Int32) &&& 31).toUInt32).toInt32).toUInt32.toUInt16.toUInt32.toInt32))) + (F_trm2 ((x3 &&& (7 : Int32)) % (6 : Int32)) (((x3 &&& (7 : Int32)) % (6 : Int32)) + ((((x3.toUInt32 >>> ((3 : Int32) &&& 31).toUInt32).toInt32) &&& (7 : Int32)) % ((6 : Int32) - ((x3 &&& (7 : Int32)) % (6 : Int32))))) (x1.toUInt32.toUInt16.toUInt32.toInt32))) + (F_trm3 ((x3 &&& (7 : Int32)) % (6 : Int32)) (((x3 &&& (7 : Int32)) % (6 : Int32)) + ((((x3.toUInt32 >>> ((3 : Int32) &&& 31).toUInt32).toInt32) &&& (7 : Int32)) % ((6 : Int32) - ((x3 &&& (7 : Int32)) % (6 : Int32))))) (((x1.toUInt32 >>> ((16 : Int32) &&& 31).toUInt32).toInt32).toUInt32.toUInt16.toUInt32.toInt32))) + (F_trm4 ((x3 &&& (7 : Int32)) % (6 : Int32)) (((x3 &&& (7 : Int32)) % (6 : Int32)) + ((((x3.toUInt32 >>> ((3 : Int32) &&& 31).toUInt32).toInt32) &&& (7 : Int32)) % ((6 : Int32) - ((x3 &&& (7 : Int32)) % (6 : Int32))))) (x2.toUInt32.toUInt16.toUInt32.toInt32))))] [(.ref b639)])) rfl (by rw [hml]; rfl) (Steps.refl _) (argsL := []) (rest := []) (lenOf pd15 rfl) rfl (by show 2 * 0 + _ ≤ _; exact Nat.le_of_eq rfl) (hb hby at_192) (fun _ _ => ⟨rfl, eq672, (by decide : 6 + 0 ≤ _), (by decide : 32 + 0 ≤ _)⟩)
  dsimp only [Pt.U, Pt.locs, Pt.cells, Pt.slots] at X673 l673 y673 z673 st673 hQ673
  subst l673 y673 z673
  obtain ⟨rfl, N673q, eq673⟩ := hQ673
  have N673 := Fr.app N672 N673q
  refine own_tr st673 ?_
  show own_Got p e below _ T673 (mkF m 195 #[.val (.int x0), .val (.int x1), .val (.int x2), .val (.int x3), .val (.ref b618), .val (.int ((x3 &&& (7 : Int32)) % (6 : Int32))), .val (.int (((x3 &&& (7 : Int32)) % (6 : Int32)) + ((((x3.toUInt32 >>> ((3 : Int32) &&& 31).toUInt32).toInt32) &&& (7 : Int32)) % ((6 : Int32) - ((x3 &&& (7 : Int32)) % (6 : Int32)))))), .val (.ref b624), .val (.ref b639), .val (.ref b654), .val (.int (((((F_trm0 ((x3 &&& (7 : Int32)) % (6 : Int32)) (((x3 &&& (7 : Int32)) % (6 : Int32)) + ((((x3.toUInt32 >>> ((3 : Int32) &&& 31).toUInt32).toInt32) &&& (7 : Int32)) % ((6 : Int32) - ((x3 &&& (7 : Int32)) % (6 : Int32))))) (x0.toUInt32.toUInt16.toUInt32.toInt32)) + (F_trm1 ((x3 &&& (7 : Int32)) % (6 : Int32)) (((x3 &&& (7 : Int32)) % (6 : Int32)) + ((((x3.toUInt32 >>> ((3 : Int32) &&& 31).toUInt32).toInt32) &&& (7 : Int32)) % ((6 : Int32) - ((x3 &&& (7 : Int32)) % (6 : Int32))))) (((x0.toUInt32 >>> ((16 : Int32) &&& 31).toUInt32).toInt32).toUInt32.toUInt16.toUInt32.toInt32))) + (F_trm2 ((x3 &&& (7 : Int32)) % (6 : Int32)) (((x3 &&& (7 : Int32)) % (6 : Int32)) + ((((x3.toUInt32 >>> ((3 : Int32) &&& 31).toUInt32).toInt32) &&& (7 : Int32)) % ((6 : Int32) - ((x3 &&& (7 : Int32)) % (6 : Int32))))) (x1.toUInt32.toUInt16.toUInt32.toInt32))) + (F_trm3 ((x3 &&& (7 : Int32)) % (6 : Int32)) (((x3 &&& (7 : Int32)) % (6 : Int32)) + ((((x3.toUInt32 >>> ((3 : Int32) &&& 31).toUInt32).toInt32) &&& (7 : Int32)) % ((6 : Int32) - ((x3 &&& (7 : Int32)) % (6 : Int32))))) (((x1.toUInt32 >>> ((16 : Int32) &&& 31).toUInt32).toInt32).toUInt32.toUInt16.toUInt32.toInt32))) + (F_trm4 ((x3 &&& (7 : Int32)) % (6 : Int32)) (((x3 &&& (7 : Int32)) % (6 : Int32)) + ((((x3.toUInt32 >>> ((3 : Int32) &&& 31).toUInt32).toInt32) &&& (7 : Int32)) % ((6 : Int32) - ((x3 &&& (7 : Int32)) % (6 : Int32))))) (x2.toUInt32.toUInt16.toUInt32.toInt32))))] [(.int (F_jhs ((x3 &&& (7 : Int32)) % (6 : Int32)) (((x3 &&& (7 : Int32)) % (6 : Int32)) + ((((x3.toUInt32 >>> ((3 : Int32) &&& 31).toUInt32).toInt32) &&& (7 : Int32)) % ((6 : Int32) - ((x3 &&& (7 : Int32)) % (6 : Int32))))) (x0.toUInt32.toUInt16.toUInt32.toInt32) (((x0.toUInt32 >>> ((16 : Int32) &&& 31).toUInt32).toInt32).toUInt32.toUInt16.toUInt32.toInt32) (x1.toUInt32.toUInt16.toUInt32.toInt32) (((x1.toUInt32 >>> ((16 : Int32) &&& 31).toUInt32).toInt32).toUInt32.toUInt16.toUInt32.toInt32) (x2.toUInt32.toUInt16.toUInt32.toInt32)))])
  refine g_iload X673 hx hby at_195 rfl (rfl : 195 + 2 = 197) ?_
  by_cases c687 : (F_jhs ((x3 &&& (7 : Int32)) % (6 : Int32)) (((x3 &&& (7 : Int32)) % (6 : Int32)) + ((((x3.toUInt32 >>> ((3 : Int32) &&& 31).toUInt32).toInt32) &&& (7 : Int32)) % ((6 : Int32) - ((x3 &&& (7 : Int32)) % (6 : Int32))))) (x0.toUInt32.toUInt16.toUInt32.toInt32) (((x0.toUInt32 >>> ((16 : Int32) &&& 31).toUInt32).toInt32).toUInt32.toUInt16.toUInt32.toInt32) (x1.toUInt32.toUInt16.toUInt32.toInt32) (((x1.toUInt32 >>> ((16 : Int32) &&& 31).toUInt32).toInt32).toUInt32.toUInt16.toUInt32.toInt32) (x2.toUInt32.toUInt16.toUInt32.toInt32)) = (((((F_trm0 ((x3 &&& (7 : Int32)) % (6 : Int32)) (((x3 &&& (7 : Int32)) % (6 : Int32)) + ((((x3.toUInt32 >>> ((3 : Int32) &&& 31).toUInt32).toInt32) &&& (7 : Int32)) % ((6 : Int32) - ((x3 &&& (7 : Int32)) % (6 : Int32))))) (x0.toUInt32.toUInt16.toUInt32.toInt32)) + (F_trm1 ((x3 &&& (7 : Int32)) % (6 : Int32)) (((x3 &&& (7 : Int32)) % (6 : Int32)) + ((((x3.toUInt32 >>> ((3 : Int32) &&& 31).toUInt32).toInt32) &&& (7 : Int32)) % ((6 : Int32) - ((x3 &&& (7 : Int32)) % (6 : Int32))))) (((x0.toUInt32 >>> ((16 : Int32) &&& 31).toUInt32).toInt32).toUInt32.toUInt16.toUInt32.toInt32))) + (F_trm2 ((x3 &&& (7 : Int32)) % (6 : Int32)) (((x3 &&& (7 : Int32)) % (6 : Int32)) + ((((x3.toUInt32 >>> ((3 : Int32) &&& 31).toUInt32).toInt32) &&& (7 : Int32)) % ((6 : Int32) - ((x3 &&& (7 : Int32)) % (6 : Int32))))) (x1.toUInt32.toUInt16.toUInt32.toInt32))) + (F_trm3 ((x3 &&& (7 : Int32)) % (6 : Int32)) (((x3 &&& (7 : Int32)) % (6 : Int32)) + ((((x3.toUInt32 >>> ((3 : Int32) &&& 31).toUInt32).toInt32) &&& (7 : Int32)) % ((6 : Int32) - ((x3 &&& (7 : Int32)) % (6 : Int32))))) (((x1.toUInt32 >>> ((16 : Int32) &&& 31).toUInt32).toInt32).toUInt32.toUInt16.toUInt32.toInt32))) + (F_trm4 ((x3 &&& (7 : Int32)) % (6 : Int32)) (((x3 &&& (7 : Int32)) % (6 : Int32)) + ((((x3.toUInt32 >>> ((3 : Int32) &&& 31).toUInt32).toInt32) &&& (7 : Int32)) % ((6 : Int32) - ((x3 &&& (7 : Int32)) % (6 : Int32))))) (x2.toUInt32.toUInt16.toUInt32.toInt32)))
  · refine g_icF X673 hx hby at_197 (teq c687).2 (rfl : 197 + 3 = 200) ?_
    refine g_iconst X673 hx hby (1 : Int32) at_200 (by decide) (rfl : 200 + 1 = 201) ?_
    refine g_goto X673 hx hby at_201 (by decide) (pc' := 205) (by decide) ?_
    refine own_retN X673 hx hby hlk (t := .boolean) hrt (by simp) at_205 (by decide) (by decide) ?_
    show Q_law Z x0 x1 x2 x3 g1 w1 h0 n0 _ T673.heap _
    exact ⟨(congrArg (fun z => some (Value.int z)) (by rw [F_law, if_pos c687] <;> rfl)), N673⟩
  · refine g_icT X673 hx hby at_197 (feq c687).2 (by decide) (pc' := 204) (by decide) ?_
    refine g_iconst X673 hx hby (0 : Int32) at_204 (by decide) (rfl : 204 + 1 = 205) ?_
    refine own_retN X673 hx hby hlk (t := .boolean) hrt (by simp) at_205 (by decide) (by decide) ?_
    show Q_law Z x0 x1 x2 x3 g1 w1 h0 n0 _ T673.heap _
    exact ⟨(congrArg (fun z => some (Value.int z)) (by rw [F_law, if_neg c687] <;> rfl)), N673⟩
theorem own_eq21 (x y c0 c1 c2 c3 c4 : Int32) (h : own_se x y) : F_jhs x y c0 c1 c2 c3 c4 = (((((F_trm0 x y c0) + (F_trm1 x y c1)) + (F_trm2 x y c2)) + (F_trm3 x y c3)) + (F_trm4 x y c4)) := by
  have hx := own_inS h
  have hy := own_inE h
  have h1 := own_se1 h
  clear h
  have p0 : own_pw 0 = 1 := by decide
  have p1 : own_pw 1 = 31 := by decide
  have p2 : own_pw 2 = 961 := by decide
  have p3 : own_pw 3 = 29791 := by decide
  have p4 : own_pw 4 = 923521 := by decide
  rcases hx with rfl | rfl | rfl | rfl | rfl | rfl <;> rcases hy with rfl | rfl | rfl | rfl | rfl | rfl <;> first
    | (exact absurd (by decide) h1)
    | (simp [F_jhs, F_hsh, F_trm0, F_trm1, F_trm2, F_trm3, F_trm4, p0, p1, p2, p3, p4]; done)
    | (simp [F_jhs, F_hsh, F_trm0, F_trm1, F_trm2, F_trm3, F_trm4, p0, p1, p2, p3, p4]; grind)
theorem own_plain (x0 x1 x2 x3 : Int32) : F_law x0 x1 x2 x3 = 1 := by
  unfold F_law
  rw [if_pos (own_eq21 _ _ _ _ _ _ _ (own_SE _ _ (own_7 x3) (own_7 ((x3.toUInt32 >>> ((3 : Int32) &&& 31).toUInt32).toInt32))).2)]

set_option maxRecDepth 65536 in
set_option maxHeartbeats 40000000 in
theorem comes_1 {Post : Tables → Env → Array Value → State → Outcome → State → Prop} (hpost : ∀ tb e args s v u, (limb_1_1.after args s (.returned v) u = true ∧ limb_1_2.after args s (.returned v) u = true ∧ True) → FrameEnd s (.returned v) u (Jvm.fieldLocs frame_1_writes args s ++ Jvm.arrayLocs frame_1_arrays args s ++ Jvm.staticLocs frame_1_statics s) 24 128 → Post tb e args s (.returned v) u) :
    ArmFor flags0 classFile x code maxLocals ret World_1 tables_1 room_1 Calls_1 rest_1 Pre_1 Post := by
  intro l hfl _ _ p e ha hc hk s m args below hf hA hF happ hP
  obtain ⟨hcalls, hrest, hpre⟩ := hP
  obtain ⟨-, -, -, hnamed, -, -, -, hat⟩ := (Spec.applies_iff hf).mp happ
  obtain ⟨hg, hn⟩ := and_e (Cond.before_iff.mp (show (Jvm.Cond.and given_1 narrow_1).before args s = true from hpre))
  obtain ⟨hcnt, hg0⟩ := and_e hg
  obtain ⟨ha0, hg1⟩ := and_e hg0
  obtain ⟨ha1, hg2⟩ := and_e hg1
  obtain ⟨ha2, hg3⟩ := and_e hg2
  obtain ⟨w0, w1, w2, w3, rfl⟩ : ∃ w0 w1 w2 w3 : Value, args = #[w0, w1, w2, w3] := by
    have hs : args.size = 4 := by simpa [Cond.value, given_1] using hcnt
    obtain ⟨L⟩ := args
    match L, hs with
    | [w0, w1, w2, w3], _ => exact ⟨w0, w1, w2, w3, rfl⟩
  have hw := fun d (hd : d ∈ tables_1) => atoms_spec (ws := Jvm.Cond.code x code maxLocals ret :: tables_1) hat d (List.mem_cons_of_mem _ hd)
  have hfit : Fit s := fun {y c} hc i hi => by
    obtain ⟨ha, rfl⟩ := Array.getElem?_eq_some_iff.mp hc
    have q := List.all_eq_true.mp ((Array.all_eq_true_iff_forall_mem.mp hF) _ (Array.getElem_mem ha)) i (List.mem_range.mpr hi)
    simpa [Array.getElem?_eq_getElem hi] using q
  obtain ⟨i0, ei0⟩ := is_v ha0
  obtain rfl : w0 = (.int i0) := Option.some.inj ei0
  obtain ⟨i1, ei1⟩ := is_v ha1
  obtain rfl : w1 = (.int i1) := Option.some.inj ei1
  obtain ⟨i2, ei2⟩ := is_v ha2
  obtain rfl : w2 = (.int i2) := Option.some.inj ei2
  obtain ⟨i3, ei3⟩ := is_v hg3
  obtain rfl : w3 = (.int i3) := Option.some.inj ei3
  obtain ⟨hsets, hown0⟩ := atoms_of _ (rest_1_c_eq ▸ (show rest_1_c.before _ s = true from hrest))
  obtain ⟨G1, evG1⟩ := is_v (Cond.before_iff.mp (hsets _ (List.mem_of_getElem? (i := 1) rfl)))
  have SG1 := Sta.start evG1 (Or.inl (hsets _ (List.mem_of_getElem? (i := 0) rfl)))
  have NG1 : ¬ (G1 = (0 : Int32)) := gotF (Cond.eq_ints evG1 rfl) (not_v (Cond.before_iff.mp (hsets _ (List.mem_of_getElem? (i := 2) rfl))))
  obtain ⟨W1, evW1, RW1⟩ := isR_v (Cond.before_iff.mp (hsets _ (List.mem_of_getElem? (i := 8) rfl)))
  have SW1 := Sta.start evW1 (Or.inl (hsets _ (List.mem_of_getElem? (i := 7) rfl)))
  have SAD := Sta.start (own_eqI (Cond.before_iff.mp (hsets _ (List.mem_of_getElem? (i := 12) rfl)))) (Or.inl (hsets _ (List.mem_of_getElem? (i := 11) rfl)))
  have SHI := Sta.start (own_eqI (Cond.before_iff.mp (hsets _ (List.mem_of_getElem? (i := 15) rfl)))) (Or.inl (hsets _ (List.mem_of_getElem? (i := 14) rfl)))
  have SLO := Sta.start (own_eqI (Cond.before_iff.mp (hsets _ (List.mem_of_getElem? (i := 18) rfl)))) (Or.inl (hsets _ (List.mem_of_getElem? (i := 17) rfl)))
  obtain ⟨n, o, h1, h2, h3, _, L, rfl, ⟨hv, N⟩, hq⟩ := rm_law l s _ hw tables_1 i0 i1 i2 i3 G1 W1 s.heap s.heap.size (Nat.le_refl _) SG1 SW1 SAD SHI SLO NG1 RW1 p e ha hc hk s m _ below hf ((Spec.applies_iff_loose hf).mp happ).1 ⟨rfl, State.Warmed39.refl s, rfl⟩ trivial
  rw [own_plain i0 i1 i2 i3] at hv
  subst hv
  refine ⟨n, _, h1, h2, h3, hpost _ _ _ _ _ _ ⟨Cond.after_iff.mpr rfl, Cond.after_iff.mpr (eq_i res_at (Term.int_eval (1)) rfl), trivial⟩ ⟨hq.1, hq.2.1, (hq.2.2.sift fun y hy => Or.inr (N y hy)).mono (by decide) (by decide)⟩⟩
theorem main_1_1 : Claimed_1_1 := comes_1 fun _ _ _ _ _ _ h hF => ⟨h.1, hF⟩
theorem main_1_2 : Claimed_1_2 := comes_1 fun _ _ _ _ _ _ h hF => ⟨h.2.1, hF⟩
end Jvm.Pilot.@@N@@
namespace Jvm.Pilot.@@N@@
open Jvm Jvm.ClassFile Sem Op Lib Jvm.Free Jvm.Stand Jvm.Pilot.@@N@@.Jvm.D
/-! MADE BY PROGRAM (witnessworld.py) out of the Statement's table words and the real class files: 23 classes; the members and pool entries that the words name. The judged class is class 1, her method 1. -/
namespace start1
open Jvm.ClassFile
def u (s : String) : CpInfo := .utf8 (stringToUtf16 s)
/-- a pool by its gaps: so many unusable entries, then the entry; so many at the end -/
def gap : Nat → List CpInfo → List CpInfo
  | 0, r => r
  | n + 1, r => .unusable :: gap n r
def poolList (es : List (Nat × CpInfo)) (last : Nat) : List CpInfo := es.foldr (fun e r => gap e.1 (e.2 :: r)) (gap last [])
def pool (es : List (Nat × CpInfo)) (last : Nat) : Array CpInfo := ⟨poolList es last⟩
def fileOf (pool : Array CpInfo) (this : Nat) (attrs : Array Attribute := #[]) (ms : Array MethodInfo := #[]) (fl : Nat := 33) (sup : Nat := 0) (ifs : Array Nat := #[]) (fds : Array FieldInfo := #[]) : ClassFile where
  minorVersion := 0
  majorVersion := 65
  constantPool := pool
  accessFlags := fl
  thisClass := this
  superClass := sup
  interfaces := ifs
  fields := fds
  methods := ms
  attributes := attrs
def plain (name : String) (sup : Option ClassId) : Class where
  name := name
  kind := .ordinary
  loader := none
  accessFlags := 33
  super := sup
  interfaces := #[]
  cf := none
  fields := #[]
  methods := #[]
  instanceTypes := #[]
  staticTypes := #[]
  resolved := #[]
  callSites := []
  init := .initialized
  statics := none
  mirror := none

def pool0 : Array CpInfo := pool [(5, u "<init>"), (0, u "()V"), (1, .class_ 10), (1, u "java/lang/Object")] 113

def k0c0 : Code := { maxStack := 0, maxLocals := 1, code := object_method_1_code, exceptionTable := #[], attributes := #[] }
def k0m0 : Method := { name := "<init>", desc := "()V", sig := { parameters := [], returnType := none }, accessFlags := 1, code := some k0c0 }
/-- java/lang/Object -/
def k0 : Class := { plain "java/lang/Object" none with
  accessFlags := 33
  interfaces := #[]
  cf := some (fileOf pool0 8 #[] #[{ accessFlags := 1, nameIndex := 5, descriptorIndex := 6, attributes := #[] }] 33 0 #[] #[])
  fields := #[]
  methods := #[k0m0]
  instanceTypes := #[]
  staticTypes := #[]
  resolved := Array.replicate 124 none
  statics := none }

def pool1 : Array CpInfo := pool [(2, .class_ 4), (1, u "java/lang/Object"), (0, u "<init>"), (0, u "()V"), (0, .class_ 8), (0, u "java/lang/String"), (0, .methodref 7 10), (0, .nameAndType 5 11), (0, u "([C)V"), (0, .class_ 13), (0, u "com/example/lexsign/lexsign/json/JsonString"), (0, .methodref 12 15), (0, .nameAndType 5 16), (0, u "(Ljava/lang/String;II)V"), (0, .integer 923521), (0, .methodref 19 20), (0, .class_ 21), (0, .nameAndType 22 23), (0, u "com/example/lexsign/lexsign/json/TextSpanHashCodePinLaw"), (0, u "term"), (0, u "([C[IIII)I"), (0, .methodref 12 25), (0, .nameAndType 26 27), (0, u "hashCode"), (0, u "()I"), (2, u "law"), (0, u "(IIII)Z")] 7

def k1m0 : Method := { name := "<init>", desc := "()V", sig := { parameters := [], returnType := none }, accessFlags := 1, code := none }
def k1c1 : Code := { maxStack := 6, maxLocals := 11, code := code, exceptionTable := #[], attributes := #[] }
def k1m1 : Method := { name := "law", desc := "(IIII)Z", sig := { parameters := [.int, .int, .int, .int], returnType := some .boolean }, accessFlags := 9, code := some k1c1 }
def k1c2 : Code := { maxStack := 4, maxLocals := 5, code := method_3_code, exceptionTable := #[], attributes := #[] }
def k1m2 : Method := { name := "term", desc := "([C[IIII)I", sig := { parameters := [(.array .char), (.array .int), .int, .int, .int], returnType := some .int }, accessFlags := 10, code := some k1c2 }
/-- com/example/lexsign/lexsign/json/TextSpanHashCodePinLaw -/
def k1 : Class := { plain "com/example/lexsign/lexsign/json/TextSpanHashCodePinLaw" (some 0) with
  accessFlags := 49
  interfaces := #[]
  cf := some (fileOf pool1 19 #[] #[{ accessFlags := 1, nameIndex := 5, descriptorIndex := 6, attributes := #[] }, { accessFlags := 9, nameIndex := 30, descriptorIndex := 31, attributes := #[] }, { accessFlags := 10, nameIndex := 22, descriptorIndex := 23, attributes := #[] }] 49 2 #[] #[])
  fields := #[]
  methods := #[k1m0, k1m1, k1m2]
  instanceTypes := #[]
  staticTypes := #[]
  resolved := Array.replicate 39 none
  statics := none }

def pool2 : Array CpInfo := pool [(1, .class_ 2), (0, u "java/io/Serializable"), (0, .class_ 4), (0, u "java/lang/Object")] 2

/-- java/io/Serializable -/
def k2 : Class := { plain "java/io/Serializable" (some 0) with
  accessFlags := 1537
  interfaces := #[]
  cf := some (fileOf pool2 1 #[] #[] 1537 3 #[] #[])
  fields := #[]
  methods := #[]
  instanceTypes := #[]
  staticTypes := #[]
  resolved := Array.replicate 7 none
  statics := none }

def pool3 : Array CpInfo := pool [(1, .class_ 2), (0, u "java/lang/Comparable"), (0, .class_ 4), (0, u "java/lang/Object")] 7

/-- java/lang/Comparable -/
def k3 : Class := { plain "java/lang/Comparable" (some 0) with
  accessFlags := 1537
  interfaces := #[]
  cf := some (fileOf pool3 1 #[] #[] 1537 3 #[] #[])
  fields := #[]
  methods := #[]
  instanceTypes := #[]
  staticTypes := #[]
  resolved := Array.replicate 12 none
  statics := none }

def pool4 : Array CpInfo := pool [(2, .class_ 4), (1, u "java/lang/CharSequence"), (42, .class_ 48), (0, u "java/lang/CharSequence$1CodePointIterator"), (10, .class_ 60), (0, u "java/lang/CharSequence$1CharIterator"), (5, .class_ 67), (0, u "java/lang/Object")] 63

/-- java/lang/CharSequence -/
def k4 : Class := { plain "java/lang/CharSequence" (some 0) with
  accessFlags := 1537
  interfaces := #[]
  cf := some (fileOf pool4 2 #[.nestMembers #[47, 59]] #[] 1537 66 #[] #[])
  fields := #[]
  methods := #[]
  instanceTypes := #[]
  staticTypes := #[]
  resolved := Array.replicate 131 none
  statics := none }

def pool5 : Array CpInfo := pool [(1, .class_ 2), (0, u "java/lang/constant/Constable"), (0, .class_ 4), (0, u "java/lang/Object")] 6

/-- java/lang/constant/Constable -/
def k5 : Class := { plain "java/lang/constant/Constable" (some 0) with
  accessFlags := 1537
  interfaces := #[]
  cf := some (fileOf pool5 1 #[] #[] 1537 3 #[] #[])
  fields := #[]
  methods := #[]
  instanceTypes := #[]
  staticTypes := #[]
  resolved := Array.replicate 11 none
  statics := none }

def pool6 : Array CpInfo := pool [(1, .class_ 2), (0, u "java/lang/constant/ConstantDesc"), (0, .class_ 4), (0, u "java/lang/Object")] 32

/-- java/lang/constant/ConstantDesc -/
def k6 : Class := { plain "java/lang/constant/ConstantDesc" (some 0) with
  accessFlags := 1537
  interfaces := #[]
  cf := some (fileOf pool6 1 #[] #[] 1537 3 #[] #[])
  fields := #[]
  methods := #[]
  instanceTypes := #[]
  staticTypes := #[]
  resolved := Array.replicate 37 none
  statics := none }

def pool7 : Array CpInfo := pool [(1, .methodref 2 3), (0, .class_ 4), (0, .nameAndType 5 6), (0, u "java/lang/Object"), (0, u "<init>"), (0, u "()V"), (2, .fieldref 10 11), (0, .class_ 12), (0, .nameAndType 13 14), (0, u "java/lang/String"), (0, u "value"), (0, u "[B"), (0, .fieldref 10 16), (0, .nameAndType 17 18), (0, u "coder"), (0, u "B"), (2, u "hash"), (0, u "I"), (2, u "hashIsZero"), (0, u "Z"), (0, .methodref 10 28), (0, .nameAndType 5 29), (0, u "([CIILjava/lang/Void;)V"), (8, .fieldref 10 39), (0, .nameAndType 40 26), (0, u "COMPACT_STRINGS"), (1, .class_ 44), (1, u "java/lang/StringUTF16"), (0, u "compress"), (1, .methodref 42 48), (0, .nameAndType 49 50), (0, u "coderFromArrayLen"), (0, u "([BI)B"), (56, .class_ 109), (1, u "java/lang/StringLatin1"), (32, u "()Z"), (34, .methodref 42 178), (0, .nameAndType 45 179), (0, u "([CII)[B"), (154, u "()I"), (0, .methodref 10 336), (0, .nameAndType 17 337), (0, u "()B"), (25, u "([BI)C"), (27, u "(II)V"), (35, u "(I)C"), (64, .methodref 10 493), (0, .nameAndType 494 142), (0, u "isLatin1"), (0, .methodref 107 496), (0, .nameAndType 497 363), (0, u "charAt"), (0, .methodref 42 496), (2, u "checkIndex"), (5, u "length"), (67, .class_ 576), (0, u "java/lang/CharSequence"), (22, u "CASE_INSENSITIVE_ORDER"), (0, u "Ljava/util/Comparator;"), (409, u "([C)V"), (42, .fieldref 1054 1055), (0, .class_ 1056), (0, .nameAndType 1057 1058), (0, u "jdk/internal/util/Preconditions"), (0, u "SIOOBE_FORMATTER"), (0, u "Ljava/util/function/BiFunction;"), (0, .methodref 1054 1060), (0, .nameAndType 501 1061), (0, u "(IILjava/util/function/BiFunction;)I"), (39, u "serialPersistentFields"), (0, u "[Ljava/io/ObjectStreamField;"), (0, .class_ 1104), (0, u "java/lang/String$CaseInsensitiveComparator"), (1, .class_ 1107), (0, u "java/io/Serializable"), (0, .class_ 1109), (0, u "java/lang/Comparable"), (0, .class_ 1111), (0, u "java/lang/constant/Constable"), (0, .class_ 1113), (0, u "java/lang/constant/ConstantDesc"), (2, u "serialVersionUID"), (0, u "J"), (3, u "REPL"), (0, u "C"), (2, u "LATIN1"), (1, u "UTF16")] 323

def k7m0 : Method := { name := "<init>", desc := "()V", sig := { parameters := [], returnType := none }, accessFlags := 1, code := none }
def k7c1 : Code := { maxStack := 5, maxLocals := 2, code := jdk_42_method_3_code, exceptionTable := #[], attributes := #[] }
def k7m1 : Method := { name := "<init>", desc := "([C)V", sig := { parameters := [(.array .char)], returnType := none }, accessFlags := 1, code := some k7c1 }
def k7c2 : Code := { maxStack := 2, maxLocals := 1, code := jdk_42_method_54_code, exceptionTable := #[], attributes := #[] }
def k7m2 : Method := { name := "length", desc := "()I", sig := { parameters := [], returnType := some .int }, accessFlags := 1, code := some k7c2 }
def k7c3 : Code := { maxStack := 2, maxLocals := 2, code := jdk_42_method_56_code, exceptionTable := #[], attributes := #[] }
def k7m3 : Method := { name := "charAt", desc := "(I)C", sig := { parameters := [.int], returnType := some .char }, accessFlags := 1, code := some k7c3 }
def k7c4 : Code := { maxStack := 4, maxLocals := 6, code := jdk_42_method_149_code, exceptionTable := #[], attributes := #[] }
def k7m4 : Method := { name := "<init>", desc := "([CIILjava/lang/Void;)V", sig := { parameters := [(.array .char), .int, .int, (.object "java/lang/Void")], returnType := none }, accessFlags := 2, code := some k7c4 }
def k7c5 : Code := { maxStack := 1, maxLocals := 1, code := jdk_42_method_152_code, exceptionTable := #[], attributes := #[] }
def k7m5 : Method := { name := "coder", desc := "()B", sig := { parameters := [], returnType := some .byte }, accessFlags := 0, code := some k7c5 }
def k7c6 : Code := { maxStack := 1, maxLocals := 1, code := jdk_42_method_154_code, exceptionTable := #[], attributes := #[] }
def k7m6 : Method := { name := "isLatin1", desc := "()Z", sig := { parameters := [], returnType := some .boolean }, accessFlags := 0, code := some k7c6 }
def k7c7 : Code := { maxStack := 3, maxLocals := 2, code := jdk_42_method_155_code, exceptionTable := #[], attributes := #[] }
def k7m7 : Method := { name := "checkIndex", desc := "(II)V", sig := { parameters := [.int, .int], returnType := none }, accessFlags := 8, code := some k7c7 }
/-- java/lang/String -/
def k7 : Class := { plain "java/lang/String" (some 0) with
  accessFlags := 49
  interfaces := #[2, 3, 4, 5, 6]
  cf := some (fileOf pool7 10 #[.nestMembers #[1103]] #[{ accessFlags := 1, nameIndex := 5, descriptorIndex := 6, attributes := #[] }, { accessFlags := 1, nameIndex := 5, descriptorIndex := 1010, attributes := #[] }, { accessFlags := 1, nameIndex := 507, descriptorIndex := 334, attributes := #[] }, { accessFlags := 1, nameIndex := 497, descriptorIndex := 427, attributes := #[] }, { accessFlags := 2, nameIndex := 5, descriptorIndex := 29, attributes := #[] }, { accessFlags := 0, nameIndex := 17, descriptorIndex := 337, attributes := #[] }, { accessFlags := 0, nameIndex := 494, descriptorIndex := 142, attributes := #[] }, { accessFlags := 8, nameIndex := 501, descriptorIndex := 391, attributes := #[] }] 49 2 #[1106, 1108, 575, 1110, 1112] #[{ accessFlags := 18, nameIndex := 13, descriptorIndex := 14, attributes := #[] }, { accessFlags := 18, nameIndex := 17, descriptorIndex := 18, attributes := #[] }, { accessFlags := 2, nameIndex := 21, descriptorIndex := 22, attributes := #[] }, { accessFlags := 2, nameIndex := 25, descriptorIndex := 26, attributes := #[] }, { accessFlags := 26, nameIndex := 1116, descriptorIndex := 1117, attributes := #[] }, { accessFlags := 24, nameIndex := 40, descriptorIndex := 26, attributes := #[] }, { accessFlags := 26, nameIndex := 1101, descriptorIndex := 1102, attributes := #[] }, { accessFlags := 26, nameIndex := 1121, descriptorIndex := 1122, attributes := #[] }, { accessFlags := 25, nameIndex := 599, descriptorIndex := 600, attributes := #[] }, { accessFlags := 24, nameIndex := 1125, descriptorIndex := 18, attributes := #[] }, { accessFlags := 24, nameIndex := 1127, descriptorIndex := 18, attributes := #[] }])
  fields := #[{ name := "value", type := (.array .byte), accessFlags := 18, slot := 0, constantValue := 0 }, { name := "coder", type := .byte, accessFlags := 18, slot := 1, constantValue := 0 }, { name := "hash", type := .int, accessFlags := 2, slot := 2, constantValue := 0 }, { name := "hashIsZero", type := .boolean, accessFlags := 2, slot := 3, constantValue := 0 }, { name := "serialVersionUID", type := .long, accessFlags := 26, slot := 0, constantValue := 0 }, { name := "COMPACT_STRINGS", type := .boolean, accessFlags := 24, slot := 1, constantValue := 0 }, { name := "serialPersistentFields", type := (.array (.object "java/io/ObjectStreamField")), accessFlags := 26, slot := 2, constantValue := 0 }, { name := "REPL", type := .char, accessFlags := 26, slot := 3, constantValue := 0 }, { name := "CASE_INSENSITIVE_ORDER", type := (.object "java/util/Comparator"), accessFlags := 25, slot := 4, constantValue := 0 }, { name := "LATIN1", type := .byte, accessFlags := 24, slot := 5, constantValue := 0 }, { name := "UTF16", type := .byte, accessFlags := 24, slot := 6, constantValue := 0 }]
  methods := #[k7m0, k7m1, k7m2, k7m3, k7m4, k7m5, k7m6, k7m7]
  instanceTypes := #[(.array .byte), .byte, .int, .boolean]
  staticTypes := #[.long, .boolean, (.array (.object "java/io/ObjectStreamField")), .char, (.object "java/util/Comparator"), .byte, .byte]
  resolved := Array.replicate 1451 none
  statics := some 0 }

def pool8 : Array CpInfo := pool [(3, .class_ 4), (0, u "java/lang/String"), (1, .class_ 8), (1, u "java/lang/Object"), (0, u "<init>"), (0, u "()V"), (0, .methodref 12 13), (0, .class_ 14), (0, .nameAndType 15 16), (0, u "java/lang/StringUTF16"), (0, u "newBytesLength"), (0, u "(I)I"), (3, .integer 1073741823), (23, .fieldref 12 45), (0, .nameAndType 46 47), (0, u "$assertionsDisabled"), (0, u "Z"), (0, .methodref 12 49), (0, .nameAndType 50 51), (0, u "length"), (0, u "([B)I"), (7, .fieldref 12 60), (0, .nameAndType 61 62), (0, u "HI_BYTE_SHIFT"), (0, u "I"), (0, .fieldref 12 64), (0, .nameAndType 65 62), (0, u "LO_BYTE_SHIFT"), (1, .methodref 12 68), (0, .nameAndType 69 70), (0, u "checkIndex"), (0, u "(I[B)V"), (0, .methodref 12 72), (0, .nameAndType 73 74), (0, u "getChar"), (0, u "([BI)C"), (32, .methodref 12 108), (0, .nameAndType 109 110), (0, u "newBytesFor"), (0, u "(I)[B"), (0, .methodref 12 112), (0, .nameAndType 113 114), (0, u "putChar"), (0, u "([BII)V"), (0, .methodref 12 116), (0, .nameAndType 117 118), (0, u "compress"), (0, u "([CI[BII)I"), (0, .methodref 12 120), (0, .nameAndType 121 122), (0, u "toBytes"), (0, u "([CII)[B"), (138, u "coderFromArrayLen"), (0, u "([BI)B"), (106, .class_ 371), (1, u "java/lang/StringUTF16$LinesSpliterator"), (20, u "charAt"), (21, .methodref 3 415), (0, .nameAndType 69 416), (0, u "(II)V"), (13, u "MAX_LENGTH"), (196, .class_ 628), (0, u "java/lang/StringUTF16$CodePointsSpliterator"), (0, .class_ 630), (0, u "java/lang/StringUTF16$CharsSpliterator")] 4

def k8m0 : Method := { name := "<init>", desc := "()V", sig := { parameters := [], returnType := none }, accessFlags := 0, code := none }
def k8c1 : Code := { maxStack := 1, maxLocals := 1, code := jdk_52_method_2_code, exceptionTable := #[], attributes := #[] }
def k8m1 : Method := { name := "newBytesFor", desc := "(I)[B", sig := { parameters := [.int], returnType := some (.array .byte) }, accessFlags := 9, code := some k8c1 }
def k8c2 : Code := { maxStack := 4, maxLocals := 1, code := jdk_52_method_3_code, exceptionTable := #[], attributes := #[] }
def k8m2 : Method := { name := "newBytesLength", desc := "(I)I", sig := { parameters := [.int], returnType := some .int }, accessFlags := 9, code := some k8c2 }
def k8c3 : Code := { maxStack := 4, maxLocals := 3, code := jdk_52_method_4_code, exceptionTable := #[], attributes := #[] }
def k8m3 : Method := { name := "putChar", desc := "([BII)V", sig := { parameters := [(.array .byte), .int, .int], returnType := none }, accessFlags := 8, code := some k8c3 }
def k8c4 : Code := { maxStack := 3, maxLocals := 2, code := jdk_52_method_5_code, exceptionTable := #[], attributes := #[] }
def k8m4 : Method := { name := "getChar", desc := "([BI)C", sig := { parameters := [(.array .byte), .int], returnType := some .char }, accessFlags := 8, code := some k8c4 }
def k8c5 : Code := { maxStack := 2, maxLocals := 1, code := jdk_52_method_6_code, exceptionTable := #[], attributes := #[] }
def k8m5 : Method := { name := "length", desc := "([B)I", sig := { parameters := [(.array .byte)], returnType := some .int }, accessFlags := 9, code := some k8c5 }
def k8c6 : Code := { maxStack := 4, maxLocals := 5, code := jdk_52_method_14_code, exceptionTable := #[], attributes := #[] }
def k8m6 : Method := { name := "toBytes", desc := "([CII)[B", sig := { parameters := [(.array .char), .int, .int], returnType := some (.array .byte) }, accessFlags := 9, code := some k8c6 }
def k8c7 : Code := { maxStack := 2, maxLocals := 2, code := jdk_52_method_15_code, exceptionTable := #[], attributes := #[] }
def k8m7 : Method := { name := "coderFromArrayLen", desc := "([BI)B", sig := { parameters := [(.array .byte), .int], returnType := some .byte }, accessFlags := 8, code := some k8c7 }
def k8c8 : Code := { maxStack := 5, maxLocals := 6, code := jdk_52_method_16_code, exceptionTable := #[], attributes := #[] }
def k8m8 : Method := { name := "compress", desc := "([CII)[B", sig := { parameters := [(.array .char), .int, .int], returnType := some (.array .byte) }, accessFlags := 9, code := some k8c8 }
def k8c9 : Code := { maxStack := 3, maxLocals := 7, code := jdk_52_method_21_code, exceptionTable := #[], attributes := #[] }
def k8m9 : Method := { name := "compress", desc := "([CI[BII)I", sig := { parameters := [(.array .char), .int, (.array .byte), .int, .int], returnType := some .int }, accessFlags := 9, code := some k8c9 }
def k8c10 : Code := { maxStack := 2, maxLocals := 2, code := jdk_52_method_83_code, exceptionTable := #[], attributes := #[] }
def k8m10 : Method := { name := "charAt", desc := "([BI)C", sig := { parameters := [(.array .byte), .int], returnType := some .char }, accessFlags := 9, code := some k8c10 }
def k8c11 : Code := { maxStack := 2, maxLocals := 2, code := jdk_52_method_91_code, exceptionTable := #[], attributes := #[] }
def k8m11 : Method := { name := "checkIndex", desc := "(I[B)V", sig := { parameters := [.int, (.array .byte)], returnType := none }, accessFlags := 9, code := some k8c11 }
/-- java/lang/StringUTF16 -/
def k8 : Class := { plain "java/lang/StringUTF16" (some 0) with
  accessFlags := 48
  interfaces := #[]
  cf := some (fileOf pool8 12 #[.nestMembers #[627, 629, 369]] #[{ accessFlags := 0, nameIndex := 9, descriptorIndex := 10, attributes := #[] }, { accessFlags := 9, nameIndex := 109, descriptorIndex := 110, attributes := #[] }, { accessFlags := 9, nameIndex := 15, descriptorIndex := 16, attributes := #[] }, { accessFlags := 8, nameIndex := 113, descriptorIndex := 114, attributes := #[] }, { accessFlags := 8, nameIndex := 73, descriptorIndex := 74, attributes := #[] }, { accessFlags := 9, nameIndex := 50, descriptorIndex := 51, attributes := #[] }, { accessFlags := 9, nameIndex := 121, descriptorIndex := 122, attributes := #[] }, { accessFlags := 8, nameIndex := 261, descriptorIndex := 262, attributes := #[] }, { accessFlags := 9, nameIndex := 117, descriptorIndex := 122, attributes := #[] }, { accessFlags := 9, nameIndex := 117, descriptorIndex := 118, attributes := #[] }, { accessFlags := 9, nameIndex := 392, descriptorIndex := 74, attributes := #[] }, { accessFlags := 9, nameIndex := 69, descriptorIndex := 70, attributes := #[] }] 48 6 #[] #[{ accessFlags := 26, nameIndex := 61, descriptorIndex := 62, attributes := #[] }, { accessFlags := 26, nameIndex := 65, descriptorIndex := 62, attributes := #[] }, { accessFlags := 24, nameIndex := 430, descriptorIndex := 62, attributes := #[] }, { accessFlags := 4120, nameIndex := 46, descriptorIndex := 47, attributes := #[] }])
  fields := #[{ name := "HI_BYTE_SHIFT", type := .int, accessFlags := 26, slot := 0, constantValue := 0 }, { name := "LO_BYTE_SHIFT", type := .int, accessFlags := 26, slot := 1, constantValue := 0 }, { name := "MAX_LENGTH", type := .int, accessFlags := 24, slot := 2, constantValue := 0 }, { name := "$assertionsDisabled", type := .boolean, accessFlags := 4120, slot := 3, constantValue := 0 }]
  methods := #[k8m0, k8m1, k8m2, k8m3, k8m4, k8m5, k8m6, k8m7, k8m8, k8m9, k8m10, k8m11]
  instanceTypes := #[]
  staticTypes := #[.int, .int, .int, .boolean]
  resolved := Array.replicate 635 none
  statics := some 1 }

def pool9 : Array CpInfo := pool [(1, .methodref 2 3), (0, .class_ 4), (0, .nameAndType 5 6), (0, u "java/lang/Object"), (0, u "<init>"), (0, u "()V"), (0, .methodref 8 9), (0, .class_ 10), (0, .nameAndType 11 12), (0, u "java/lang/String"), (0, u "length"), (0, u "()I"), (0, .methodref 14 15), (0, .class_ 16), (0, .nameAndType 17 18), (0, u "java/util/Objects"), (0, u "checkFromToIndex"), (0, u "(III)I"), (0, .fieldref 20 21), (0, .class_ 22), (0, .nameAndType 23 24), (0, u "com/example/lexsign/lexsign/json/TextSpan"), (0, u "text"), (0, u "Ljava/lang/String;"), (0, .fieldref 20 26), (0, .nameAndType 27 28), (0, u "start"), (0, u "I"), (0, .fieldref 20 30), (0, .nameAndType 31 28), (0, u "end"), (5, .methodref 8 38), (0, .nameAndType 39 40), (0, u "charAt"), (0, u "(I)C"), (18, .class_ 60), (0, u "java/lang/CharSequence"), (0, u "(Ljava/lang/String;II)V"), (11, u "hashCode")] 7

def k9c0 : Code := { maxStack := 3, maxLocals := 4, code := prog_29_method_1_code, exceptionTable := #[], attributes := #[] }
def k9m0 : Method := { name := "<init>", desc := "(Ljava/lang/String;II)V", sig := { parameters := [(.object "java/lang/String"), .int, .int], returnType := none }, accessFlags := 0, code := some k9c0 }
def k9c1 : Code := { maxStack := 3, maxLocals := 3, code := prog_29_method_8_code, exceptionTable := #[], attributes := #[] }
def k9m1 : Method := { name := "hashCode", desc := "()I", sig := { parameters := [], returnType := some .int }, accessFlags := 1, code := some k9c1 }
/-- com/example/lexsign/lexsign/json/TextSpan -/
def k9 : Class := { plain "com/example/lexsign/lexsign/json/TextSpan" (some 0) with
  accessFlags := 1056
  interfaces := #[4]
  cf := some (fileOf pool9 20 #[] #[{ accessFlags := 0, nameIndex := 5, descriptorIndex := 61, attributes := #[] }, { accessFlags := 1, nameIndex := 73, descriptorIndex := 12, attributes := #[] }] 1056 2 #[59] #[{ accessFlags := 18, nameIndex := 23, descriptorIndex := 24, attributes := #[] }, { accessFlags := 18, nameIndex := 27, descriptorIndex := 28, attributes := #[] }, { accessFlags := 18, nameIndex := 31, descriptorIndex := 28, attributes := #[] }])
  fields := #[{ name := "text", type := (.object "java/lang/String"), accessFlags := 18, slot := 0, constantValue := 0 }, { name := "start", type := .int, accessFlags := 18, slot := 1, constantValue := 0 }, { name := "end", type := .int, accessFlags := 18, slot := 2, constantValue := 0 }]
  methods := #[k9m0, k9m1]
  instanceTypes := #[(.object "java/lang/String"), .int, .int]
  staticTypes := #[]
  resolved := Array.replicate 81 none
  statics := none }

def pool10 : Array CpInfo := pool [(1, .class_ 2), (0, u "com/example/lexsign/lexsign/json/JsonValue"), (0, .class_ 4), (0, u "java/lang/Object")] 15

/-- com/example/lexsign/lexsign/json/JsonValue -/
def k10 : Class := { plain "com/example/lexsign/lexsign/json/JsonValue" (some 0) with
  accessFlags := 1537
  interfaces := #[]
  cf := some (fileOf pool10 1 #[] #[] 1537 3 #[] #[])
  fields := #[]
  methods := #[]
  instanceTypes := #[]
  staticTypes := #[]
  resolved := Array.replicate 20 none
  statics := none }

def pool11 : Array CpInfo := pool [(6, u "()I"), (1, .class_ 10), (0, .nameAndType 11 12), (0, u "com/example/lexsign/lexsign/json/JsonString"), (0, u "<init>"), (0, u "(Ljava/lang/String;II)V"), (0, .methodref 14 9), (0, .class_ 15), (0, u "com/example/lexsign/lexsign/json/TextSpan"), (2, .methodref 14 19), (0, .nameAndType 20 6), (0, u "hashCode"), (21, .class_ 43), (0, u "com/example/lexsign/lexsign/json/JsonValue")] 7

def k11c0 : Code := { maxStack := 4, maxLocals := 4, code := prog_23_method_2_code, exceptionTable := #[], attributes := #[] }
def k11m0 : Method := { name := "<init>", desc := "(Ljava/lang/String;II)V", sig := { parameters := [(.object "java/lang/String"), .int, .int], returnType := none }, accessFlags := 0, code := some k11c0 }
def k11c1 : Code := { maxStack := 1, maxLocals := 1, code := prog_23_method_4_code, exceptionTable := #[], attributes := #[] }
def k11m1 : Method := { name := "hashCode", desc := "()I", sig := { parameters := [], returnType := some .int }, accessFlags := 4161, code := some k11c1 }
/-- com/example/lexsign/lexsign/json/JsonString -/
def k11 : Class := { plain "com/example/lexsign/lexsign/json/JsonString" (some 9) with
  accessFlags := 49
  interfaces := #[10]
  cf := some (fileOf pool11 8 #[] #[{ accessFlags := 0, nameIndex := 11, descriptorIndex := 12, attributes := #[] }, { accessFlags := 4161, nameIndex := 20, descriptorIndex := 6, attributes := #[] }] 49 14 #[42] #[])
  fields := #[]
  methods := #[k11m0, k11m1]
  instanceTypes := #[(.object "java/lang/String"), .int, .int]
  staticTypes := #[]
  resolved := Array.replicate 51 none
  statics := none }

def pool12 : Array CpInfo := pool [(2, .class_ 4), (1, u "java/lang/Object"), (0, u "<init>"), (0, u "()V"), (35, .class_ 44), (1, u "java/util/Objects"), (61, .class_ 108), (1, u "jdk/internal/util/Preconditions"), (2, .methodref 106 112), (0, .nameAndType 113 114), (0, u "checkFromToIndex"), (0, u "(IIILjava/util/function/BiFunction;)I"), (60, u "(III)I")] 8

def k12m0 : Method := { name := "<init>", desc := "()V", sig := { parameters := [], returnType := none }, accessFlags := 2, code := none }
def k12c1 : Code := { maxStack := 4, maxLocals := 3, code := jdk_31_method_18_code, exceptionTable := #[], attributes := #[] }
def k12m1 : Method := { name := "checkFromToIndex", desc := "(III)I", sig := { parameters := [.int, .int, .int], returnType := some .int }, accessFlags := 9, code := some k12c1 }
/-- java/util/Objects -/
def k12 : Class := { plain "java/util/Objects" (some 0) with
  accessFlags := 49
  interfaces := #[]
  cf := some (fileOf pool12 42 #[] #[{ accessFlags := 2, nameIndex := 5, descriptorIndex := 6, attributes := #[] }, { accessFlags := 9, nameIndex := 113, descriptorIndex := 175, attributes := #[] }] 49 2 #[] #[])
  fields := #[]
  methods := #[k12m0, k12m1]
  instanceTypes := #[]
  staticTypes := #[]
  resolved := Array.replicate 184 none
  statics := none }

def pool13 : Array CpInfo := pool [(2, .class_ 4), (1, u "java/lang/Object"), (0, u "<init>"), (0, u "()V"), (17, .class_ 26), (1, u "jdk/internal/util/Preconditions"), (6, u "checkIndex"), (13, u "checkFromToIndex"), (7, .class_ 56), (0, u "jdk/internal/util/Preconditions$4"), (57, .class_ 115), (0, u "jdk/internal/util/Preconditions$1"), (7, u "SIOOBE_FORMATTER"), (0, u "Ljava/util/function/BiFunction;"), (0, .class_ 126), (0, u "jdk/internal/util/Preconditions$2"), (3, u "AIOOBE_FORMATTER"), (0, .class_ 132), (0, u "jdk/internal/util/Preconditions$3"), (3, u "IOOBE_FORMATTER"), (41, u "(IILjava/util/function/BiFunction;)I"), (4, u "(IIILjava/util/function/BiFunction;)I")] 10

def k13m0 : Method := { name := "<init>", desc := "()V", sig := { parameters := [], returnType := none }, accessFlags := 1, code := none }
def k13c1 : Code := { maxStack := 3, maxLocals := 3, code := jdk_41_method_11_code, exceptionTable := #[], attributes := #[] }
def k13m1 : Method := { name := "checkIndex", desc := "(IILjava/util/function/BiFunction;)I", sig := { parameters := [.int, .int, (.object "java/util/function/BiFunction")], returnType := some .int }, accessFlags := 9, code := some k13c1 }
def k13c2 : Code := { maxStack := 4, maxLocals := 4, code := jdk_41_method_12_code, exceptionTable := #[], attributes := #[] }
def k13m2 : Method := { name := "checkFromToIndex", desc := "(IIILjava/util/function/BiFunction;)I", sig := { parameters := [.int, .int, .int, (.object "java/util/function/BiFunction")], returnType := some .int }, accessFlags := 9, code := some k13c2 }
/-- jdk/internal/util/Preconditions -/
def k13 : Class := { plain "jdk/internal/util/Preconditions" (some 0) with
  accessFlags := 33
  interfaces := #[]
  cf := some (fileOf pool13 24 #[.nestMembers #[55, 131, 125, 114]] #[{ accessFlags := 1, nameIndex := 5, descriptorIndex := 6, attributes := #[] }, { accessFlags := 9, nameIndex := 33, descriptorIndex := 178, attributes := #[] }, { accessFlags := 9, nameIndex := 47, descriptorIndex := 183, attributes := #[] }] 33 2 #[] #[{ accessFlags := 25, nameIndex := 123, descriptorIndex := 124, attributes := #[] }, { accessFlags := 25, nameIndex := 130, descriptorIndex := 124, attributes := #[] }, { accessFlags := 25, nameIndex := 136, descriptorIndex := 124, attributes := #[] }])
  fields := #[{ name := "SIOOBE_FORMATTER", type := (.object "java/util/function/BiFunction"), accessFlags := 25, slot := 0, constantValue := 0 }, { name := "AIOOBE_FORMATTER", type := (.object "java/util/function/BiFunction"), accessFlags := 25, slot := 1, constantValue := 0 }, { name := "IOOBE_FORMATTER", type := (.object "java/util/function/BiFunction"), accessFlags := 25, slot := 2, constantValue := 0 }]
  methods := #[k13m0, k13m1, k13m2]
  instanceTypes := #[]
  staticTypes := #[(.object "java/util/function/BiFunction"), (.object "java/util/function/BiFunction"), (.object "java/util/function/BiFunction")]
  resolved := Array.replicate 194 none
  statics := some 2 }

def pool14 : Array CpInfo := pool [(1, .class_ 2), (0, u "java/lang/String"), (1, .class_ 6), (1, u "java/lang/Object"), (0, u "<init>"), (0, u "()V"), (0, .methodref 1 10), (0, .nameAndType 11 12), (0, u "checkIndex"), (0, u "(II)V"), (1, .class_ 16), (1, u "java/lang/StringLatin1"), (36, u "([BI)C"), (67, u "$assertionsDisabled"), (0, u "Z"), (98, .class_ 223), (1, u "java/lang/StringLatin1$LinesSpliterator"), (28, u "charAt"), (137, .class_ 391), (0, u "java/lang/StringLatin1$CharsSpliterator")] 3

def k14m0 : Method := { name := "<init>", desc := "()V", sig := { parameters := [], returnType := none }, accessFlags := 0, code := none }
def k14c1 : Code := { maxStack := 2, maxLocals := 2, code := jdk_43_method_2_code, exceptionTable := #[], attributes := #[] }
def k14m1 : Method := { name := "charAt", desc := "([BI)C", sig := { parameters := [(.array .byte), .int], returnType := some .char }, accessFlags := 9, code := some k14c1 }
/-- java/lang/StringLatin1 -/
def k14 : Class := { plain "java/lang/StringLatin1" (some 0) with
  accessFlags := 48
  interfaces := #[]
  cf := some (fileOf pool14 14 #[.nestMembers #[390, 221]] #[{ accessFlags := 0, nameIndex := 7, descriptorIndex := 8, attributes := #[] }, { accessFlags := 9, nameIndex := 252, descriptorIndex := 53, attributes := #[] }] 48 4 #[] #[{ accessFlags := 4120, nameIndex := 121, descriptorIndex := 122, attributes := #[] }])
  fields := #[{ name := "$assertionsDisabled", type := .boolean, accessFlags := 4120, slot := 0, constantValue := 0 }]
  methods := #[k14m0, k14m1]
  instanceTypes := #[]
  staticTypes := #[.boolean]
  resolved := Array.replicate 395 none
  statics := none }

def pool15 : Array CpInfo := pool [(9, u "<init>"), (6, .class_ 18), (1, u "java/lang/Object"), (0, u "()V"), (1, .class_ 23), (1, u "jdk/internal/util/ArraysSupport"), (0, u "LOG2_ARRAY_LONG_INDEX_SCALE"), (0, u "I"), (2, u "U"), (0, u "Ljdk/internal/misc/Unsafe;"), (8, u "BIG_ENDIAN"), (0, u "Z"), (8, u "LOG2_BYTE_BIT_SIZE"), (4, u "LOG2_ARRAY_INT_INDEX_SCALE"), (54, u "JLA"), (0, u "Ljdk/internal/access/JavaLangAccess;"), (11, u "LOG2_ARRAY_BOOLEAN_INDEX_SCALE"), (9, u "LOG2_ARRAY_BYTE_INDEX_SCALE"), (5, u "LOG2_ARRAY_CHAR_INDEX_SCALE"), (5, u "LOG2_ARRAY_SHORT_INDEX_SCALE"), (18, u "LOG2_ARRAY_FLOAT_INDEX_SCALE"), (24, u "LOG2_ARRAY_DOUBLE_INDEX_SCALE"), (89, u "T_BOOLEAN"), (2, u "T_CHAR"), (1, u "T_FLOAT"), (1, u "T_DOUBLE"), (1, u "T_BYTE"), (1, u "T_SHORT"), (1, u "T_INT"), (1, u "T_LONG"), (1, u "SOFT_MAX_ARRAY_LENGTH")] 83

def k15m0 : Method := { name := "<init>", desc := "()V", sig := { parameters := [], returnType := none }, accessFlags := 2, code := none }
/-- jdk/internal/util/ArraysSupport -/
def k15 : Class := { plain "jdk/internal/util/ArraysSupport" (some 0) with
  accessFlags := 33
  interfaces := #[]
  cf := some (fileOf pool15 21 #[] #[{ accessFlags := 2, nameIndex := 9, descriptorIndex := 19, attributes := #[] }] 33 16 #[] #[{ accessFlags := 24, nameIndex := 28, descriptorIndex := 29, attributes := #[] }, { accessFlags := 26, nameIndex := 38, descriptorIndex := 39, attributes := #[] }, { accessFlags := 25, nameIndex := 121, descriptorIndex := 25, attributes := #[] }, { accessFlags := 25, nameIndex := 131, descriptorIndex := 25, attributes := #[] }, { accessFlags := 25, nameIndex := 137, descriptorIndex := 25, attributes := #[] }, { accessFlags := 25, nameIndex := 143, descriptorIndex := 25, attributes := #[] }, { accessFlags := 25, nameIndex := 53, descriptorIndex := 25, attributes := #[] }, { accessFlags := 25, nameIndex := 24, descriptorIndex := 25, attributes := #[] }, { accessFlags := 25, nameIndex := 162, descriptorIndex := 25, attributes := #[] }, { accessFlags := 25, nameIndex := 187, descriptorIndex := 25, attributes := #[] }, { accessFlags := 26, nameIndex := 48, descriptorIndex := 25, attributes := #[] }, { accessFlags := 25, nameIndex := 277, descriptorIndex := 25, attributes := #[] }, { accessFlags := 25, nameIndex := 280, descriptorIndex := 25, attributes := #[] }, { accessFlags := 25, nameIndex := 282, descriptorIndex := 25, attributes := #[] }, { accessFlags := 25, nameIndex := 284, descriptorIndex := 25, attributes := #[] }, { accessFlags := 25, nameIndex := 286, descriptorIndex := 25, attributes := #[] }, { accessFlags := 25, nameIndex := 288, descriptorIndex := 25, attributes := #[] }, { accessFlags := 25, nameIndex := 290, descriptorIndex := 25, attributes := #[] }, { accessFlags := 25, nameIndex := 292, descriptorIndex := 25, attributes := #[] }, { accessFlags := 26, nameIndex := 108, descriptorIndex := 109, attributes := #[] }, { accessFlags := 25, nameIndex := 294, descriptorIndex := 25, attributes := #[] }])
  fields := #[{ name := "U", type := (.object "jdk/internal/misc/Unsafe"), accessFlags := 24, slot := 0, constantValue := 0 }, { name := "BIG_ENDIAN", type := .boolean, accessFlags := 26, slot := 1, constantValue := 0 }, { name := "LOG2_ARRAY_BOOLEAN_INDEX_SCALE", type := .int, accessFlags := 25, slot := 2, constantValue := 0 }, { name := "LOG2_ARRAY_BYTE_INDEX_SCALE", type := .int, accessFlags := 25, slot := 3, constantValue := 0 }, { name := "LOG2_ARRAY_CHAR_INDEX_SCALE", type := .int, accessFlags := 25, slot := 4, constantValue := 0 }, { name := "LOG2_ARRAY_SHORT_INDEX_SCALE", type := .int, accessFlags := 25, slot := 5, constantValue := 0 }, { name := "LOG2_ARRAY_INT_INDEX_SCALE", type := .int, accessFlags := 25, slot := 6, constantValue := 0 }, { name := "LOG2_ARRAY_LONG_INDEX_SCALE", type := .int, accessFlags := 25, slot := 7, constantValue := 0 }, { name := "LOG2_ARRAY_FLOAT_INDEX_SCALE", type := .int, accessFlags := 25, slot := 8, constantValue := 0 }, { name := "LOG2_ARRAY_DOUBLE_INDEX_SCALE", type := .int, accessFlags := 25, slot := 9, constantValue := 0 }, { name := "LOG2_BYTE_BIT_SIZE", type := .int, accessFlags := 26, slot := 10, constantValue := 0 }, { name := "T_BOOLEAN", type := .int, accessFlags := 25, slot := 11, constantValue := 0 }, { name := "T_CHAR", type := .int, accessFlags := 25, slot := 12, constantValue := 0 }, { name := "T_FLOAT", type := .int, accessFlags := 25, slot := 13, constantValue := 0 }, { name := "T_DOUBLE", type := .int, accessFlags := 25, slot := 14, constantValue := 0 }, { name := "T_BYTE", type := .int, accessFlags := 25, slot := 15, constantValue := 0 }, { name := "T_SHORT", type := .int, accessFlags := 25, slot := 16, constantValue := 0 }, { name := "T_INT", type := .int, accessFlags := 25, slot := 17, constantValue := 0 }, { name := "T_LONG", type := .int, accessFlags := 25, slot := 18, constantValue := 0 }, { name := "JLA", type := (.object "jdk/internal/access/JavaLangAccess"), accessFlags := 26, slot := 19, constantValue := 0 }, { name := "SOFT_MAX_ARRAY_LENGTH", type := .int, accessFlags := 25, slot := 20, constantValue := 0 }]
  methods := #[k15m0]
  instanceTypes := #[]
  staticTypes := #[(.object "jdk/internal/misc/Unsafe"), .boolean, .int, .int, .int, .int, .int, .int, .int, .int, .int, .int, .int, .int, .int, .int, .int, .int, .int, (.object "jdk/internal/access/JavaLangAccess"), .int]
  resolved := Array.replicate 378 none
  statics := none }

def pool16 : Array CpInfo := pool [(1, u "java/lang/Cloneable"), (0, .class_ 1), (0, u "java/lang/Object"), (0, .class_ 3)] 3

/-- java/lang/Cloneable -/
def k16 : Class := { plain "java/lang/Cloneable" (some 0) with
  accessFlags := 1537
  interfaces := #[]
  cf := some (fileOf pool16 2 #[] #[] 1537 4 #[] #[])
  fields := #[]
  methods := #[]
  instanceTypes := #[]
  staticTypes := #[]
  resolved := Array.replicate 8 none
  statics := none }

/-- the primitive byte -/
def k17 : Class := { plain "byte" none with kind := .primitive 'B', accessFlags := 0x411 }
/-- [B -/
def k18 : Class := { plain "[B" (some 0) with kind := .array 17 .byte, interfaces := #[16, 2], accessFlags := 1041 }

/-- the primitive char -/
def k19 : Class := { plain "char" none with kind := .primitive 'C', accessFlags := 0x411 }
/-- [C -/
def k20 : Class := { plain "[C" (some 0) with kind := .array 19 .char, interfaces := #[16, 2], accessFlags := 1041 }

/-- the primitive int -/
def k21 : Class := { plain "int" none with kind := .primitive 'I', accessFlags := 0x411 }
/-- [I -/
def k22 : Class := { plain "[I" (some 0) with kind := .array 21 .int, interfaces := #[16, 2], accessFlags := 1041 }

def heap : Heap := #[{ cls := 7, slots := #[.long 0, .int 1, .null, .int 0, .null, .int 0, .int 0], vm := .statics 7 },
  { cls := 8, slots := #[.int 0, .int 8, .int 0, .int 1], vm := .statics 8 },
  { cls := 13, slots := #[.null, .null, .null], vm := .statics 13 }]
def classes : Array Class := #[k0, k1, k2, k3, k4, k5, k6, k7, k8, k9, k10, k11, k12, k13, k14, k15, k16, k17, k18, k19, k20, k21, k22]
def interned : List (Array UInt16 × Addr) := []
def slotsUsed : Nat := 14
def theMethod : MethodId := ⟨1, 1⟩
def args0 : Array Value := #[.int 5, .int 6, .int 7, .int 8]
def aboutOver (below : List Frame) : State where
  vm := { classes := classes, interned := interned.toArray }
  heap := heap
  slotsUsed := slotsUsed
  threads := #[{ frames := .invoking theMethod args0 :: below }]
def below0 : List Frame := [.native { method := ⟨0, 0⟩, args := #[] }]
def about1 : State := aboutOver below0
def p0 : Program := .bare "" "" ""
def e0 : Env := launch0.env 0 0 0
theorem w_frames : about1.frames = Frame.invoking theMethod args0 :: below0 := rfl
set_option maxRecDepth 65536 in
theorem w_args : argsFit about1.vm theMethod args0 = true := by decide +kernel
set_option maxRecDepth 65536 in
theorem w_heap : heapFits about1 = true := by decide +kernel
set_option maxRecDepth 65536 in
theorem w_runnable : about1.curStatus? = some .runnable := by decide +kernel
set_option maxRecDepth 65536 in
theorem w_alone : about1.alone = true := by decide +kernel
set_option maxRecDepth 65536 in
theorem w_named : about1.methodNamed? x = some theMethod := by decide +kernel
set_option maxRecDepth 65536 in
theorem w_hears : about1.hears theMethod below0 = true := by decide +kernel
set_option maxRecDepth 65536 in
theorem w_ripe : about1.ripe theMethod args0 below0 = true := by decide +kernel
theorem w_running : about1.status = .running := rfl
set_option maxRecDepth 65536 in
theorem w_room : about1.hasRoom e0.platform room_1 = true :=
  launch0.hasRoom_least _ room_1 (by decide +kernel) (by decide +kernel) (by decide +kernel) (by decide +kernel) (by decide +kernel) (by decide +kernel)
theorem allAtoms_all (ts : List Jvm.Cond) (a : Array Jvm.Value) (st : Jvm.State) : (allAtoms ts).before a st = ts.all (fun c => c.before a st) := by
  induction ts with
  | nil => rfl
  | cons c t ih =>
    show (Jvm.Cond.and c (allAtoms t)).before a st = _
    rw [Jvm.Cond.before_and, ih, List.all_cons]
def words1 : List Jvm.Cond := Jvm.Cond.code x code maxLocals ret :: tables_1
/-- a 'code' word, met by the world's own term for the bytes: nothing is compared byte by byte -/
theorem code_word {y : MethodName} {bytes : ByteArray} {mx : Nat} {rt : Option FieldType} {a : Array Value} {s : State} {m : MethodId} {meth : Method} {c : Code} (h1 : s.methodNamed? y = some m) (h2 : s.vm.method? m = some meth) (h3 : meth.code = some c) (h4 : c.code = bytes)
    (h5 : (c.maxLocals == mx && c.exceptionTable.isEmpty && decide (c.maxStack ≤ mostOperands) && decide (meth.sig.returnType = rt) && !meth.locks && decide (parseMethodDescriptor y.desc = some meth.sig)) = true) : (Jvm.Cond.code y bytes mx rt).before a s = true := by
  simp only [Bool.and_eq_true, beq_iff_eq, Bool.not_eq_true', decide_eq_true_eq] at h5
  obtain ⟨⟨⟨⟨⟨g1, g2⟩, g3⟩, g4⟩, g5⟩, g6⟩ := h5
  simp [Cond.before, Cond.holds, Cond.value, h1, h2, h3, h4, g1, g2, g3, g4, g5, g6]
def isCode : Jvm.Cond → Bool
  | .code _ _ _ _ => true
  | _ => false
theorem all_split {L : List Jvm.Cond} {P : Jvm.Cond → Bool} (h1 : L.all (fun c => isCode c || P c) = true) (h2 : ∀ c ∈ L.filter isCode, P c = true) : L.all P = true := by
  refine List.all_eq_true.mpr fun c hc => ?_
  have h := List.all_eq_true.mp h1 c hc
  rcases Bool.eq_false_or_eq_true (isCode c) with hi | hi
  · exact h2 c (List.mem_filter.mpr ⟨hc, hi⟩)
  · simpa [hi] using h
set_option maxRecDepth 65536 in
theorem w_c0 : (Jvm.Cond.code x code maxLocals ret).before args0 about1 = true := code_word (m := ⟨1, 1⟩) (meth := k1m1) (c := k1c1) (by decide +kernel) rfl rfl rfl (by decide +kernel)
set_option maxRecDepth 65536 in
theorem w_c1 : (Jvm.Cond.code ({ cls := "java/lang/String", name := "<init>", desc := "([C)V" } : Jvm.MethodName) jdk_42_method_3_code (2 : Nat) (Option.none : Option Jvm.ClassFile.FieldType)).before args0 about1 = true := code_word (m := ⟨7, 1⟩) (meth := k7m1) (c := k7c1) (by decide +kernel) rfl rfl rfl (by decide +kernel)
set_option maxRecDepth 65536 in
theorem w_c2 : (Jvm.Cond.code ({ cls := "java/lang/String", name := "<init>", desc := "([CIILjava/lang/Void;)V" } : Jvm.MethodName) jdk_42_method_149_code (6 : Nat) (Option.none : Option Jvm.ClassFile.FieldType)).before args0 about1 = true := code_word (m := ⟨7, 4⟩) (meth := k7m4) (c := k7c4) (by decide +kernel) rfl rfl rfl (by decide +kernel)
set_option maxRecDepth 65536 in
theorem w_c3 : (Jvm.Cond.code ({ cls := "java/lang/Object", name := "<init>", desc := "()V" } : Jvm.MethodName) object_method_1_code (1 : Nat) (Option.none : Option Jvm.ClassFile.FieldType)).before args0 about1 = true := code_word (m := ⟨0, 0⟩) (meth := k0m0) (c := k0c0) (by decide +kernel) rfl rfl rfl (by decide +kernel)
set_option maxRecDepth 65536 in
theorem w_c4 : (Jvm.Cond.code ({ cls := "java/lang/StringUTF16", name := "compress", desc := "([CII)[B" } : Jvm.MethodName) jdk_52_method_16_code (6 : Nat) (Option.some (Jvm.ClassFile.FieldType.array Jvm.ClassFile.FieldType.byte))).before args0 about1 = true := code_word (m := ⟨8, 8⟩) (meth := k8m8) (c := k8c8) (by decide +kernel) rfl rfl rfl (by decide +kernel)
set_option maxRecDepth 65536 in
theorem w_c5 : (Jvm.Cond.code ({ cls := "java/lang/StringUTF16", name := "compress", desc := "([CI[BII)I" } : Jvm.MethodName) jdk_52_method_21_code (7 : Nat) (Option.some Jvm.ClassFile.FieldType.int)).before args0 about1 = true := code_word (m := ⟨8, 9⟩) (meth := k8m9) (c := k8c9) (by decide +kernel) rfl rfl rfl (by decide +kernel)
set_option maxRecDepth 65536 in
theorem w_c6 : (Jvm.Cond.code ({ cls := "java/lang/StringUTF16", name := "coderFromArrayLen", desc := "([BI)B" } : Jvm.MethodName) jdk_52_method_15_code (2 : Nat) (Option.some Jvm.ClassFile.FieldType.byte)).before args0 about1 = true := code_word (m := ⟨8, 7⟩) (meth := k8m7) (c := k8c7) (by decide +kernel) rfl rfl rfl (by decide +kernel)
set_option maxRecDepth 65536 in
theorem w_c7 : (Jvm.Cond.code ({ cls := "com/example/lexsign/lexsign/json/JsonString", name := "<init>", desc := "(Ljava/lang/String;II)V" } : Jvm.MethodName) prog_23_method_2_code (4 : Nat) (Option.none : Option Jvm.ClassFile.FieldType)).before args0 about1 = true := code_word (m := ⟨11, 0⟩) (meth := k11m0) (c := k11c0) (by decide +kernel) rfl rfl rfl (by decide +kernel)
set_option maxRecDepth 65536 in
theorem w_c8 : (Jvm.Cond.code ({ cls := "com/example/lexsign/lexsign/json/TextSpan", name := "<init>", desc := "(Ljava/lang/String;II)V" } : Jvm.MethodName) prog_29_method_1_code (4 : Nat) (Option.none : Option Jvm.ClassFile.FieldType)).before args0 about1 = true := code_word (m := ⟨9, 0⟩) (meth := k9m0) (c := k9c0) (by decide +kernel) rfl rfl rfl (by decide +kernel)
set_option maxRecDepth 65536 in
theorem w_c9 : (Jvm.Cond.code ({ cls := "java/lang/String", name := "length", desc := "()I" } : Jvm.MethodName) jdk_42_method_54_code (1 : Nat) (Option.some Jvm.ClassFile.FieldType.int)).before args0 about1 = true := code_word (m := ⟨7, 2⟩) (meth := k7m2) (c := k7c2) (by decide +kernel) rfl rfl rfl (by decide +kernel)
set_option maxRecDepth 65536 in
theorem w_c10 : (Jvm.Cond.code ({ cls := "java/lang/String", name := "coder", desc := "()B" } : Jvm.MethodName) jdk_42_method_152_code (1 : Nat) (Option.some Jvm.ClassFile.FieldType.byte)).before args0 about1 = true := code_word (m := ⟨7, 5⟩) (meth := k7m5) (c := k7c5) (by decide +kernel) rfl rfl rfl (by decide +kernel)
set_option maxRecDepth 65536 in
theorem w_c11 : (Jvm.Cond.code ({ cls := "java/util/Objects", name := "checkFromToIndex", desc := "(III)I" } : Jvm.MethodName) jdk_31_method_18_code (3 : Nat) (Option.some Jvm.ClassFile.FieldType.int)).before args0 about1 = true := code_word (m := ⟨12, 1⟩) (meth := k12m1) (c := k12c1) (by decide +kernel) rfl rfl rfl (by decide +kernel)
set_option maxRecDepth 65536 in
theorem w_c12 : (Jvm.Cond.code ({ cls := "jdk/internal/util/Preconditions", name := "checkFromToIndex", desc := "(IIILjava/util/function/BiFunction;)I" } : Jvm.MethodName) jdk_41_method_12_code (4 : Nat) (Option.some Jvm.ClassFile.FieldType.int)).before args0 about1 = true := code_word (m := ⟨13, 2⟩) (meth := k13m2) (c := k13c2) (by decide +kernel) rfl rfl rfl (by decide +kernel)
set_option maxRecDepth 65536 in
theorem w_c13 : (Jvm.Cond.code ({ cls := "com/example/lexsign/lexsign/json/TextSpanHashCodePinLaw", name := "term", desc := "([C[IIII)I" } : Jvm.MethodName) method_3_code (5 : Nat) (Option.some Jvm.ClassFile.FieldType.int)).before args0 about1 = true := code_word (m := ⟨1, 2⟩) (meth := k1m2) (c := k1c2) (by decide +kernel) rfl rfl rfl (by decide +kernel)
set_option maxRecDepth 65536 in
theorem w_c14 : (Jvm.Cond.code ({ cls := "com/example/lexsign/lexsign/json/JsonString", name := "hashCode", desc := "()I" } : Jvm.MethodName) prog_23_method_4_code (1 : Nat) (Option.some Jvm.ClassFile.FieldType.int)).before args0 about1 = true := code_word (m := ⟨11, 1⟩) (meth := k11m1) (c := k11c1) (by decide +kernel) rfl rfl rfl (by decide +kernel)
set_option maxRecDepth 65536 in
theorem w_c15 : (Jvm.Cond.code ({ cls := "com/example/lexsign/lexsign/json/TextSpan", name := "hashCode", desc := "()I" } : Jvm.MethodName) prog_29_method_8_code (3 : Nat) (Option.some Jvm.ClassFile.FieldType.int)).before args0 about1 = true := code_word (m := ⟨9, 1⟩) (meth := k9m1) (c := k9c1) (by decide +kernel) rfl rfl rfl (by decide +kernel)
set_option maxRecDepth 65536 in
theorem w_c16 : (Jvm.Cond.code ({ cls := "java/lang/String", name := "charAt", desc := "(I)C" } : Jvm.MethodName) jdk_42_method_56_code (2 : Nat) (Option.some Jvm.ClassFile.FieldType.char)).before args0 about1 = true := code_word (m := ⟨7, 3⟩) (meth := k7m3) (c := k7c3) (by decide +kernel) rfl rfl rfl (by decide +kernel)
set_option maxRecDepth 65536 in
theorem w_c17 : (Jvm.Cond.code ({ cls := "java/lang/String", name := "isLatin1", desc := "()Z" } : Jvm.MethodName) jdk_42_method_154_code (1 : Nat) (Option.some Jvm.ClassFile.FieldType.boolean)).before args0 about1 = true := code_word (m := ⟨7, 6⟩) (meth := k7m6) (c := k7c6) (by decide +kernel) rfl rfl rfl (by decide +kernel)
set_option maxRecDepth 65536 in
theorem w_c18 : (Jvm.Cond.code ({ cls := "java/lang/StringLatin1", name := "charAt", desc := "([BI)C" } : Jvm.MethodName) jdk_43_method_2_code (2 : Nat) (Option.some Jvm.ClassFile.FieldType.char)).before args0 about1 = true := code_word (m := ⟨14, 1⟩) (meth := k14m1) (c := k14c1) (by decide +kernel) rfl rfl rfl (by decide +kernel)
set_option maxRecDepth 65536 in
theorem w_c19 : (Jvm.Cond.code ({ cls := "java/lang/String", name := "checkIndex", desc := "(II)V" } : Jvm.MethodName) jdk_42_method_155_code (2 : Nat) (Option.none : Option Jvm.ClassFile.FieldType)).before args0 about1 = true := code_word (m := ⟨7, 7⟩) (meth := k7m7) (c := k7c7) (by decide +kernel) rfl rfl rfl (by decide +kernel)
set_option maxRecDepth 65536 in
theorem w_c20 : (Jvm.Cond.code ({ cls := "jdk/internal/util/Preconditions", name := "checkIndex", desc := "(IILjava/util/function/BiFunction;)I" } : Jvm.MethodName) jdk_41_method_11_code (3 : Nat) (Option.some Jvm.ClassFile.FieldType.int)).before args0 about1 = true := code_word (m := ⟨13, 1⟩) (meth := k13m1) (c := k13c1) (by decide +kernel) rfl rfl rfl (by decide +kernel)
set_option maxRecDepth 65536 in
theorem w_c21 : (Jvm.Cond.code ({ cls := "java/lang/StringUTF16", name := "toBytes", desc := "([CII)[B" } : Jvm.MethodName) jdk_52_method_14_code (5 : Nat) (Option.some (Jvm.ClassFile.FieldType.array Jvm.ClassFile.FieldType.byte))).before args0 about1 = true := code_word (m := ⟨8, 6⟩) (meth := k8m6) (c := k8c6) (by decide +kernel) rfl rfl rfl (by decide +kernel)
set_option maxRecDepth 65536 in
theorem w_c22 : (Jvm.Cond.code ({ cls := "java/lang/StringUTF16", name := "newBytesFor", desc := "(I)[B" } : Jvm.MethodName) jdk_52_method_2_code (1 : Nat) (Option.some (Jvm.ClassFile.FieldType.array Jvm.ClassFile.FieldType.byte))).before args0 about1 = true := code_word (m := ⟨8, 1⟩) (meth := k8m1) (c := k8c1) (by decide +kernel) rfl rfl rfl (by decide +kernel)
set_option maxRecDepth 65536 in
theorem w_c23 : (Jvm.Cond.code ({ cls := "java/lang/StringUTF16", name := "newBytesLength", desc := "(I)I" } : Jvm.MethodName) jdk_52_method_3_code (1 : Nat) (Option.some Jvm.ClassFile.FieldType.int)).before args0 about1 = true := code_word (m := ⟨8, 2⟩) (meth := k8m2) (c := k8c2) (by decide +kernel) rfl rfl rfl (by decide +kernel)
set_option maxRecDepth 65536 in
theorem w_c24 : (Jvm.Cond.code ({ cls := "java/lang/StringUTF16", name := "putChar", desc := "([BII)V" } : Jvm.MethodName) jdk_52_method_4_code (3 : Nat) (Option.none : Option Jvm.ClassFile.FieldType)).before args0 about1 = true := code_word (m := ⟨8, 3⟩) (meth := k8m3) (c := k8c3) (by decide +kernel) rfl rfl rfl (by decide +kernel)
set_option maxRecDepth 65536 in
theorem w_c25 : (Jvm.Cond.code ({ cls := "java/lang/StringUTF16", name := "getChar", desc := "([BI)C" } : Jvm.MethodName) jdk_52_method_5_code (2 : Nat) (Option.some Jvm.ClassFile.FieldType.char)).before args0 about1 = true := code_word (m := ⟨8, 4⟩) (meth := k8m4) (c := k8c4) (by decide +kernel) rfl rfl rfl (by decide +kernel)
set_option maxRecDepth 65536 in
theorem w_c26 : (Jvm.Cond.code ({ cls := "java/lang/StringUTF16", name := "charAt", desc := "([BI)C" } : Jvm.MethodName) jdk_52_method_83_code (2 : Nat) (Option.some Jvm.ClassFile.FieldType.char)).before args0 about1 = true := code_word (m := ⟨8, 10⟩) (meth := k8m10) (c := k8c10) (by decide +kernel) rfl rfl rfl (by decide +kernel)
set_option maxRecDepth 65536 in
theorem w_c27 : (Jvm.Cond.code ({ cls := "java/lang/StringUTF16", name := "checkIndex", desc := "(I[B)V" } : Jvm.MethodName) jdk_52_method_91_code (2 : Nat) (Option.none : Option Jvm.ClassFile.FieldType)).before args0 about1 = true := code_word (m := ⟨8, 11⟩) (meth := k8m11) (c := k8c11) (by decide +kernel) rfl rfl rfl (by decide +kernel)
set_option maxRecDepth 65536 in
theorem w_c28 : (Jvm.Cond.code ({ cls := "java/lang/StringUTF16", name := "length", desc := "([B)I" } : Jvm.MethodName) jdk_52_method_6_code (1 : Nat) (Option.some Jvm.ClassFile.FieldType.int)).before args0 about1 = true := code_word (m := ⟨8, 5⟩) (meth := k8m5) (c := k8c5) (by decide +kernel) rfl rfl rfl (by decide +kernel)
def codes1 : List Jvm.Cond := [Jvm.Cond.code x code maxLocals ret, Jvm.Cond.code ({ cls := "java/lang/String", name := "<init>", desc := "([C)V" } : Jvm.MethodName) jdk_42_method_3_code (2 : Nat) (Option.none : Option Jvm.ClassFile.FieldType), Jvm.Cond.code ({ cls := "java/lang/String", name := "<init>", desc := "([CIILjava/lang/Void;)V" } : Jvm.MethodName) jdk_42_method_149_code (6 : Nat) (Option.none : Option Jvm.ClassFile.FieldType), Jvm.Cond.code ({ cls := "java/lang/Object", name := "<init>", desc := "()V" } : Jvm.MethodName) object_method_1_code (1 : Nat) (Option.none : Option Jvm.ClassFile.FieldType), Jvm.Cond.code ({ cls := "java/lang/StringUTF16", name := "compress", desc := "([CII)[B" } : Jvm.MethodName) jdk_52_method_16_code (6 : Nat) (Option.some (Jvm.ClassFile.FieldType.array Jvm.ClassFile.FieldType.byte)), Jvm.Cond.code ({ cls := "java/lang/StringUTF16", name := "compress", desc := "([CI[BII)I" } : Jvm.MethodName) jdk_52_method_21_code (7 : Nat) (Option.some Jvm.ClassFile.FieldType.int), Jvm.Cond.code ({ cls := "java/lang/StringUTF16", name := "coderFromArrayLen", desc := "([BI)B" } : Jvm.MethodName) jdk_52_method_15_code (2 : Nat) (Option.some Jvm.ClassFile.FieldType.byte), Jvm.Cond.code ({ cls := "com/example/lexsign/lexsign/json/JsonString", name := "<init>", desc := "(Ljava/lang/String;II)V" } : Jvm.MethodName) prog_23_method_2_code (4 : Nat) (Option.none : Option Jvm.ClassFile.FieldType), Jvm.Cond.code ({ cls := "com/example/lexsign/lexsign/json/TextSpan", name := "<init>", desc := "(Ljava/lang/String;II)V" } : Jvm.MethodName) prog_29_method_1_code (4 : Nat) (Option.none : Option Jvm.ClassFile.FieldType), Jvm.Cond.code ({ cls := "java/lang/String", name := "length", desc := "()I" } : Jvm.MethodName) jdk_42_method_54_code (1 : Nat) (Option.some Jvm.ClassFile.FieldType.int), Jvm.Cond.code ({ cls := "java/lang/String", name := "coder", desc := "()B" } : Jvm.MethodName) jdk_42_method_152_code (1 : Nat) (Option.some Jvm.ClassFile.FieldType.byte), Jvm.Cond.code ({ cls := "java/util/Objects", name := "checkFromToIndex", desc := "(III)I" } : Jvm.MethodName) jdk_31_method_18_code (3 : Nat) (Option.some Jvm.ClassFile.FieldType.int), Jvm.Cond.code ({ cls := "jdk/internal/util/Preconditions", name := "checkFromToIndex", desc := "(IIILjava/util/function/BiFunction;)I" } : Jvm.MethodName) jdk_41_method_12_code (4 : Nat) (Option.some Jvm.ClassFile.FieldType.int), Jvm.Cond.code ({ cls := "com/example/lexsign/lexsign/json/TextSpanHashCodePinLaw", name := "term", desc := "([C[IIII)I" } : Jvm.MethodName) method_3_code (5 : Nat) (Option.some Jvm.ClassFile.FieldType.int), Jvm.Cond.code ({ cls := "com/example/lexsign/lexsign/json/JsonString", name := "hashCode", desc := "()I" } : Jvm.MethodName) prog_23_method_4_code (1 : Nat) (Option.some Jvm.ClassFile.FieldType.int), Jvm.Cond.code ({ cls := "com/example/lexsign/lexsign/json/TextSpan", name := "hashCode", desc := "()I" } : Jvm.MethodName) prog_29_method_8_code (3 : Nat) (Option.some Jvm.ClassFile.FieldType.int), Jvm.Cond.code ({ cls := "java/lang/String", name := "charAt", desc := "(I)C" } : Jvm.MethodName) jdk_42_method_56_code (2 : Nat) (Option.some Jvm.ClassFile.FieldType.char), Jvm.Cond.code ({ cls := "java/lang/String", name := "isLatin1", desc := "()Z" } : Jvm.MethodName) jdk_42_method_154_code (1 : Nat) (Option.some Jvm.ClassFile.FieldType.boolean), Jvm.Cond.code ({ cls := "java/lang/StringLatin1", name := "charAt", desc := "([BI)C" } : Jvm.MethodName) jdk_43_method_2_code (2 : Nat) (Option.some Jvm.ClassFile.FieldType.char), Jvm.Cond.code ({ cls := "java/lang/String", name := "checkIndex", desc := "(II)V" } : Jvm.MethodName) jdk_42_method_155_code (2 : Nat) (Option.none : Option Jvm.ClassFile.FieldType), Jvm.Cond.code ({ cls := "jdk/internal/util/Preconditions", name := "checkIndex", desc := "(IILjava/util/function/BiFunction;)I" } : Jvm.MethodName) jdk_41_method_11_code (3 : Nat) (Option.some Jvm.ClassFile.FieldType.int), Jvm.Cond.code ({ cls := "java/lang/StringUTF16", name := "toBytes", desc := "([CII)[B" } : Jvm.MethodName) jdk_52_method_14_code (5 : Nat) (Option.some (Jvm.ClassFile.FieldType.array Jvm.ClassFile.FieldType.byte)), Jvm.Cond.code ({ cls := "java/lang/StringUTF16", name := "newBytesFor", desc := "(I)[B" } : Jvm.MethodName) jdk_52_method_2_code (1 : Nat) (Option.some (Jvm.ClassFile.FieldType.array Jvm.ClassFile.FieldType.byte)), Jvm.Cond.code ({ cls := "java/lang/StringUTF16", name := "newBytesLength", desc := "(I)I" } : Jvm.MethodName) jdk_52_method_3_code (1 : Nat) (Option.some Jvm.ClassFile.FieldType.int), Jvm.Cond.code ({ cls := "java/lang/StringUTF16", name := "putChar", desc := "([BII)V" } : Jvm.MethodName) jdk_52_method_4_code (3 : Nat) (Option.none : Option Jvm.ClassFile.FieldType), Jvm.Cond.code ({ cls := "java/lang/StringUTF16", name := "getChar", desc := "([BI)C" } : Jvm.MethodName) jdk_52_method_5_code (2 : Nat) (Option.some Jvm.ClassFile.FieldType.char), Jvm.Cond.code ({ cls := "java/lang/StringUTF16", name := "charAt", desc := "([BI)C" } : Jvm.MethodName) jdk_52_method_83_code (2 : Nat) (Option.some Jvm.ClassFile.FieldType.char), Jvm.Cond.code ({ cls := "java/lang/StringUTF16", name := "checkIndex", desc := "(I[B)V" } : Jvm.MethodName) jdk_52_method_91_code (2 : Nat) (Option.none : Option Jvm.ClassFile.FieldType), Jvm.Cond.code ({ cls := "java/lang/StringUTF16", name := "length", desc := "([B)I" } : Jvm.MethodName) jdk_52_method_6_code (1 : Nat) (Option.some Jvm.ClassFile.FieldType.int)]
set_option maxRecDepth 65536 in
theorem codes_eq : words1.filter isCode = codes1 := rfl
theorem w_codes : ∀ c ∈ words1.filter isCode, c.before args0 about1 = true := by
  rw [codes_eq]
  intro c hc
  simp only [codes1, List.mem_cons, List.not_mem_nil, or_false] at hc
  rcases hc with rfl | rfl | rfl | rfl | rfl | rfl | rfl | rfl | rfl | rfl | rfl | rfl | rfl | rfl | rfl | rfl | rfl | rfl | rfl | rfl | rfl | rfl | rfl | rfl | rfl | rfl | rfl | rfl | rfl
  · exact w_c0
  · exact w_c1
  · exact w_c2
  · exact w_c3
  · exact w_c4
  · exact w_c5
  · exact w_c6
  · exact w_c7
  · exact w_c8
  · exact w_c9
  · exact w_c10
  · exact w_c11
  · exact w_c12
  · exact w_c13
  · exact w_c14
  · exact w_c15
  · exact w_c16
  · exact w_c17
  · exact w_c18
  · exact w_c19
  · exact w_c20
  · exact w_c21
  · exact w_c22
  · exact w_c23
  · exact w_c24
  · exact w_c25
  · exact w_c26
  · exact w_c27
  · exact w_c28
set_option maxRecDepth 65536 in
theorem w_t1 : (words1.take 24).all (fun c => isCode c || c.before args0 about1) = true := by decide +kernel
set_option maxRecDepth 65536 in
theorem w_t2 : ((words1.drop 24).take 24).all (fun c => isCode c || c.before args0 about1) = true := by decide +kernel
set_option maxRecDepth 65536 in
theorem w_t3 : (((words1.drop 24).drop 24).take 24).all (fun c => isCode c || c.before args0 about1) = true := by decide +kernel
set_option maxRecDepth 65536 in
theorem w_t4 : ((((words1.drop 24).drop 24).drop 24).take 24).all (fun c => isCode c || c.before args0 about1) = true := by decide +kernel
set_option maxRecDepth 65536 in
theorem w_t5 : (((((words1.drop 24).drop 24).drop 24).drop 24).take 24).all (fun c => isCode c || c.before args0 about1) = true := by decide +kernel
set_option maxRecDepth 65536 in
theorem w_t6 : (((((words1.drop 24).drop 24).drop 24).drop 24).drop 24).all (fun c => isCode c || c.before args0 about1) = true := by decide +kernel
theorem w_tables : (allAtoms (Jvm.Cond.code x code maxLocals ret :: tables_1)).before args0 about1 = true := by
  rw [allAtoms_all]
  show words1.all (fun c => c.before args0 about1) = true
  refine all_split ?_ w_codes
  rw [← List.take_append_drop 24 words1, List.all_append, w_t1, ← List.take_append_drop 24 (words1.drop 24), List.all_append, w_t2, ← List.take_append_drop 24 ((words1.drop 24).drop 24), List.all_append, w_t3, ← List.take_append_drop 24 (((words1.drop 24).drop 24).drop 24), List.all_append, w_t4, ← List.take_append_drop 24 ((((words1.drop 24).drop 24).drop 24).drop 24), List.all_append, w_t5, w_t6]
  rfl
set_option maxRecDepth 65536 in
theorem w_rest : rest_1_c.before args0 about1 = true := by decide +kernel
set_option maxRecDepth 65536 in
theorem w_case : (Jvm.Cond.and given_1 narrow_1).before args0 about1 = true := by decide +kernel
theorem w_applies : (headSpec (Jvm.Cond.code x code maxLocals ret :: tables_1) room_1).applies x e0.platform about1 = true :=
  (Spec.applies_iff w_frames).mpr ⟨w_running, w_runnable, w_alone, w_named, w_hears, w_ripe, w_room, w_tables⟩
theorem atStart : AtStart classFile x code maxLocals ret World_1 tables_1 room_1 Calls_1 rest_1 Pre_1 launch0 p0 e0 about1 theMethod args0 below0 :=
  ⟨lists_1, trivial, launch0.admits_env _ _ _, launch0.least_env, fairChoices_fair.cas, fairChoices_fair.clock, w_frames, w_args, w_heap, w_applies, trivial, w_rest, w_case⟩
end start1
theorem witness_1 : WitnessClaimed_1 := ⟨start1.p0, start1.e0, start1.about1, start1.theMethod, start1.args0, start1.below0, start1.atStart⟩
end Jvm.Pilot.@@N@@
