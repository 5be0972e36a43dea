import JvmDerived
import JvmDerived.Pilot.@@N@@Statement
import JvmDerived.Pilot.@@N@@Code
set_option linter.unusedVariables false
set_option linter.unusedSimpArgs false
namespace Jvm.Pilot.@@N@@
open Jvm Jvm.ClassFile Sem Op Lib Jvm.Free Jvm.Stand Jvm.LawKit Jvm.RoadKit Bundle Jvm.Pilot.@@N@@.Jvm.D
section OwnKit
variable {p : Program} {l : Launch} {e : Env} {R : Room} {s : State} {m : MethodId} {args : Array Value} {below : List Frame} {meth : Method} {c : Code} {T T' : State} {locs : List Loc} {cells slots : Nat} {P : Outcome → State → Prop} {Q : Option Value → Heap → List Loc → Prop} {cC cS : Nat} {bytes : ByteArray} {ls : Array Slot} {st : List Value} {pc pc' : Nat} {g g' : JFrame} {Z : State} {a0 : Array Value} {h h' : Heap}
/-- from this state and frame the method comes to its end, returns, and Q holds of what it leaves -/
def own_Got (p : Program) (e : Env) (below : List Frame) (P : Outcome → State → Prop) (T : State) (g : JFrame) : Prop :=
  ∃ s₂ o, Steps p.tables e below (T.setTop g) s₂ ∧ s₂.status = .running ∧ Ended s₂ below o ∧ P o s₂
/-- what a contract says of the end -/
def own_End (s : State) (Q : Option Value → Heap → List Loc → Prop) (cC cS : Nat) (o : Outcome) (U : State) : Prop := ∃ v L, o = .returned v ∧ Q v U.heap L ∧ FrameEnd s o U L cC cS
theorem own_go (k : ∀ t, Steps p.tables e below (T'.setTop g') t → Steps p.tables e below (T.setTop g) t) (h : own_Got p e below P T' g') : own_Got p e below P T g := by
  obtain ⟨s2, o, h1, h2⟩ := h; exact ⟨s2, o, k _ h1, h2⟩
theorem own_tr (k : Steps p.tables e below (T.setTop g) (T'.setTop g')) (h : own_Got p e below P T' g') : own_Got p e below P T g := own_go (fun _ q => k.trans q) h
theorem own_cast (q : g = g') (h : own_Got p e below P T g') : own_Got p e below P T g := q ▸ h
theorem own_retV (X : Stand p l e R s m args below meth c T locs cells slots) (hx : p.tables.exec = Jvm.exec) (hby : c.code = bytes) (hlk : meth.locks = false) (hret : meth.sig.returnType = none) (hd : decode bytes pc = .ok (.return_, 1)) (hc : cells ≤ cC) (hs : slots ≤ cS)
    (hq : Q none T.heap locs) : own_Got p e below (own_End s Q cC cS) T (mkF m pc ls []) := by
  obtain ⟨fs, hr, hrun, hended, hW, hsame⟩ := X.leave (v := none) (fun _ => rfl) hlk
  exact ⟨_, _, X.returnOut hx hret (hb hby hd) hr, hrun, hended, _, _, rfl, hq, ⟨_, rfl⟩, hW, hsame.mono hc hs⟩
theorem own_retI (X : Stand p l e R s m args below meth c T locs cells slots) (hx : p.tables.exec = Jvm.exec) (hby : c.code = bytes) (hlk : meth.locks = false) (hret : meth.sig.returnType = some .int) (hd : decode bytes pc = .ok (.ireturn, 1)) (hc : cells ≤ cC) (hs : slots ≤ cS) {z : Int32}
    (hq : Q (some (.int z)) T.heap locs) : own_Got p e below (own_End s Q cC cS) T (mkF m pc ls (.int z :: st)) := by
  obtain ⟨fs, hr, hrun, hended, hW, hsame⟩ := X.leave (v := some (.int z)) (fun h => by rw [hret] at h; cases h) hlk
  exact ⟨_, _, retOut X hx hret rfl (Or.inl ⟨rfl, Or.inl rfl, _, rfl⟩) (hb hby hd) hr, hrun, hended, _, _, rfl, hq, ⟨_, rfl⟩, hW, hsame.mono hc hs⟩
theorem own_retL (X : Stand p l e R s m args below meth c T locs cells slots) (hx : p.tables.exec = Jvm.exec) (hby : c.code = bytes) (hlk : meth.locks = false) (hret : meth.sig.returnType = some .long) (hd : decode bytes pc = .ok (.lreturn, 1)) (hc : cells ≤ cC) (hs : slots ≤ cS) {z : Int64}
    (hq : Q (some (.long z)) T.heap locs) : own_Got p e below (own_End s Q cC cS) T (mkF m pc ls (.long z :: st)) := by
  obtain ⟨fs, hr, hrun, hended, hW, hsame⟩ := X.leave (v := some (.long z)) (fun h => by rw [hret] at h; cases h) hlk
  exact ⟨_, _, retOut X hx hret rfl (Or.inr (Or.inl ⟨rfl, rfl, _, rfl⟩)) (hb hby hd) hr, hrun, hended, _, _, rfl, hq, ⟨_, rfl⟩, hW, hsame.mono hc hs⟩
theorem own_retD (X : Stand p l e R s m args below meth c T locs cells slots) (hx : p.tables.exec = Jvm.exec) (hby : c.code = bytes) (hlk : meth.locks = false) (hret : meth.sig.returnType = some .double) (hd : decode bytes pc = .ok (.dreturn, 1)) (hc : cells ≤ cC) (hs : slots ≤ cS) {z : UInt64}
    (hq : Q (some (.double z)) T.heap locs) : own_Got p e below (own_End s Q cC cS) T (mkF m pc ls (.double z :: st)) := by
  obtain ⟨fs, hr, hrun, hended, hW, hsame⟩ := X.leave (v := some (.double z)) (fun h => by rw [hret] at h; cases h) hlk
  exact ⟨_, _, retOut X hx hret rfl (Or.inr (Or.inr (Or.inl ⟨rfl, rfl, _, rfl⟩))) (hb hby hd) hr, hrun, hended, _, _, rfl, hq, ⟨_, rfl⟩, hW, hsame.mono hc hs⟩
theorem own_retN (X : Stand p l e R s m args below meth c T locs cells slots) (hx : p.tables.exec = Jvm.exec) (hby : c.code = bytes) (hlk : meth.locks = false) {t : FieldType} (hret : meth.sig.returnType = some t) (ht : t = .boolean ∨ t = .byte ∨ t = .char ∨ t = .short) (hd : decode bytes pc = .ok (.ireturn, 1)) (hc : cells ≤ cC) (hs : slots ≤ cS) {z : Int32}
    (hq : Q (some (.int (nar t z))) T.heap locs) : own_Got p e below (own_End s Q cC cS) T (mkF m pc ls (.int z :: st)) := by
  obtain ⟨fs, hr, hrun, hended, hW, hsame⟩ := X.leave (v := some (.int (nar t z))) (fun h => by rw [hret] at h; cases h) hlk
  exact ⟨_, _, retN X hx hret ht (hb hby hd) hr, hrun, hended, _, _, rfl, hq, ⟨_, rfl⟩, hW, hsame.mono hc hs⟩
theorem own_retR (X : Stand p l e R s m args below meth c T locs cells slots) (hx : p.tables.exec = Jvm.exec) (hby : c.code = bytes) (hlk : meth.locks = false) {t : FieldType} (hret : meth.sig.returnType = some t) (ht : t.isReference = true) (hd : decode bytes pc = .ok (.areturn, 1)) (hc : cells ≤ cC) (hs : slots ≤ cS) {w : Value} (hw : w.isRef = true)
    (hq : Q (some w) T.heap locs) : own_Got p e below (own_End s Q cC cS) T (mkF m pc ls (w :: st)) := by
  obtain ⟨fs, hr, hrun, hended, hW, hsame⟩ := X.leave (v := some w) (fun h => by rw [hret] at h; cases h) hlk
  have hn : narrow t w = w := by rcases ref_cases hw with rfl | ⟨a, rfl⟩ <;> cases t <;> first | rfl | (cases ht)
  exact ⟨_, _, retOut X hx hret hn (Or.inr (Or.inr (Or.inr (Or.inr ⟨rfl, ht, hw⟩)))) (hb hby hd) hr, hrun, hended, _, _, rfl, hq, ⟨_, rfl⟩, hW, hsame.mono hc hs⟩
theorem g_iloadN (X : Stand p l e R s m args below meth c T locs cells slots) (hx : p.tables.exec = Jvm.exec) (hby : c.code = bytes) {k : Fin 4} {v : Int32} (hd : decode bytes pc = .ok (.iload_n k, 1)) (hl : ls[k.val]? = some (.val (.int v))) (hp : pc + 1 = pc')
    (k : own_Got p e below P T (mkF m pc' ls (.int v :: st))) : own_Got p e below P T (mkF m pc ls (st)) := by
  subst hp; exact own_go (fun _ q => XS.iloadN X.here hx rfl (hb hby hd) hl q) k
theorem g_iload (X : Stand p l e R s m args below meth c T locs cells slots) (hx : p.tables.exec = Jvm.exec) (hby : c.code = bytes) {k : Nat} {v : Int32} (hd : decode bytes pc = .ok (.iload k, 2)) (hl : ls[k]? = some (.val (.int v))) (hp : pc + 2 = pc')
    (k : own_Got p e below P T (mkF m pc' ls (.int v :: st))) : own_Got p e below P T (mkF m pc ls (st)) := by
  subst hp; exact own_go (fun _ q => XS.iload X.here hx rfl (hb hby hd) hl q) k
theorem g_lloadN (X : Stand p l e R s m args below meth c T locs cells slots) (hx : p.tables.exec = Jvm.exec) (hby : c.code = bytes) {k : Fin 4} {v : Int64} (hd : decode bytes pc = .ok (.lload_n k, 1)) (hl : ls[k.val]? = some (.val (.long v))) (hp : pc + 1 = pc')
    (k : own_Got p e below P T (mkF m pc' ls (.long v :: st))) : own_Got p e below P T (mkF m pc ls (st)) := by
  subst hp; exact own_go (fun _ q => XS.lloadN X.here hx rfl (hb hby hd) hl q) k
theorem g_lload (X : Stand p l e R s m args below meth c T locs cells slots) (hx : p.tables.exec = Jvm.exec) (hby : c.code = bytes) {k : Nat} {v : Int64} (hd : decode bytes pc = .ok (.lload k, 2)) (hl : ls[k]? = some (.val (.long v))) (hp : pc + 2 = pc')
    (k : own_Got p e below P T (mkF m pc' ls (.long v :: st))) : own_Got p e below P T (mkF m pc ls (st)) := by
  subst hp; exact own_go (fun _ q => XS.lload X.here hx rfl (hb hby hd) hl q) k
theorem g_dloadN (X : Stand p l e R s m args below meth c T locs cells slots) (hx : p.tables.exec = Jvm.exec) (hby : c.code = bytes) {k : Fin 4} {v : UInt64} (hd : decode bytes pc = .ok (.dload_n k, 1)) (hl : ls[k.val]? = some (.val (.double v))) (hp : pc + 1 = pc')
    (k : own_Got p e below P T (mkF m pc' ls (.double v :: st))) : own_Got p e below P T (mkF m pc ls (st)) := by
  subst hp; exact own_go (fun _ q => XS.dloadN X.here hx rfl (hb hby hd) hl q) k
theorem g_dload (X : Stand p l e R s m args below meth c T locs cells slots) (hx : p.tables.exec = Jvm.exec) (hby : c.code = bytes) {k : Nat} {v : UInt64} (hd : decode bytes pc = .ok (.dload k, 2)) (hl : ls[k]? = some (.val (.double v))) (hp : pc + 2 = pc')
    (k : own_Got p e below P T (mkF m pc' ls (.double v :: st))) : own_Got p e below P T (mkF m pc ls (st)) := by
  subst hp; exact own_go (fun _ q => XS.dload X.here hx rfl (hb hby hd) hl q) k
theorem g_aloadN (X : Stand p l e R s m args below meth c T locs cells slots) (hx : p.tables.exec = Jvm.exec) (hby : c.code = bytes) {k : Fin 4} {v : Value} (hd : decode bytes pc = .ok (.aload_n k, 1)) (hl : ls[k.val]? = some (.val v)) (hv : v.isRef = true) (hp : pc + 1 = pc')
    (k : own_Got p e below P T (mkF m pc' ls (v :: st))) : own_Got p e below P T (mkF m pc ls (st)) := by
  subst hp; exact own_go (fun _ q => XS.aloadN X.here hx rfl (hb hby hd) hl hv q) k
theorem g_aload (X : Stand p l e R s m args below meth c T locs cells slots) (hx : p.tables.exec = Jvm.exec) (hby : c.code = bytes) {k : Nat} {v : Value} (hd : decode bytes pc = .ok (.aload k, 2)) (hl : ls[k]? = some (.val v)) (hv : v.isRef = true) (hp : pc + 2 = pc')
    (k : own_Got p e below P T (mkF m pc' ls (v :: st))) : own_Got p e below P T (mkF m pc ls (st)) := by
  subst hp; exact own_go (fun _ q => XS.aload X.here hx rfl (hb hby hd) hl hv q) k
theorem g_istoreN (X : Stand p l e R s m args below meth c T locs cells slots) (hx : p.tables.exec = Jvm.exec) (hby : c.code = bytes) {k : Fin 4} {x : Int32} (ls' : Array Slot) (hd : decode bytes pc = .ok (.istore_n k, 1)) (hl : storeLocals ls k.val (.int x) = some ls') (hp : pc + 1 = pc')
    (k : own_Got p e below P T (mkF m pc' ls' (st))) : own_Got p e below P T (mkF m pc ls (.int x :: st)) := by
  subst hp; exact own_go (fun _ q => XS.istoreN X.here hx rfl (hb hby hd) rfl hl q) k
theorem g_istore (X : Stand p l e R s m args below meth c T locs cells slots) (hx : p.tables.exec = Jvm.exec) (hby : c.code = bytes) {k : Nat} {x : Int32} (ls' : Array Slot) (hd : decode bytes pc = .ok (.istore k, 2)) (hl : storeLocals ls k (.int x) = some ls') (hp : pc + 2 = pc')
    (k : own_Got p e below P T (mkF m pc' ls' (st))) : own_Got p e below P T (mkF m pc ls (.int x :: st)) := by
  subst hp; exact own_go (fun _ q => XS.istore X.here hx rfl (hb hby hd) rfl hl q) k
theorem g_lstoreN (X : Stand p l e R s m args below meth c T locs cells slots) (hx : p.tables.exec = Jvm.exec) (hby : c.code = bytes) {k : Fin 4} {x : Int64} (ls' : Array Slot) (hd : decode bytes pc = .ok (.lstore_n k, 1)) (hl : storeLocals ls k.val (.long x) = some ls') (hp : pc + 1 = pc')
    (k : own_Got p e below P T (mkF m pc' ls' (st))) : own_Got p e below P T (mkF m pc ls (.long x :: st)) := by
  subst hp; exact own_go (fun _ q => XS.lstoreN X.here hx rfl (hb hby hd) rfl hl q) k
theorem g_lstore (X : Stand p l e R s m args below meth c T locs cells slots) (hx : p.tables.exec = Jvm.exec) (hby : c.code = bytes) {k : Nat} {x : Int64} (ls' : Array Slot) (hd : decode bytes pc = .ok (.lstore k, 2)) (hl : storeLocals ls k (.long x) = some ls') (hp : pc + 2 = pc')
    (k : own_Got p e below P T (mkF m pc' ls' (st))) : own_Got p e below P T (mkF m pc ls (.long x :: st)) := by
  subst hp; exact own_go (fun _ q => XS.lstore X.here hx rfl (hb hby hd) rfl hl q) k
theorem g_dstoreN (X : Stand p l e R s m args below meth c T locs cells slots) (hx : p.tables.exec = Jvm.exec) (hby : c.code = bytes) {k : Fin 4} {x : UInt64} (ls' : Array Slot) (hd : decode bytes pc = .ok (.dstore_n k, 1)) (hl : storeLocals ls k.val (.double x) = some ls') (hp : pc + 1 = pc')
    (k : own_Got p e below P T (mkF m pc' ls' (st))) : own_Got p e below P T (mkF m pc ls (.double x :: st)) := by
  subst hp; exact own_go (fun _ q => XS.dstoreN X.here hx rfl (hb hby hd) rfl hl q) k
theorem g_dstore (X : Stand p l e R s m args below meth c T locs cells slots) (hx : p.tables.exec = Jvm.exec) (hby : c.code = bytes) {k : Nat} {x : UInt64} (ls' : Array Slot) (hd : decode bytes pc = .ok (.dstore k, 2)) (hl : storeLocals ls k (.double x) = some ls') (hp : pc + 2 = pc')
    (k : own_Got p e below P T (mkF m pc' ls' (st))) : own_Got p e below P T (mkF m pc ls (.double x :: st)) := by
  subst hp; exact own_go (fun _ q => XS.dstore X.here hx rfl (hb hby hd) rfl hl q) k
theorem g_astoreN (X : Stand p l e R s m args below meth c T locs cells slots) (hx : p.tables.exec = Jvm.exec) (hby : c.code = bytes) {k : Fin 4} {x : Value} (ls' : Array Slot) (hd : decode bytes pc = .ok (.astore_n k, 1)) (hv : x.isRef = true) (hl : storeLocals ls k.val x = some ls') (hp : pc + 1 = pc')
    (k : own_Got p e below P T (mkF m pc' ls' (st))) : own_Got p e below P T (mkF m pc ls (x :: st)) := by
  subst hp; exact own_go (fun _ q => XS.astoreN X.here hx rfl (hb hby hd) rfl hv hl q) k
theorem g_astore (X : Stand p l e R s m args below meth c T locs cells slots) (hx : p.tables.exec = Jvm.exec) (hby : c.code = bytes) {k : Nat} {x : Value} (ls' : Array Slot) (hd : decode bytes pc = .ok (.astore k, 2)) (hv : x.isRef = true) (hl : storeLocals ls k x = some ls') (hp : pc + 2 = pc')
    (k : own_Got p e below P T (mkF m pc' ls' (st))) : own_Got p e below P T (mkF m pc ls (x :: st)) := by
  subst hp; exact own_go (fun _ q => XS.astore X.here hx rfl (hb hby hd) rfl hv hl q) k
theorem g_iconst (X : Stand p l e R s m args below meth c T locs cells slots) (hx : p.tables.exec = Jvm.exec) (hby : c.code = bytes) {i : Int} (z : Int32) (hd : decode bytes pc = .ok (.iconst i, 1)) (hz : Int32.ofInt i = z) (hp : pc + 1 = pc')
    (k : own_Got p e below P T (mkF m pc' ls (.int z :: st))) : own_Got p e below P T (mkF m pc ls (st)) := by
  subst hp; subst hz; exact own_go (fun _ q => XS.iconst X.here hx rfl (hb hby hd) q) k
theorem g_bipush (X : Stand p l e R s m args below meth c T locs cells slots) (hx : p.tables.exec = Jvm.exec) (hby : c.code = bytes) {i : Int} (z : Int32) (hd : decode bytes pc = .ok (.bipush i, 2)) (hz : (Int8.ofInt i).toInt32 = z) (hp : pc + 2 = pc')
    (k : own_Got p e below P T (mkF m pc' ls (.int z :: st))) : own_Got p e below P T (mkF m pc ls (st)) := by
  subst hp; subst hz; exact own_go (fun _ q => XS.bipush X.here hx rfl (hb hby hd) q) k
theorem g_sipush (X : Stand p l e R s m args below meth c T locs cells slots) (hx : p.tables.exec = Jvm.exec) (hby : c.code = bytes) {i : Int} (z : Int32) (hd : decode bytes pc = .ok (.sipush i, 3)) (hz : (Int16.ofInt i).toInt32 = z) (hp : pc + 3 = pc')
    (k : own_Got p e below P T (mkF m pc' ls (.int z :: st))) : own_Got p e below P T (mkF m pc ls (st)) := by
  subst hp; subst hz; exact own_go (fun _ q => XS.sipush X.here hx rfl (hb hby hd) q) k
theorem g_lconst (X : Stand p l e R s m args below meth c T locs cells slots) (hx : p.tables.exec = Jvm.exec) (hby : c.code = bytes) {i : Fin 2} (z : Int64) (hd : decode bytes pc = .ok (.lconst i, 1)) (hz : Int64.ofNat i.val = z) (hp : pc + 1 = pc')
    (k : own_Got p e below P T (mkF m pc' ls (.long z :: st))) : own_Got p e below P T (mkF m pc ls (st)) := by
  subst hp; subst hz; exact own_go (fun _ q => XS.lconst X.here hx rfl (hb hby hd) q) k
theorem g_anull (X : Stand p l e R s m args below meth c T locs cells slots) (hx : p.tables.exec = Jvm.exec) (hby : c.code = bytes)  (hd : decode bytes pc = .ok (.aconst_null, 1))  (hp : pc + 1 = pc')
    (k : own_Got p e below P T (mkF m pc' ls (.null :: st))) : own_Got p e below P T (mkF m pc ls (st)) := by
  subst hp; exact own_go (fun _ q => XS.aconstNull X.here hx rfl (hb hby hd) q) k
theorem g_iadd (X : Stand p l e R s m args below meth c T locs cells slots) (hx : p.tables.exec = Jvm.exec) (hby : c.code = bytes) {x y : Int32} (hd : decode bytes pc = .ok (.iadd, 1))  (hp : pc + 1 = pc')
    (k : own_Got p e below P T (mkF m pc' ls (.int (x + y) :: st))) : own_Got p e below P T (mkF m pc ls (.int y :: .int x :: st)) := by
  subst hp; exact own_go (fun _ q => XS.iadd X.here hx rfl (hb hby hd) rfl q) k
theorem g_isub (X : Stand p l e R s m args below meth c T locs cells slots) (hx : p.tables.exec = Jvm.exec) (hby : c.code = bytes) {x y : Int32} (hd : decode bytes pc = .ok (.isub, 1))  (hp : pc + 1 = pc')
    (k : own_Got p e below P T (mkF m pc' ls (.int (x - y) :: st))) : own_Got p e below P T (mkF m pc ls (.int y :: .int x :: st)) := by
  subst hp; exact own_go (fun _ q => XS.isub X.here hx rfl (hb hby hd) rfl q) k
theorem g_iand (X : Stand p l e R s m args below meth c T locs cells slots) (hx : p.tables.exec = Jvm.exec) (hby : c.code = bytes) {x y : Int32} (hd : decode bytes pc = .ok (.iand, 1))  (hp : pc + 1 = pc')
    (k : own_Got p e below P T (mkF m pc' ls (.int (x &&& y) :: st))) : own_Got p e below P T (mkF m pc ls (.int y :: .int x :: st)) := by
  subst hp; exact own_go (fun _ q => XS.iand X.here hx rfl (hb hby hd) rfl q) k
theorem g_ior (X : Stand p l e R s m args below meth c T locs cells slots) (hx : p.tables.exec = Jvm.exec) (hby : c.code = bytes) {x y : Int32} (hd : decode bytes pc = .ok (.ior, 1))  (hp : pc + 1 = pc')
    (k : own_Got p e below P T (mkF m pc' ls (.int (x ||| y) :: st))) : own_Got p e below P T (mkF m pc ls (.int y :: .int x :: st)) := by
  subst hp; exact own_go (fun _ q => XS.ior X.here hx rfl (hb hby hd) rfl q) k
theorem g_ixor (X : Stand p l e R s m args below meth c T locs cells slots) (hx : p.tables.exec = Jvm.exec) (hby : c.code = bytes) {x y : Int32} (hd : decode bytes pc = .ok (.ixor, 1))  (hp : pc + 1 = pc')
    (k : own_Got p e below P T (mkF m pc' ls (.int (x ^^^ y) :: st))) : own_Got p e below P T (mkF m pc ls (.int y :: .int x :: st)) := by
  subst hp; exact own_go (fun _ q => XS.ixor X.here hx rfl (hb hby hd) rfl q) k
theorem g_imul (X : Stand p l e R s m args below meth c T locs cells slots) (hx : p.tables.exec = Jvm.exec) (hby : c.code = bytes) {x y : Int32} (hd : decode bytes pc = .ok (.imul, 1))  (hp : pc + 1 = pc')
    (k : own_Got p e below P T (mkF m pc' ls (.int (x * y) :: st))) : own_Got p e below P T (mkF m pc ls (.int y :: .int x :: st)) := by
  subst hp; exact own_go (fun _ q => XS.imul X.here hx rfl (hb hby hd) rfl q) k
theorem g_ladd (X : Stand p l e R s m args below meth c T locs cells slots) (hx : p.tables.exec = Jvm.exec) (hby : c.code = bytes) {x y : Int64} (hd : decode bytes pc = .ok (.ladd, 1))  (hp : pc + 1 = pc')
    (k : own_Got p e below P T (mkF m pc' ls (.long (x + y) :: st))) : own_Got p e below P T (mkF m pc ls (.long y :: .long x :: st)) := by
  subst hp; exact own_go (fun _ q => XS.ladd X.here hx rfl (hb hby hd) rfl q) k
theorem g_lsub (X : Stand p l e R s m args below meth c T locs cells slots) (hx : p.tables.exec = Jvm.exec) (hby : c.code = bytes) {x y : Int64} (hd : decode bytes pc = .ok (.lsub, 1))  (hp : pc + 1 = pc')
    (k : own_Got p e below P T (mkF m pc' ls (.long (x - y) :: st))) : own_Got p e below P T (mkF m pc ls (.long y :: .long x :: st)) := by
  subst hp; exact own_go (fun _ q => XS.lsub X.here hx rfl (hb hby hd) rfl q) k
theorem g_land (X : Stand p l e R s m args below meth c T locs cells slots) (hx : p.tables.exec = Jvm.exec) (hby : c.code = bytes) {x y : Int64} (hd : decode bytes pc = .ok (.land, 1))  (hp : pc + 1 = pc')
    (k : own_Got p e below P T (mkF m pc' ls (.long (x &&& y) :: st))) : own_Got p e below P T (mkF m pc ls (.long y :: .long x :: st)) := by
  subst hp; exact own_go (fun _ q => XS.land X.here hx rfl (hb hby hd) rfl q) k
theorem g_lor (X : Stand p l e R s m args below meth c T locs cells slots) (hx : p.tables.exec = Jvm.exec) (hby : c.code = bytes) {x y : Int64} (hd : decode bytes pc = .ok (.lor, 1))  (hp : pc + 1 = pc')
    (k : own_Got p e below P T (mkF m pc' ls (.long (x ||| y) :: st))) : own_Got p e below P T (mkF m pc ls (.long y :: .long x :: st)) := by
  subst hp; exact own_go (fun _ q => XS.lor X.here hx rfl (hb hby hd) rfl q) k
theorem g_lxor (X : Stand p l e R s m args below meth c T locs cells slots) (hx : p.tables.exec = Jvm.exec) (hby : c.code = bytes) {x y : Int64} (hd : decode bytes pc = .ok (.lxor, 1))  (hp : pc + 1 = pc')
    (k : own_Got p e below P T (mkF m pc' ls (.long (x ^^^ y) :: st))) : own_Got p e below P T (mkF m pc ls (.long y :: .long x :: st)) := by
  subst hp; exact own_go (fun _ q => XS.lxor X.here hx rfl (hb hby hd) rfl q) k
theorem g_lmul (X : Stand p l e R s m args below meth c T locs cells slots) (hx : p.tables.exec = Jvm.exec) (hby : c.code = bytes) {x y : Int64} (hd : decode bytes pc = .ok (.lmul, 1))  (hp : pc + 1 = pc')
    (k : own_Got p e below P T (mkF m pc' ls (.long (x * y) :: st))) : own_Got p e below P T (mkF m pc ls (.long y :: .long x :: st)) := by
  subst hp; exact own_go (fun _ q => XS.lmul X.here hx rfl (hb hby hd) rfl q) k
theorem g_idiv (X : Stand p l e R s m args below meth c T locs cells slots) (hx : p.tables.exec = Jvm.exec) (hby : c.code = bytes) {x y : Int32} (hd : decode bytes pc = .ok (.idiv, 1)) (hy : y ≠ 0) (hp : pc + 1 = pc')
    (k : own_Got p e below P T (mkF m pc' ls (.int (x / y) :: st))) : own_Got p e below P T (mkF m pc ls (.int y :: .int x :: st)) := by
  subst hp; exact own_go (fun _ q => XS.idiv X.here hx rfl (hb hby hd) rfl hy q) k
theorem g_irem (X : Stand p l e R s m args below meth c T locs cells slots) (hx : p.tables.exec = Jvm.exec) (hby : c.code = bytes) {x y : Int32} (hd : decode bytes pc = .ok (.irem, 1)) (hy : y ≠ 0) (hp : pc + 1 = pc')
    (k : own_Got p e below P T (mkF m pc' ls (.int (x % y) :: st))) : own_Got p e below P T (mkF m pc ls (.int y :: .int x :: st)) := by
  subst hp; exact own_go (fun _ q => iremM X hx rfl (hb hby hd) rfl hy q) k
theorem g_ishl (X : Stand p l e R s m args below meth c T locs cells slots) (hx : p.tables.exec = Jvm.exec) (hby : c.code = bytes) {x y : Int32} (hd : decode bytes pc = .ok (.ishl, 1))  (hp : pc + 1 = pc')
    (k : own_Got p e below P T (mkF m pc' ls (.int (x <<< (y &&& 31)) :: st))) : own_Got p e below P T (mkF m pc ls (.int y :: .int x :: st)) := by
  subst hp; exact own_go (fun _ q => XS.ishl X.here hx rfl (hb hby hd) rfl q) k
theorem g_ishr (X : Stand p l e R s m args below meth c T locs cells slots) (hx : p.tables.exec = Jvm.exec) (hby : c.code = bytes) {x y : Int32} (hd : decode bytes pc = .ok (.ishr, 1))  (hp : pc + 1 = pc')
    (k : own_Got p e below P T (mkF m pc' ls (.int (x >>> (y &&& 31)) :: st))) : own_Got p e below P T (mkF m pc ls (.int y :: .int x :: st)) := by
  subst hp; exact own_go (fun _ q => XS.ishr X.here hx rfl (hb hby hd) rfl q) k
theorem g_iushr (X : Stand p l e R s m args below meth c T locs cells slots) (hx : p.tables.exec = Jvm.exec) (hby : c.code = bytes) {x y : Int32} (hd : decode bytes pc = .ok (.iushr, 1))  (hp : pc + 1 = pc')
    (k : own_Got p e below P T (mkF m pc' ls (.int ((x.toUInt32 >>> (y &&& 31).toUInt32).toInt32) :: st))) : own_Got p e below P T (mkF m pc ls (.int y :: .int x :: st)) := by
  subst hp; exact own_go (fun _ q => XS.iushr X.here hx rfl (hb hby hd) rfl q) k
theorem g_ineg (X : Stand p l e R s m args below meth c T locs cells slots) (hx : p.tables.exec = Jvm.exec) (hby : c.code = bytes) {x : Int32} (hd : decode bytes pc = .ok (.ineg, 1))  (hp : pc + 1 = pc')
    (k : own_Got p e below P T (mkF m pc' ls (.int (-x) :: st))) : own_Got p e below P T (mkF m pc ls (.int x :: st)) := by
  subst hp; exact own_go (fun _ q => XS.ineg X.here hx rfl (hb hby hd) rfl q) k
theorem g_i2b (X : Stand p l e R s m args below meth c T locs cells slots) (hx : p.tables.exec = Jvm.exec) (hby : c.code = bytes) {x : Int32} (hd : decode bytes pc = .ok (.i2b, 1))  (hp : pc + 1 = pc')
    (k : own_Got p e below P T (mkF m pc' ls (.int x.toInt8.toInt32 :: st))) : own_Got p e below P T (mkF m pc ls (.int x :: st)) := by
  subst hp; exact own_go (fun _ q => XS.i2b X.here hx rfl (hb hby hd) rfl q) k
theorem g_i2s (X : Stand p l e R s m args below meth c T locs cells slots) (hx : p.tables.exec = Jvm.exec) (hby : c.code = bytes) {x : Int32} (hd : decode bytes pc = .ok (.i2s, 1))  (hp : pc + 1 = pc')
    (k : own_Got p e below P T (mkF m pc' ls (.int x.toInt16.toInt32 :: st))) : own_Got p e below P T (mkF m pc ls (.int x :: st)) := by
  subst hp; exact own_go (fun _ q => XS.i2s X.here hx rfl (hb hby hd) rfl q) k
theorem g_i2c (X : Stand p l e R s m args below meth c T locs cells slots) (hx : p.tables.exec = Jvm.exec) (hby : c.code = bytes) {x : Int32} (hd : decode bytes pc = .ok (.i2c, 1))  (hp : pc + 1 = pc')
    (k : own_Got p e below P T (mkF m pc' ls (.int x.toUInt32.toUInt16.toUInt32.toInt32 :: st))) : own_Got p e below P T (mkF m pc ls (.int x :: st)) := by
  subst hp; exact own_go (fun _ q => XS.i2c X.here hx rfl (hb hby hd) rfl q) k
theorem g_i2l (X : Stand p l e R s m args below meth c T locs cells slots) (hx : p.tables.exec = Jvm.exec) (hby : c.code = bytes) {x : Int32} (hd : decode bytes pc = .ok (.i2l, 1))  (hp : pc + 1 = pc')
    (k : own_Got p e below P T (mkF m pc' ls (.long x.toInt64 :: st))) : own_Got p e below P T (mkF m pc ls (.int x :: st)) := by
  subst hp; exact own_go (fun _ q => XS.i2l X.here hx rfl (hb hby hd) rfl q) k
theorem g_lcmp (X : Stand p l e R s m args below meth c T locs cells slots) (hx : p.tables.exec = Jvm.exec) (hby : c.code = bytes) {x y : Int64} (hd : decode bytes pc = .ok (.lcmp, 1))  (hp : pc + 1 = pc')
    (k : own_Got p e below P T (mkF m pc' ls (.int (lcmpW x y) :: st))) : own_Got p e below P T (mkF m pc ls (.long y :: .long x :: st)) := by
  subst hp; exact own_go (fun _ q => XS.lcmp X.here hx rfl (hb hby hd) rfl q) k
theorem g_iinc (X : Stand p l e R s m args below meth c T locs cells slots) (hx : p.tables.exec = Jvm.exec) (hby : c.code = bytes) {k : Nat} {cst : Int} {x : Int32} (ls' : Array Slot) (hd : decode bytes pc = .ok (.iinc k cst, 3)) (hl : ls[k]? = some (.val (.int x))) (hl' : storeLocals ls k (.int (x + Int32.ofInt cst)) = some ls') (hp : pc + 3 = pc')
    (k : own_Got p e below P T (mkF m pc' ls' (st))) : own_Got p e below P T (mkF m pc ls (st)) := by
  subst hp; exact own_go (fun _ q => XS.iinc X.here hx rfl (hb hby hd) hl hl' q) k
theorem g_dup (X : Stand p l e R s m args below meth c T locs cells slots) (hx : p.tables.exec = Jvm.exec) (hby : c.code = bytes) {x : Value} (hd : decode bytes pc = .ok (.dup, 1)) (hc : x.category = 1) (hp : pc + 1 = pc')
    (k : own_Got p e below P T (mkF m pc' ls (x :: x :: st))) : own_Got p e below P T (mkF m pc ls (x :: st)) := by
  subst hp; exact own_go (fun _ q => XS.dup X.here hx rfl (hb hby hd) rfl hc q) k
theorem g_dupX1 (X : Stand p l e R s m args below meth c T locs cells slots) (hx : p.tables.exec = Jvm.exec) (hby : c.code = bytes) {x y : Value} (hd : decode bytes pc = .ok (.dup_x1, 1)) (hc : x.category = 1) (hc2 : y.category = 1) (hp : pc + 1 = pc')
    (k : own_Got p e below P T (mkF m pc' ls (x :: y :: x :: st))) : own_Got p e below P T (mkF m pc ls (x :: y :: st)) := by
  subst hp; exact own_go (fun _ q => XS.dupX1 X.here hx rfl (hb hby hd) rfl hc hc2 q) k
theorem g_pop (X : Stand p l e R s m args below meth c T locs cells slots) (hx : p.tables.exec = Jvm.exec) (hby : c.code = bytes) {x : Value} (hd : decode bytes pc = .ok (.pop, 1)) (hc : x.category = 1) (hp : pc + 1 = pc')
    (k : own_Got p e below P T (mkF m pc' ls (st))) : own_Got p e below P T (mkF m pc ls (x :: st)) := by
  subst hp; exact own_go (fun _ q => XS.pop X.here hx rfl (hb hby hd) rfl hc q) k
theorem g_dup2 (X : Stand p l e R s m args below meth c T locs cells slots) (hx : p.tables.exec = Jvm.exec) (hby : c.code = bytes) {x y : Value} (hd : decode bytes pc = .ok (.dup2, 1)) (hc : x.category = 1) (hc2 : y.category = 1) (hp : pc + 1 = pc')
    (k : own_Got p e below P T (mkF m pc' ls (x :: y :: x :: y :: st))) : own_Got p e below P T (mkF m pc ls (x :: y :: st)) := by
  subst hp; exact own_go (fun _ q => XT.dup2 X.here hx rfl (hb hby hd) rfl hc hc2 q) k
theorem g_goto (X : Stand p l e R s m args below meth c T locs cells slots) (hx : p.tables.exec = Jvm.exec) (hby : c.code = bytes) {o : Int} (hd : decode bytes pc = .ok (.goto o, 3))  (ho : 0 ≤ (pc : Int) + o) (hp : ((pc : Int) + o).toNat = pc')
    (k : own_Got p e below P T (mkF m pc' ls (st))) : own_Got p e below P T (mkF m pc ls (st)) := by
  exact own_go (fun _ q => XS.goto X.here hx rfl rfl (hb hby hd) ho hp q) k
theorem g_ifT (X : Stand p l e R s m args below meth c T locs cells slots) (hx : p.tables.exec = Jvm.exec) (hby : c.code = bytes) {cd : ClassFile.Cond} {x : Int32} {o : Int} (hd : decode bytes pc = .ok (.ifCond cd o, 3)) (hc : ifCond.holds cd x = true) (ho : 0 ≤ (pc : Int) + o) (hp : ((pc : Int) + o).toNat = pc')
    (k : own_Got p e below P T (mkF m pc' ls (st))) : own_Got p e below P T (mkF m pc ls (.int x :: st)) := by
  exact own_go (fun _ q => XS.ifYes X.here hx rfl rfl (hb hby hd) rfl hc ho hp q) k
theorem g_icT (X : Stand p l e R s m args below meth c T locs cells slots) (hx : p.tables.exec = Jvm.exec) (hby : c.code = bytes) {cd : ClassFile.Cond} {x y : Int32} {o : Int} (hd : decode bytes pc = .ok (.if_icmp cd o, 3)) (hc : if_icmp.holds cd x y = true) (ho : 0 ≤ (pc : Int) + o) (hp : ((pc : Int) + o).toNat = pc')
    (k : own_Got p e below P T (mkF m pc' ls (st))) : own_Got p e below P T (mkF m pc ls (.int y :: .int x :: st)) := by
  exact own_go (fun _ q => XS.icmpYes X.here hx rfl rfl (hb hby hd) rfl hc ho hp q) k
theorem g_inT (X : Stand p l e R s m args below meth c T locs cells slots) (hx : p.tables.exec = Jvm.exec) (hby : c.code = bytes) {o : Int} (hd : decode bytes pc = .ok (.ifnull o, 3))  (ho : 0 ≤ (pc : Int) + o) (hp : ((pc : Int) + o).toNat = pc')
    (k : own_Got p e below P T (mkF m pc' ls (st))) : own_Got p e below P T (mkF m pc ls (.null :: st)) := by
  exact own_go (fun _ q => XS.ifnullYes X.here hx rfl rfl (hb hby hd) rfl ho hp q) k
theorem g_innT (X : Stand p l e R s m args below meth c T locs cells slots) (hx : p.tables.exec = Jvm.exec) (hby : c.code = bytes) {b : Addr} {o : Int} (hd : decode bytes pc = .ok (.ifnonnull o, 3))  (ho : 0 ≤ (pc : Int) + o) (hp : ((pc : Int) + o).toNat = pc')
    (k : own_Got p e below P T (mkF m pc' ls (st))) : own_Got p e below P T (mkF m pc ls (.ref b :: st)) := by
  exact own_go (fun _ q => XS.ifnonnullYes X.here hx rfl rfl (hb hby hd) rfl ho hp q) k
theorem g_ifF (X : Stand p l e R s m args below meth c T locs cells slots) (hx : p.tables.exec = Jvm.exec) (hby : c.code = bytes) {cd : ClassFile.Cond} {o : Int} {x : Int32} (hd : decode bytes pc = .ok (.ifCond cd o, 3)) (hc : ifCond.holds cd x = false) (hp : pc + 3 = pc')
    (k : own_Got p e below P T (mkF m pc' ls (st))) : own_Got p e below P T (mkF m pc ls (.int x :: st)) := by
  subst hp; exact own_go (fun _ q => XS.ifNo X.here hx rfl (hb hby hd) rfl hc q) k
theorem g_icF (X : Stand p l e R s m args below meth c T locs cells slots) (hx : p.tables.exec = Jvm.exec) (hby : c.code = bytes) {cd : ClassFile.Cond} {o : Int} {x y : Int32} (hd : decode bytes pc = .ok (.if_icmp cd o, 3)) (hc : if_icmp.holds cd x y = false) (hp : pc + 3 = pc')
    (k : own_Got p e below P T (mkF m pc' ls (st))) : own_Got p e below P T (mkF m pc ls (.int y :: .int x :: st)) := by
  subst hp; exact own_go (fun _ q => XS.icmpNo X.here hx rfl (hb hby hd) rfl hc q) k
theorem g_inF (X : Stand p l e R s m args below meth c T locs cells slots) (hx : p.tables.exec = Jvm.exec) (hby : c.code = bytes) {o : Int} {b : Addr} (hd : decode bytes pc = .ok (.ifnull o, 3))  (hp : pc + 3 = pc')
    (k : own_Got p e below P T (mkF m pc' ls (st))) : own_Got p e below P T (mkF m pc ls (.ref b :: st)) := by
  subst hp; exact own_go (fun _ q => XS.ifnullNo X.here hx rfl (hb hby hd) rfl q) k
theorem g_innF (X : Stand p l e R s m args below meth c T locs cells slots) (hx : p.tables.exec = Jvm.exec) (hby : c.code = bytes) {o : Int} (hd : decode bytes pc = .ok (.ifnonnull o, 3))  (hp : pc + 3 = pc')
    (k : own_Got p e below P T (mkF m pc' ls (st))) : own_Got p e below P T (mkF m pc ls (.null :: st)) := by
  subst hp; exact own_go (fun _ q => XS.ifnonnullNo X.here hx rfl (hb hby hd) rfl q) k
theorem g_acmp (X : Stand p l e R s m args below meth c T locs cells slots) (hx : p.tables.exec = Jvm.exec) (hby : c.code = bytes) {cd : ACond} {x y : Value} {o : Int} (same : Bool) (hd : decode bytes pc = .ok (.if_acmp cd o, 3)) (h1 : x.isRef = true) (h2 : y.isRef = true) (hq : decide (x = y) = same) (ho : 0 ≤ (pc : Int) + o) (hp : pc' = if acV cd same = true then ((pc : Int) + o).toNat else pc + 3)
    (k : own_Got p e below P T (mkF m pc' ls st)) : own_Got p e below P T (mkF m pc ls (y :: x :: st)) :=
  own_go (fun _ q => Jvm.RoadKit.acmp X hx rfl h1 h2 rfl (hb hby hd) rfl hq ho hp q) k
theorem g_ldcI (X : Stand p l e R s m args below meth c T locs cells slots) (hx : p.tables.exec = Jvm.exec) (hby : c.code = bytes) (hZ : Z.Warmed39 s.vm) {own : String} {index : Nat} {v : Int32} (hown : s.vm.findClass own = some m.cls) (w : (Cond.constant own index v).before a0 Z = true) (hd : decode bytes pc = .ok (.ldc index, 2)) (hp : pc + 2 = pc')
    (k : own_Got p e below P T (mkF m pc' ls (.int v :: st))) : own_Got p e below P T (mkF m pc ls st) := by
  subst hp; exact own_go (X.ldcInt hx hown (mvT hZ w) rfl (hb hby hd)) k
theorem g_ldc2D (X : Stand p l e R s m args below meth c T locs cells slots) (hx : p.tables.exec = Jvm.exec) (hby : c.code = bytes) (hZ : Z.Warmed39 s.vm) {own : String} {index : Nat} {v : UInt64} (hown : s.vm.findClass own = some m.cls) (w : (Cond.constantDouble own index v).before a0 Z = true) (hd : decode bytes pc = .ok (.ldc2_w index, 3)) (hp : pc + 3 = pc')
    (k : own_Got p e below P T (mkF m pc' ls (.double v :: st))) : own_Got p e below P T (mkF m pc ls st) := by
  subst hp; exact own_go (X.ldc2DoubleC hx hown (mvT hZ w) rfl (hb hby hd)) k
theorem g_alen (X : Stand p l e R s m args below meth c T locs cells slots) (hx : p.tables.exec = Jvm.exec) (hby : c.code = bytes) (hZ : Z.Warmed39 s.vm) (eT : T.heap = h) {a : Addr} {kk : ClassId} {ty : FieldType} {n : Int32} {vs : List Value} {d : Value} (F : Arv Z h a kk ty n vs d) (hd : decode bytes pc = .ok (.arraylength, 1)) (hp : pc + 1 = pc')
    (k : own_Got p e below P T (mkF m pc' ls (.int n :: st))) : own_Got p e below P T (mkF m pc ls (.ref a :: st)) := by
  subst hp
  obtain ⟨cl, Ar, -, S, N, -, -⟩ := F
  refine own_go (fun t q => X.arraylength hx (by rw [eT]; exact Ar.1) (State.isArrayOf_alike hZ.alike Ar.2.1) (g := mkF m pc ls (.ref a :: st)) rfl rfl (hb hby hd) t q) ?_
  rw [len_of S N]; exact k
theorem g_iaload (X : Stand p l e R s m args below meth c T locs cells slots) (hx : p.tables.exec = Jvm.exec) (hby : c.code = bytes) (hZ : Z.Warmed39 s.vm) (eT : T.heap = h) {a : Addr} {kk : ClassId} {n : Int32} {vs : List Value} {d v : Value} {j : Int32} (F : Arv Z h a kk .int n vs d) (hj : ¬ j < 0 ∧ j < n) (hv : vs.getD j.toNatClampNeg d = v) (hd : decode bytes pc = .ok (.iaload, 1)) (hp : pc + 1 = pc')
    (k : own_Got p e below P T (mkF m pc' ls (v :: st))) : own_Got p e below P T (mkF m pc ls (.int j :: .ref a :: st)) := by
  subst hp
  obtain ⟨cl, Ar, -, S, N, H, -⟩ := F
  exact own_go (fun t q => X.iaload hx (by rw [eT]; exact Ar.1) (State.isArrayOf_alike hZ.alike Ar.2.1) Ar.2.2 (inb_of S hj) (H.at (inb_of S hj) hv) (g := mkF m pc ls (.int j :: .ref a :: st)) rfl rfl (hb hby hd) t q) k
theorem g_caload (X : Stand p l e R s m args below meth c T locs cells slots) (hx : p.tables.exec = Jvm.exec) (hby : c.code = bytes) (hZ : Z.Warmed39 s.vm) (eT : T.heap = h) {a : Addr} {kk : ClassId} {n : Int32} {vs : List Value} {d v : Value} {j : Int32} (F : Arv Z h a kk .char n vs d) (hj : ¬ j < 0 ∧ j < n) (hv : vs.getD j.toNatClampNeg d = v) (hd : decode bytes pc = .ok (.caload, 1)) (hp : pc + 1 = pc')
    (k : own_Got p e below P T (mkF m pc' ls (v :: st))) : own_Got p e below P T (mkF m pc ls (.int j :: .ref a :: st)) := by
  subst hp
  obtain ⟨cl, Ar, -, S, N, H, -⟩ := F
  exact own_go (fun t q => X.caload hx (by rw [eT]; exact Ar.1) (State.isArrayOf_alike hZ.alike Ar.2.1) Ar.2.2 (inb_of S hj) (H.at (inb_of S hj) hv) (g := mkF m pc ls (.int j :: .ref a :: st)) rfl rfl (hb hby hd) t q) k
theorem g_laload (X : Stand p l e R s m args below meth c T locs cells slots) (hx : p.tables.exec = Jvm.exec) (hby : c.code = bytes) (hZ : Z.Warmed39 s.vm) (eT : T.heap = h) {a : Addr} {kk : ClassId} {n : Int32} {vs : List Value} {d v : Value} {j : Int32} (F : Arv Z h a kk .long n vs d) (hj : ¬ j < 0 ∧ j < n) (hv : vs.getD j.toNatClampNeg d = v) (hd : decode bytes pc = .ok (.laload, 1)) (hp : pc + 1 = pc')
    (k : own_Got p e below P T (mkF m pc' ls (v :: st))) : own_Got p e below P T (mkF m pc ls (.int j :: .ref a :: st)) := by
  subst hp
  obtain ⟨cl, Ar, -, S, N, H, -⟩ := F
  exact own_go (fun t q => X.laload hx (by rw [eT]; exact Ar.1) (State.isArrayOf_alike hZ.alike Ar.2.1) Ar.2.2 (inb_of S hj) (H.at (inb_of S hj) hv) (g := mkF m pc ls (.int j :: .ref a :: st)) rfl rfl (hb hby hd) t q) k
theorem g_baload (X : Stand p l e R s m args below meth c T locs cells slots) (hx : p.tables.exec = Jvm.exec) (hby : c.code = bytes) (hZ : Z.Warmed39 s.vm) (eT : T.heap = h) {a : Addr} {kk : ClassId} {n : Int32} {vs : List Value} {d v : Value} {j : Int32} (F : Arv Z h a kk .byte n vs d) (hj : ¬ j < 0 ∧ j < n) (hv : vs.getD j.toNatClampNeg d = v) (hd : decode bytes pc = .ok (.baload, 1)) (hp : pc + 1 = pc')
    (k : own_Got p e below P T (mkF m pc' ls (v :: st))) : own_Got p e below P T (mkF m pc ls (.int j :: .ref a :: st)) := by
  subst hp
  obtain ⟨cl, Ar, -, S, N, H, -⟩ := F
  exact own_go (fun t q => X.baloadBytes hx (by rw [eT]; exact Ar.1) (State.isArrayOf_alike hZ.alike Ar.2.1) Ar.2.2 (inb_of S hj) (H.at (inb_of S hj) hv) (g := mkF m pc ls (.int j :: .ref a :: st)) rfl rfl (hb hby hd) t q) k
theorem g_daload (X : Stand p l e R s m args below meth c T locs cells slots) (hx : p.tables.exec = Jvm.exec) (hby : c.code = bytes) (hZ : Z.Warmed39 s.vm) (eT : T.heap = h) {a : Addr} {kk : ClassId} {n : Int32} {vs : List Value} {d v : Value} {j : Int32} (F : Arv Z h a kk .double n vs d) (hj : ¬ j < 0 ∧ j < n) (hv : vs.getD j.toNatClampNeg d = v) (hd : decode bytes pc = .ok (.daload, 1)) (hp : pc + 1 = pc')
    (k : own_Got p e below P T (mkF m pc' ls (v :: st))) : own_Got p e below P T (mkF m pc ls (.int j :: .ref a :: st)) := by
  subst hp
  obtain ⟨cl, Ar, -, S, N, H, -⟩ := F
  exact own_go (fun t q => X.daload hx (by rw [eT]; exact Ar.1) (State.isArrayOf_alike hZ.alike Ar.2.1) Ar.2.2 (inb_of S hj) (H.at (inb_of S hj) hv) (g := mkF m pc ls (.int j :: .ref a :: st)) rfl rfl (hb hby hd) t q) k
theorem g_aaload (X : Stand p l e R s m args below meth c T locs cells slots) (hx : p.tables.exec = Jvm.exec) (hby : c.code = bytes) (hZ : Z.Warmed39 s.vm) (eT : T.heap = h) {a : Addr} {kk : ClassId} {ty : FieldType} {n : Int32} {vs : List Value} {d v : Value} {j : Int32} (F : Arv Z h a kk ty n vs d) (ht : ty.isReference = true) (hj : ¬ j < 0 ∧ j < n) (hv : vs.getD j.toNatClampNeg d = v) (hd : decode bytes pc = .ok (.aaload, 1)) (hp : pc + 1 = pc')
    (k : own_Got p e below P T (mkF m pc' ls (v :: st))) : own_Got p e below P T (mkF m pc ls (.int j :: .ref a :: st)) := by
  subst hp
  obtain ⟨cl, Ar, -, S, N, H, -⟩ := F
  exact own_go (fun t q => X.aaload hx (by rw [eT]; exact Ar.1) (State.isArrayOf_alike hZ.alike Ar.2.1) ht Ar.2.2 (inb_of S hj) (H.at (inb_of S hj) hv) (g := mkF m pc ls (.int j :: .ref a :: st)) rfl rfl (hb hby hd) t q) k
theorem a_iastore (X : Stand p l e R s m args below meth c T locs cells slots) (hx : p.tables.exec = Jvm.exec) (hby : c.code = bytes) (hZ : Z.Warmed39 s.vm) (eT : T.heap = h) {a : Addr} {kk : ClassId} {n : Int32} {vs : List Value} {d : Value} {j : Int32} (x : Int32) (i : Nat) (F : Arv Z h a kk .int n vs d) (hj : ¬ j < 0 ∧ j < n) (hi : j.toNatClampNeg = i) (hl : i < vs.length) (hd : decode bytes pc = .ok (.iastore, 1)) :
    ∃ T' h', Stand p l e R s m args below meth c T' (locs ++ [⟨a, j.toNatClampNeg⟩]) cells slots ∧ T'.heap = h' ∧ Wr h h' a j.toNatClampNeg (.int x) ∧ Arv Z h' a kk .int n (vs.set i (.int x)) d ∧ ∀ t, Steps p.tables e below (T'.setTop (mkF m (pc + 1) ls st)) t → Steps p.tables e below (T.setTop (mkF m pc ls (.int x :: .int j :: .ref a :: st))) t := by
  obtain ⟨cl, Ar, q1, S, N, H, Gf⟩ := F
  obtain ⟨T', h', X', e', W, k⟩ := stI X hx hZ eT Ar (j := j) (inb_of S hj) (g := mkF m pc ls (.int x :: .int j :: .ref a :: st)) rfl rfl (hb hby hd)
  exact ⟨T', h', X', e', W, Arv.set Ar q1 S N H Gf (rfl) W i hi hl, k⟩
theorem a_castore (X : Stand p l e R s m args below meth c T locs cells slots) (hx : p.tables.exec = Jvm.exec) (hby : c.code = bytes) (hZ : Z.Warmed39 s.vm) (eT : T.heap = h) {a : Addr} {kk : ClassId} {n : Int32} {vs : List Value} {d : Value} {j : Int32} (x : Int32) (i : Nat) (F : Arv Z h a kk .char n vs d) (hj : ¬ j < 0 ∧ j < n) (hi : j.toNatClampNeg = i) (hl : i < vs.length) (hd : decode bytes pc = .ok (.castore, 1)) :
    ∃ T' h', Stand p l e R s m args below meth c T' (locs ++ [⟨a, j.toNatClampNeg⟩]) cells slots ∧ T'.heap = h' ∧ Wr h h' a j.toNatClampNeg (.int (nar .char x)) ∧ Arv Z h' a kk .char n (vs.set i (.int (nar .char x))) d ∧ ∀ t, Steps p.tables e below (T'.setTop (mkF m (pc + 1) ls st)) t → Steps p.tables e below (T.setTop (mkF m pc ls (.int x :: .int j :: .ref a :: st))) t := by
  obtain ⟨cl, Ar, q1, S, N, H, Gf⟩ := F
  obtain ⟨T', h', X', e', W, k⟩ := stC X hx hZ eT Ar (j := j) (inb_of S hj) (g := mkF m pc ls (.int x :: .int j :: .ref a :: st)) rfl rfl (hb hby hd)
  exact ⟨T', h', X', e', W, Arv.set Ar q1 S N H Gf (fits_nar_char _) W i hi hl, k⟩
theorem a_bastore (X : Stand p l e R s m args below meth c T locs cells slots) (hx : p.tables.exec = Jvm.exec) (hby : c.code = bytes) (hZ : Z.Warmed39 s.vm) (eT : T.heap = h) {a : Addr} {kk : ClassId} {n : Int32} {vs : List Value} {d : Value} {j : Int32} (x : Int32) (i : Nat) (F : Arv Z h a kk .byte n vs d) (hj : ¬ j < 0 ∧ j < n) (hi : j.toNatClampNeg = i) (hl : i < vs.length) (hd : decode bytes pc = .ok (.bastore, 1)) :
    ∃ T' h', Stand p l e R s m args below meth c T' (locs ++ [⟨a, j.toNatClampNeg⟩]) cells slots ∧ T'.heap = h' ∧ Wr h h' a j.toNatClampNeg (.int (nar .byte x)) ∧ Arv Z h' a kk .byte n (vs.set i (.int (nar .byte x))) d ∧ ∀ t, Steps p.tables e below (T'.setTop (mkF m (pc + 1) ls st)) t → Steps p.tables e below (T.setTop (mkF m pc ls (.int x :: .int j :: .ref a :: st))) t := by
  obtain ⟨cl, Ar, q1, S, N, H, Gf⟩ := F
  obtain ⟨T', h', X', e', W, k⟩ := stB X hx hZ eT Ar (j := j) (inb_of S hj) (g := mkF m pc ls (.int x :: .int j :: .ref a :: st)) rfl rfl (hb hby hd)
  exact ⟨T', h', X', e', W, Arv.set Ar q1 S N H Gf (fits_nar_byte _) W i hi hl, k⟩
theorem a_lastore (X : Stand p l e R s m args below meth c T locs cells slots) (hx : p.tables.exec = Jvm.exec) (hby : c.code = bytes) (hZ : Z.Warmed39 s.vm) (eT : T.heap = h) {a : Addr} {kk : ClassId} {n : Int32} {vs : List Value} {d : Value} {j : Int32} (x : Int64) (i : Nat) (F : Arv Z h a kk .long n vs d) (hj : ¬ j < 0 ∧ j < n) (hi : j.toNatClampNeg = i) (hl : i < vs.length) (hd : decode bytes pc = .ok (.lastore, 1)) :
    ∃ T' h', Stand p l e R s m args below meth c T' (locs ++ [⟨a, j.toNatClampNeg⟩]) cells slots ∧ T'.heap = h' ∧ Wr h h' a j.toNatClampNeg (.long x) ∧ Arv Z h' a kk .long n (vs.set i (.long x)) d ∧ ∀ t, Steps p.tables e below (T'.setTop (mkF m (pc + 1) ls st)) t → Steps p.tables e below (T.setTop (mkF m pc ls (.long x :: .int j :: .ref a :: st))) t := by
  obtain ⟨cl, Ar, q1, S, N, H, Gf⟩ := F
  obtain ⟨T', h', X', e', W, k⟩ := stJ X hx hZ eT Ar (j := j) (inb_of S hj) (g := mkF m pc ls (.long x :: .int j :: .ref a :: st)) rfl rfl (hb hby hd)
  exact ⟨T', h', X', e', W, Arv.set Ar q1 S N H Gf (rfl) W i hi hl, k⟩
theorem a_dastore (X : Stand p l e R s m args below meth c T locs cells slots) (hx : p.tables.exec = Jvm.exec) (hby : c.code = bytes) (hZ : Z.Warmed39 s.vm) (eT : T.heap = h) {a : Addr} {kk : ClassId} {n : Int32} {vs : List Value} {d : Value} {j : Int32} (x : UInt64) (i : Nat) (F : Arv Z h a kk .double n vs d) (hj : ¬ j < 0 ∧ j < n) (hi : j.toNatClampNeg = i) (hl : i < vs.length) (hd : decode bytes pc = .ok (.dastore, 1)) :
    ∃ T' h', Stand p l e R s m args below meth c T' (locs ++ [⟨a, j.toNatClampNeg⟩]) cells slots ∧ T'.heap = h' ∧ Wr h h' a j.toNatClampNeg (.double x) ∧ Arv Z h' a kk .double n (vs.set i (.double x)) d ∧ ∀ t, Steps p.tables e below (T'.setTop (mkF m (pc + 1) ls st)) t → Steps p.tables e below (T.setTop (mkF m pc ls (.double x :: .int j :: .ref a :: st))) t := by
  obtain ⟨cl, Ar, q1, S, N, H, Gf⟩ := F
  obtain ⟨T', h', X', e', W, k⟩ := stD X hx hZ eT Ar (j := j) (inb_of S hj) (g := mkF m pc ls (.double x :: .int j :: .ref a :: st)) rfl rfl (hb hby hd)
  exact ⟨T', h', X', e', W, Arv.set Ar q1 S N H Gf (rfl) W i hi hl, k⟩
theorem a_aastore (X : Stand p l e R s m args below meth c T locs cells slots) (hx : p.tables.exec = Jvm.exec) (hby : c.code = bytes) (hZ : Z.Warmed39 s.vm) (eT : T.heap = h) {a b : Addr} {kk : ClassId} {Cn : String} {n : Int32} {vs : List Value} {d : Value} {j : Int32} (i : Nat) (F : Arv Z h a kk (.object Cn) n vs d) (O : Ovr Z kk Cn) (I : Ins Z h b Cn true) (hj : ¬ j < 0 ∧ j < n) (hi : j.toNatClampNeg = i) (hl : i < vs.length) (hd : decode bytes pc = .ok (.aastore, 1)) :
    ∃ T' h', Stand p l e R s m args below meth c T' (locs ++ [⟨a, j.toNatClampNeg⟩]) cells slots ∧ T'.heap = h' ∧ Wr h h' a j.toNatClampNeg (.ref b) ∧ Arv Z h' a kk (.object Cn) n (vs.set i (.ref b)) d ∧ ∀ t, Steps p.tables e below (T'.setTop (mkF m (pc + 1) ls st)) t → Steps p.tables e below (T.setTop (mkF m pc ls (.ref b :: .int j :: .ref a :: st))) t := by
  obtain ⟨cl, Ar, q1, S, N, H, Gf⟩ := F
  obtain ⟨T', h', X', e', W, k⟩ := stR X hx hZ eT Ar (j := j) (inb_of S hj) rfl (Sto.ofV Ar q1 O I) (g := mkF m pc ls (.ref b :: .int j :: .ref a :: st)) rfl rfl (hb hby hd)
  exact ⟨T', h', X', e', W, Arv.set Ar q1 S N H Gf rfl W i hi hl, k⟩
theorem own_stakeep {C n d : String} {v : Value} {K : String} {a : Addr} (F : Sta Z h C n d v) (k : Keep h h' [a]) (E : Exa Z h a K) : Sta Z h' C n d v := by
  obtain ⟨cf, i, kk, f, st, cell, h1, h2, h3, h4, h5, h6, h7⟩ := F
  refine ⟨cf, i, kk, f, st, cell, h1, h2, h3, h4, k.2.1 _ _ h5 (fun q => ?_), h6, h7⟩
  obtain ⟨c2, k2, g1, -, -, g4, -⟩ := E
  cases List.mem_singleton.mp q
  cases h5.symm.trans g1
  rw [g4] at h6; cases h6
theorem own_stakeep0 {C n d : String} {v : Value} (F : Sta Z h C n d v) (k : Keep h h' []) : Sta Z h' C n d v := by
  obtain ⟨cf, i, kk, f, st, cell, h1, h2, h3, h4, h5, h6, h7⟩ := F
  exact ⟨cf, i, kk, f, st, cell, h1, h2, h3, h4, k.2.1 _ _ h5 nin0, h6, h7⟩
theorem own_eqI {t : Term} {first : State} {o : Option Outcome} {idx : List Nat} {z : Int32} (hq : (Cond.eq t (.int z)).value args first o s idx = some true) : t.eval args first o idx s = some (.int z) := by
  obtain ⟨x, y, hx, hy, kk, -⟩ := cmp_v (Or.inl hq)
  have hy' : y = .int z := Option.some.inj (hy.symm.trans rfl)
  subst hy'
  cases x with
  | int x => simp only [Cond.value, hx, hy] at hq; simp at hq; rw [hx, hq]
  | _ => simp [Kin, Value.isRef] at kk
theorem own_eqR {t u : Term} {first : State} {o : Option Outcome} {idx : List Nat} {b : Addr} (hq : (Cond.eq t u).value args first o s idx = some true) (hu : u.eval args first o idx s = some (.ref b)) : t.eval args first o idx s = some (.ref b) := by
  obtain ⟨x, y, hx, hy, kk, kk2⟩ := cmp_v (Or.inl hq)
  cases hu.symm.trans hy
  have hr : x.isRef = true := kk2.2
  have := gotT (eq_R hx hu hr rfl) hq
  rw [hx, this]
theorem g_i2d (X : Stand p l e R s m args below meth c T locs cells slots) (hx : p.tables.exec = Jvm.exec) (hby : c.code = bytes) {x : Int32} (hd : decode bytes pc = .ok (.i2d, 1))  (hp : pc + 1 = pc')
    (k : own_Got p e below P T (mkF m pc' ls (.double (FP.i2d x) :: st))) : own_Got p e below P T (mkF m pc ls (.int x :: st)) := by
  subst hp; exact own_go (fun _ q => XS.i2dS X.here hx rfl (hb hby hd) rfl rfl q) k
theorem g_dcmp (X : Stand p l e R s m args below meth c T locs cells slots) (hx : p.tables.exec = Jvm.exec) (hby : c.code = bytes) {o : CmpOp} {x y : UInt64} (hd : decode bytes pc = .ok (.dcmp o, 1))  (hp : pc + 1 = pc')
    (k : own_Got p e below P T (mkF m pc' ls (.int (cmpValue (FP.dcmp x y) o) :: st))) : own_Got p e below P T (mkF m pc ls (.double y :: .double x :: st)) := by
  subst hp; exact own_go (fun _ q => XS.dcmpS X.here hx rfl (hb hby hd) rfl rfl q) k
theorem g_dconst0 (X : Stand p l e R s m args below meth c T locs cells slots) (hx : p.tables.exec = Jvm.exec) (hby : c.code = bytes) (z : UInt64) (hd : decode bytes pc = .ok (.dconst 0, 1)) (hz : FP.dconst0 = z) (hp : pc + 1 = pc')
    (k : own_Got p e below P T (mkF m pc' ls (.double z :: st))) : own_Got p e below P T (mkF m pc ls (st)) := by
  subst hp; exact own_go (fun _ q => XS.dconst0 X.here hx rfl (hb hby hd) hz q) k
theorem g_dadd (X : Stand p l e R s m args below meth c T locs cells slots) (hx : p.tables.exec = Jvm.exec) (hby : c.code = bytes) {x y : UInt64} (hd : decode bytes pc = .ok (.dadd, 1)) (hn : Jvm.Free.Fl.NoNaN64 (FP.dadd x y)) (hp : pc + 1 = pc')
    (k : own_Got p e below P T (mkF m pc' ls (.double (FP.dadd x y) :: st))) : own_Got p e below P T (mkF m pc ls (.double y :: .double x :: st)) := by
  subst hp; exact own_go (fun _ q => XS.daddS X.here hx rfl (hb hby hd) rfl hn rfl q) k
theorem g_dsub (X : Stand p l e R s m args below meth c T locs cells slots) (hx : p.tables.exec = Jvm.exec) (hby : c.code = bytes) {x y : UInt64} (hd : decode bytes pc = .ok (.dsub, 1)) (hn : Jvm.Free.Fl.NoNaN64 (FP.dsub x y)) (hp : pc + 1 = pc')
    (k : own_Got p e below P T (mkF m pc' ls (.double (FP.dsub x y) :: st))) : own_Got p e below P T (mkF m pc ls (.double y :: .double x :: st)) := by
  subst hp; exact own_go (fun _ q => XS.dsubS X.here hx rfl (hb hby hd) rfl hn rfl q) k
theorem g_dmul (X : Stand p l e R s m args below meth c T locs cells slots) (hx : p.tables.exec = Jvm.exec) (hby : c.code = bytes) {x y : UInt64} (hd : decode bytes pc = .ok (.dmul, 1)) (hn : Jvm.Free.Fl.NoNaN64 (FP.dmul x y)) (hp : pc + 1 = pc')
    (k : own_Got p e below P T (mkF m pc' ls (.double (FP.dmul x y) :: st))) : own_Got p e below P T (mkF m pc ls (.double y :: .double x :: st)) := by
  subst hp; exact own_go (fun _ q => XS.dmulS X.here hx rfl (hb hby hd) rfl hn rfl q) k
theorem g_ddiv (X : Stand p l e R s m args below meth c T locs cells slots) (hx : p.tables.exec = Jvm.exec) (hby : c.code = bytes) {x y : UInt64} (hd : decode bytes pc = .ok (.ddiv, 1)) (hn : Jvm.Free.Fl.NoNaN64 (FP.ddiv x y)) (hp : pc + 1 = pc')
    (k : own_Got p e below P T (mkF m pc' ls (.double (FP.ddiv x y) :: st))) : own_Got p e below P T (mkF m pc ls (.double y :: .double x :: st)) := by
  subst hp; exact own_go (fun _ q => XS.ddivS X.here hx rfl (hb hby hd) rfl hn rfl q) k
theorem own_narR {t : FieldType} {w : Value} (ht : t.isReference = true) (hw : w.isRef = true) : narrow t w = w := by rcases ref_cases hw with rfl | ⟨a, rfl⟩ <;> cases t <;> first | rfl | (cases ht)
theorem own_fitR {t : FieldType} {w : Value} (ht : t.isReference = true) (hw : w.isRef = true) : fits t w = true := by rcases ref_cases hw with rfl | ⟨a, rfl⟩ <;> cases t <;> first | rfl | (cases ht)
theorem own_nb (x : Int32) : nar .byte (x.toInt8.toInt32) = x.toInt8.toInt32 := by
  show (x.toInt8.toInt32).toInt8.toInt32 = x.toInt8.toInt32
  simp
theorem own_nc (x : Int32) : nar .char (x.toUInt32.toUInt16.toUInt32.toInt32) = x.toUInt32.toUInt16.toUInt32.toInt32 := by
  show (x.toUInt32.toUInt16.toUInt32.toInt32).toUInt32.toUInt16.toUInt32.toInt32 = _
  have q : ∀ u : UInt16, u.toUInt32.toInt32.toUInt32.toUInt16 = u := fun u => by simp
  rw [q]
end OwnKit
theorem d_lit_0 : decode prog_7_method_2_code 0 = .ok (.iconst 2, 1) := by decide +kernel
theorem d_lit_1 : decode prog_7_method_2_code 1 = .ok (.iload_n 0, 1) := by decide +kernel
theorem d_lit_2 : decode prog_7_method_2_code 2 = .ok (.imul, 1) := by decide +kernel
theorem d_lit_3 : decode prog_7_method_2_code 3 = .ok (.iload_n 1, 1) := by decide +kernel
theorem d_lit_4 : decode prog_7_method_2_code 4 = .ok (.ifCond .eq 7, 3) := by decide +kernel
theorem d_lit_7 : decode prog_7_method_2_code 7 = .ok (.iconst 0, 1) := by decide +kernel
theorem d_lit_8 : decode prog_7_method_2_code 8 = .ok (.goto 4, 3) := by decide +kernel
theorem d_lit_11 : decode prog_7_method_2_code 11 = .ok (.iconst 1, 1) := by decide +kernel
theorem d_lit_12 : decode prog_7_method_2_code 12 = .ok (.iadd, 1) := by decide +kernel
theorem d_lit_13 : decode prog_7_method_2_code 13 = .ok (.ireturn, 1) := by decide +kernel
theorem pn0 : plainName "com/example/forcon/forcon/analysis/Solver" = true := by first | (simp [plainName, overriddenIn]; done) | decide +kernel
theorem ef_lit (m : MethodId) (x0 : Int32) (x1 : Int32) : entryFrame m #[(.int x0), (.int x1)] 2 = mkF m 0 #[.val (.int x0), .val (.int x1)] [] := by first | (simp [entryFrame, mkF, argsToLocals, Value.category]; done) | rfl
def F_lit (x0 : Int32) (x1 : Int32) : Int32 := if x1 = (0 : Int32) then ((((2 : Int32) * x0) + (1 : Int32))) else ((((2 : Int32) * x0) + (0 : Int32)))
def Q_lit (Z : State) (x0 : Int32) (x1 : Int32) (h0 : Heap) (n0 : Nat) (v : Option Value) (h : Heap) (L : List Loc) : Prop := v = some (.int (F_lit x0 x1)) ∧ Fr n0 L ∧ h = h0
set_option maxRecDepth 65536 in
set_option maxHeartbeats 40000000 in
theorem rm_lit (l : Launch) (Z : State) (a0 : Array Value) (hw : ∀ d ∈ tables_1, d.before a0 Z = true) (ws : List Jvm.Cond) (x0 : Int32) (x1 : Int32) (h0 : Heap) (n0 : Nat) (Z0 : n0 ≤ h0.size) :
    MetFree l (⟨"com/example/forcon/forcon/analysis/Solver", "literal", "(IZ)I"⟩ : MethodName) (head1 (Jvm.Cond.code (⟨"com/example/forcon/forcon/analysis/Solver", "literal", "(IZ)I"⟩ : MethodName) prog_7_method_2_code 2 (some .int) :: ws) ({ frames := 0, cells := 0, slots := 0, locals := 0 } : Room)) (fun a U => a = #[(.int x0), (.int x1)] ∧ Z.Warmed39 U.vm ∧ U.heap = h0) (fun _ _ _ _ _ => True) (fun _ U o U' => ∃ v L, o = .returned v ∧ Q_lit Z x0 x1 h0 n0 v U'.heap L ∧ FrameEnd U o U' L ({ frames := 0, cells := 0, slots := 0, locals := 0 } : Room).cells ({ frames := 0, cells := 0, slots := 0, locals := 0 } : Room).slots) := by
  refine MetFree.of_bodySF (plainFor_of_name pn0) hisR ?_
  intro p e s m args below meth c s₁ Bd hml0 hP hK
  obtain ⟨rfl, hZ, hh⟩ := hP
  have hx := Bd.exec
  have hby := Bd.bytes
  have hml : c.maxLocals = 2 := hml0
  have hown : s.vm.findClass "com/example/forcon/forcon/analysis/Solver" = some m.cls := findClass_of_methodNamed Bd.named
  have hnm := (name_of_methodNamed Bd.named Bd.method).1
  have hlk := Bd.notSynchronized
  have hrt := Bd.returns
  have X0 : Stand p l e ({ frames := 0, cells := 0, slots := 0, locals := 0 } : Room) s m #[(.int x0), (.int x1)] below meth c s₁ [] 0 0 := Stand.of_body Bd
  have e0 : s₁.heap = h0 := by rw [← hh, Bd.state]; rfl
  have N0 := Fr.nil n0
  refine own_cast (P := own_End s (Q_lit Z x0 x1 h0 n0) ({ frames := 0, cells := 0, slots := 0, locals := 0 } : Room).cells ({ frames := 0, cells := 0, slots := 0, locals := 0 } : Room).slots) (ef_lit m x0 x1) ?_
  refine g_iconst X0 hx hby (2 : Int32) d_lit_0 (by decide) (rfl : 0 + 1 = 1) ?_
  refine g_iloadN X0 hx hby d_lit_1 rfl (rfl : 1 + 1 = 2) ?_
  refine g_imul X0 hx hby d_lit_2 (rfl : 2 + 1 = 3) ?_
  refine g_iloadN X0 hx hby d_lit_3 rfl (rfl : 3 + 1 = 4) ?_
  by_cases c1 : x1 = (0 : Int32)
  · refine g_ifT X0 hx hby d_lit_4 ((if0 _ _).trans (teq c1).1) (by decide) (pc' := 11) (by decide) ?_
    refine g_iconst X0 hx hby (1 : Int32) d_lit_11 (by decide) (rfl : 11 + 1 = 12) ?_
    refine g_iadd X0 hx hby d_lit_12 (rfl : 12 + 1 = 13) ?_
    refine own_retI X0 hx hby hlk hrt d_lit_13 (by decide) (by decide) ?_
    show Q_lit Z x0 x1 h0 n0 _ s₁.heap _
    exact ⟨(congrArg (fun z => some (Value.int z)) (by rw [F_lit, if_pos c1] <;> rfl)), N0, e0⟩
  · refine g_ifF X0 hx hby d_lit_4 ((if0 _ _).trans (feq c1).1) (rfl : 4 + 3 = 7) ?_
    refine g_iconst X0 hx hby (0 : Int32) d_lit_7 (by decide) (rfl : 7 + 1 = 8) ?_
    refine g_goto X0 hx hby d_lit_8 (by decide) (pc' := 12) (by decide) ?_
    refine g_iadd X0 hx hby d_lit_12 (rfl : 12 + 1 = 13) ?_
    refine own_retI X0 hx hby hlk hrt d_lit_13 (by decide) (by decide) ?_
    show Q_lit Z x0 x1 h0 n0 _ s₁.heap _
    exact ⟨(congrArg (fun z => some (Value.int z)) (by rw [F_lit, if_neg c1] <;> rfl)), N0, e0⟩
theorem d_var_0 : decode prog_7_method_4_code 0 = .ok (.iload_n 0, 1) := by decide +kernel
theorem d_var_1 : decode prog_7_method_4_code 1 = .ok (.iconst 1, 1) := by decide +kernel
theorem d_var_2 : decode prog_7_method_4_code 2 = .ok (.ishr, 1) := by decide +kernel
theorem d_var_3 : decode prog_7_method_4_code 3 = .ok (.ireturn, 1) := by decide +kernel
theorem ef_var (m : MethodId) (x0 : Int32) : entryFrame m #[(.int x0)] 1 = mkF m 0 #[.val (.int x0)] [] := by first | (simp [entryFrame, mkF, argsToLocals, Value.category]; done) | rfl
def F_var (x0 : Int32) : Int32 := (x0 >>> ((1 : Int32) &&& 31))
def Q_var (Z : State) (x0 : Int32) (h0 : Heap) (n0 : Nat) (v : Option Value) (h : Heap) (L : List Loc) : Prop := v = some (.int (F_var x0)) ∧ Fr n0 L ∧ h = h0
set_option maxRecDepth 65536 in
set_option maxHeartbeats 40000000 in
theorem rm_var (l : Launch) (Z : State) (a0 : Array Value) (hw : ∀ d ∈ tables_1, d.before a0 Z = true) (ws : List Jvm.Cond) (x0 : Int32) (h0 : Heap) (n0 : Nat) (Z0 : n0 ≤ h0.size) :
    MetFree l (⟨"com/example/forcon/forcon/analysis/Solver", "variable", "(I)I"⟩ : MethodName) (head1 (Jvm.Cond.code (⟨"com/example/forcon/forcon/analysis/Solver", "variable", "(I)I"⟩ : MethodName) prog_7_method_4_code 1 (some .int) :: ws) ({ frames := 0, cells := 0, slots := 0, locals := 0 } : Room)) (fun a U => a = #[(.int x0)] ∧ Z.Warmed39 U.vm ∧ U.heap = h0) (fun _ _ _ _ _ => True) (fun _ U o U' => ∃ v L, o = .returned v ∧ Q_var Z x0 h0 n0 v U'.heap L ∧ FrameEnd U o U' L ({ frames := 0, cells := 0, slots := 0, locals := 0 } : Room).cells ({ frames := 0, cells := 0, slots := 0, locals := 0 } : Room).slots) := by
  refine MetFree.of_bodySF (plainFor_of_name pn0) hisR ?_
  intro p e s m args below meth c s₁ Bd hml0 hP hK
  obtain ⟨rfl, hZ, hh⟩ := hP
  have hx := Bd.exec
  have hby := Bd.bytes
  have hml : c.maxLocals = 1 := hml0
  have hown : s.vm.findClass "com/example/forcon/forcon/analysis/Solver" = some m.cls := findClass_of_methodNamed Bd.named
  have hnm := (name_of_methodNamed Bd.named Bd.method).1
  have hlk := Bd.notSynchronized
  have hrt := Bd.returns
  have X0 : Stand p l e ({ frames := 0, cells := 0, slots := 0, locals := 0 } : Room) s m #[(.int x0)] below meth c s₁ [] 0 0 := Stand.of_body Bd
  have e0 : s₁.heap = h0 := by rw [← hh, Bd.state]; rfl
  have N0 := Fr.nil n0
  refine own_cast (P := own_End s (Q_var Z x0 h0 n0) ({ frames := 0, cells := 0, slots := 0, locals := 0 } : Room).cells ({ frames := 0, cells := 0, slots := 0, locals := 0 } : Room).slots) (ef_var m x0) ?_
  refine g_iloadN X0 hx hby d_var_0 rfl (rfl : 0 + 1 = 1) ?_
  refine g_iconst X0 hx hby (1 : Int32) d_var_1 (by decide) (rfl : 1 + 1 = 2) ?_
  refine g_ishr X0 hx hby d_var_2 (rfl : 2 + 1 = 3) ?_
  refine own_retI X0 hx hby hlk hrt d_var_3 (by decide) (by decide) ?_
  show Q_var Z x0 h0 n0 _ s₁.heap _
  exact ⟨rfl, N0, e0⟩
theorem d_inv_0 : decode prog_7_method_3_code 0 = .ok (.iload_n 0, 1) := by decide +kernel
theorem d_inv_1 : decode prog_7_method_3_code 1 = .ok (.iconst 1, 1) := by decide +kernel
theorem d_inv_2 : decode prog_7_method_3_code 2 = .ok (.ixor, 1) := by decide +kernel
theorem d_inv_3 : decode prog_7_method_3_code 3 = .ok (.ireturn, 1) := by decide +kernel
theorem ef_inv (m : MethodId) (x0 : Int32) : entryFrame m #[(.int x0)] 1 = mkF m 0 #[.val (.int x0)] [] := by first | (simp [entryFrame, mkF, argsToLocals, Value.category]; done) | rfl
def F_inv (x0 : Int32) : Int32 := (x0 ^^^ (1 : Int32))
def Q_inv (Z : State) (x0 : Int32) (h0 : Heap) (n0 : Nat) (v : Option Value) (h : Heap) (L : List Loc) : Prop := v = some (.int (F_inv x0)) ∧ Fr n0 L ∧ h = h0
set_option maxRecDepth 65536 in
set_option maxHeartbeats 40000000 in
theorem rm_inv (l : Launch) (Z : State) (a0 : Array Value) (hw : ∀ d ∈ tables_1, d.before a0 Z = true) (ws : List Jvm.Cond) (x0 : Int32) (h0 : Heap) (n0 : Nat) (Z0 : n0 ≤ h0.size) :
    MetFree l (⟨"com/example/forcon/forcon/analysis/Solver", "not", "(I)I"⟩ : MethodName) (head1 (Jvm.Cond.code (⟨"com/example/forcon/forcon/analysis/Solver", "not", "(I)I"⟩ : MethodName) prog_7_method_3_code 1 (some .int) :: ws) ({ frames := 0, cells := 0, slots := 0, locals := 0 } : Room)) (fun a U => a = #[(.int x0)] ∧ Z.Warmed39 U.vm ∧ U.heap = h0) (fun _ _ _ _ _ => True) (fun _ U o U' => ∃ v L, o = .returned v ∧ Q_inv Z x0 h0 n0 v U'.heap L ∧ FrameEnd U o U' L ({ frames := 0, cells := 0, slots := 0, locals := 0 } : Room).cells ({ frames := 0, cells := 0, slots := 0, locals := 0 } : Room).slots) := by
  refine MetFree.of_bodySF (plainFor_of_name pn0) hisR ?_
  intro p e s m args below meth c s₁ Bd hml0 hP hK
  obtain ⟨rfl, hZ, hh⟩ := hP
  have hx := Bd.exec
  have hby := Bd.bytes
  have hml : c.maxLocals = 1 := hml0
  have hown : s.vm.findClass "com/example/forcon/forcon/analysis/Solver" = some m.cls := findClass_of_methodNamed Bd.named
  have hnm := (name_of_methodNamed Bd.named Bd.method).1
  have hlk := Bd.notSynchronized
  have hrt := Bd.returns
  have X0 : Stand p l e ({ frames := 0, cells := 0, slots := 0, locals := 0 } : Room) s m #[(.int x0)] below meth c s₁ [] 0 0 := Stand.of_body Bd
  have e0 : s₁.heap = h0 := by rw [← hh, Bd.state]; rfl
  have N0 := Fr.nil n0
  refine own_cast (P := own_End s (Q_inv Z x0 h0 n0) ({ frames := 0, cells := 0, slots := 0, locals := 0 } : Room).cells ({ frames := 0, cells := 0, slots := 0, locals := 0 } : Room).slots) (ef_inv m x0) ?_
  refine g_iloadN X0 hx hby d_inv_0 rfl (rfl : 0 + 1 = 1) ?_
  refine g_iconst X0 hx hby (1 : Int32) d_inv_1 (by decide) (rfl : 1 + 1 = 2) ?_
  refine g_ixor X0 hx hby d_inv_2 (rfl : 2 + 1 = 3) ?_
  refine own_retI X0 hx hby hlk hrt d_inv_3 (by decide) (by decide) ?_
  show Q_inv Z x0 h0 n0 _ s₁.heap _
  exact ⟨rfl, N0, e0⟩
theorem pn1 : plainName "com/example/forcon/forcon/analysis/SolverLiteralPinLaw" = true := by first | (simp [plainName, overriddenIn]; done) | decide +kernel
theorem pd0 : parseMethodDescriptor "(IZ)I" = some ⟨[.int, .boolean], some .int⟩ := by decide +kernel
theorem pd1 : parseMethodDescriptor "(I)I" = some ⟨[.int], some .int⟩ := by decide +kernel
theorem ef_law (m : MethodId) (x0 : Int32) (x1 : Int32) : entryFrame m #[(.int x0), (.int x1)] maxLocals = mkF m 0 #[.val (.int x0), .val (.int x1), .unset, .unset, .unset, .unset, .unset] [] := by first | (simp [entryFrame, mkF, argsToLocals, Value.category, maxLocals]; done) | rfl
def F_law (x0 : Int32) (x1 : Int32) : Int32 := if (x1 &&& (1 : Int32)) = (0 : Int32) then (if (F_lit (x0 &&& (1073741823 : Int32)) (0 : Int32)) < (0 : Int32) then ((0 : Int32)) else (if ((F_lit (x0 &&& (1073741823 : Int32)) (0 : Int32)) / (2 : Int32)) = (x0 &&& (1073741823 : Int32)) then (if ((F_lit (x0 &&& (1073741823 : Int32)) (0 : Int32)) % (2 : Int32)) = (1 : Int32) then (if (F_var (F_lit (x0 &&& (1073741823 : Int32)) (0 : Int32))) = (x0 &&& (1073741823 : Int32)) then (if (F_inv (F_lit (x0 &&& (1073741823 : Int32)) (0 : Int32))) = (F_lit (x0 &&& (1073741823 : Int32)) (1 : Int32)) then ((1 : Int32)) else ((0 : Int32))) else ((0 : Int32))) else ((0 : Int32))) else ((0 : Int32)))) else (if (F_lit (x0 &&& (1073741823 : Int32)) (1 : Int32)) < (0 : Int32) then ((0 : Int32)) else (if ((F_lit (x0 &&& (1073741823 : Int32)) (1 : Int32)) / (2 : Int32)) = (x0 &&& (1073741823 : Int32)) then (if ((F_lit (x0 &&& (1073741823 : Int32)) (1 : Int32)) % (2 : Int32)) = (0 : Int32) then (if (F_var (F_lit (x0 &&& (1073741823 : Int32)) (1 : Int32))) = (x0 &&& (1073741823 : Int32)) then (if (F_inv (F_lit (x0 &&& (1073741823 : Int32)) (1 : Int32))) = (F_lit (x0 &&& (1073741823 : Int32)) (0 : Int32)) then ((1 : Int32)) else ((0 : Int32))) else ((0 : Int32))) else ((0 : Int32))) else ((0 : Int32))))
def Q_law (Z : State) (x0 : Int32) (x1 : Int32) (h0 : Heap) (n0 : Nat) (v : Option Value) (h : Heap) (L : List Loc) : Prop := v = some (.int (F_law x0 x1)) ∧ Fr n0 L
set_option maxRecDepth 65536 in
set_option maxHeartbeats 40000000 in
theorem rm_law (l : Launch) (Z : State) (a0 : Array Value) (hw : ∀ d ∈ tables_1, d.before a0 Z = true) (ws : List Jvm.Cond) (x0 : Int32) (x1 : Int32) (h0 : Heap) (n0 : Nat) (Z0 : n0 ≤ h0.size) :
    MetFree l x (head1 (Jvm.Cond.code x code maxLocals ret :: ws) room_1) (fun a U => a = #[(.int x0), (.int x1)] ∧ Z.Warmed39 U.vm ∧ U.heap = h0) (fun _ _ _ _ _ => True) (fun _ U o U' => ∃ v L, o = .returned v ∧ Q_law Z x0 x1 h0 n0 v U'.heap L ∧ FrameEnd U o U' L 0 0) := by
  refine MetFree.of_bodySF (plainFor_of_name pn1) hisR ?_
  intro p e s m args below meth c s₁ Bd hml0 hP hK
  obtain ⟨rfl, hZ, hh⟩ := hP
  have hx := Bd.exec
  have hby := Bd.bytes
  have hml : c.maxLocals = 7 := hml0
  have hown : s.vm.findClass "com/example/forcon/forcon/analysis/SolverLiteralPinLaw" = some m.cls := findClass_of_methodNamed Bd.named
  have hnm := (name_of_methodNamed Bd.named Bd.method).1
  have hlk := Bd.notSynchronized
  have hrt := Bd.returns
  have X0 : Stand p l e room_1 s m #[(.int x0), (.int x1)] below meth c s₁ [] 0 0 := Stand.of_body Bd
  have e0 : s₁.heap = h0 := by rw [← hh, Bd.state]; rfl
  have N0 := Fr.nil n0
  refine own_cast (P := own_End s (Q_law Z x0 x1 h0 n0) 0 0) (ef_law m x0 x1) ?_
  refine g_iloadN X0 hx hby at_0 rfl (rfl : 0 + 1 = 1) ?_
  refine g_ldcI X0 hx hby hZ hown (hw _ (List.mem_of_getElem? (i := 0) rfl)) at_1 (rfl : 1 + 2 = 3) ?_
  refine g_iand X0 hx hby at_3 (rfl : 3 + 1 = 4) ?_
  refine g_istoreN X0 hx hby #[.val (.int x0), .val (.int x1), .val (.int (x0 &&& (1073741823 : Int32))), .unset, .unset, .unset, .unset] at_4 rfl (rfl : 4 + 1 = 5) ?_
  refine g_iloadN X0 hx hby at_5 rfl (rfl : 5 + 1 = 6) ?_
  refine g_iconst X0 hx hby (1 : Int32) at_6 (by decide) (rfl : 6 + 1 = 7) ?_
  refine g_iand X0 hx hby at_7 (rfl : 7 + 1 = 8) ?_
  by_cases c2 : (x1 &&& (1 : Int32)) = (0 : Int32)
  · refine g_ifT X0 hx hby at_8 ((if0 _ _).trans (teq c2).1) (by decide) (pc' := 15) (by decide) ?_
    refine g_iconst X0 hx hby (0 : Int32) at_15 (by decide) (rfl : 15 + 1 = 16) ?_
    refine g_istoreN X0 hx hby #[.val (.int x0), .val (.int x1), .val (.int (x0 &&& (1073741823 : Int32))), .val (.int (0 : Int32)), .unset, .unset, .unset] at_16 rfl (rfl : 16 + 1 = 17) ?_
    refine g_iloadN X0 hx hby at_17 rfl (rfl : 17 + 1 = 18) ?_
    refine g_iloadN X0 hx hby at_18 rfl (rfl : 18 + 1 = 19) ?_
    obtain ⟨_, _, ⟨T3, L3, k3, n3⟩, -, X3, ⟨Lc3, hQ3, l3, y3, z3⟩, st3⟩ := Jvm.LawKit.callS X0 hx (y := (⟨"com/example/forcon/forcon/analysis/Solver", "literal", "(IZ)I"⟩ : MethodName)) hown (mvT hZ (hw _ (List.mem_of_getElem? (i := 1) rfl))) (mvT hZ (hw _ (List.mem_of_getElem? (i := 2) rfl))) (mvT hZ (hw _ (List.mem_of_getElem? (i := 3) rfl))) (mvT hZ (hw _ (List.mem_of_getElem? (i := 4) rfl))) (by decide) (backOf (W := 0) (rm_lit l Z a0 hw [] (x0 &&& (1073741823 : Int32)) (0 : Int32) h0 n0 Z0) hZ (hw _ (List.mem_of_getElem? (i := 4) rfl)) (hw _ (List.mem_of_getElem? (i := 3) rfl)) (by decide) (by decide)) (g := (mkF m 19 #[.val (.int x0), .val (.int x1), .val (.int (x0 &&& (1073741823 : Int32))), .val (.int (0 : Int32)), .unset, .unset, .unset] [(.int (0 : Int32)), (.int (x0 &&& (1073741823 : Int32)))])) rfl (by rw [hml]; rfl) (argsL := [(.int (x0 &&& (1073741823 : Int32))), (.int (0 : Int32))]) (rest := []) (lenOf pd0 rfl) rfl (by show 2 * 0 + _ ≤ _; exact Nat.le_of_eq rfl) (hb hby at_19) (fun _ _ => ⟨rfl, e0, (by decide : 0 + 0 ≤ _), (by decide : 0 + 0 ≤ _)⟩)
    dsimp only [Pt.U, Pt.locs, Pt.cells, Pt.slots] at X3 l3 y3 z3 st3 hQ3
    subst l3 y3 z3
    obtain ⟨rfl, N3q, eq3⟩ := hQ3
    have N3 := Fr.app N0 N3q
    refine own_go st3 ?_
    show own_Got p e below _ T3 (mkF m 22 #[.val (.int x0), .val (.int x1), .val (.int (x0 &&& (1073741823 : Int32))), .val (.int (0 : Int32)), .unset, .unset, .unset] [(.int (F_lit (x0 &&& (1073741823 : Int32)) (0 : Int32)))])
    refine g_istore X3 hx hby #[.val (.int x0), .val (.int x1), .val (.int (x0 &&& (1073741823 : Int32))), .val (.int (0 : Int32)), .val (.int (F_lit (x0 &&& (1073741823 : Int32)) (0 : Int32))), .unset, .unset] at_22 rfl (rfl : 22 + 2 = 24) ?_
    refine g_iloadN X3 hx hby at_24 rfl (rfl : 24 + 1 = 25) ?_
    refine g_iloadN X3 hx hby at_25 rfl (rfl : 25 + 1 = 26) ?_
    refine g_ifF X3 hx hby at_26 ((if0 _ _).trans (teq (by decide : (0 : Int32) = (0 : Int32))).2) (rfl : 26 + 3 = 29) ?_
    refine g_iconst X3 hx hby (1 : Int32) at_29 (by decide) (rfl : 29 + 1 = 30) ?_
    refine g_goto X3 hx hby at_30 (by decide) (pc' := 34) (by decide) ?_
    obtain ⟨_, _, ⟨T4, L4, k4, n4⟩, -, X4, ⟨Lc4, hQ4, l4, y4, z4⟩, st4⟩ := Jvm.LawKit.callS X3 hx (y := (⟨"com/example/forcon/forcon/analysis/Solver", "literal", "(IZ)I"⟩ : MethodName)) hown (mvT hZ (hw _ (List.mem_of_getElem? (i := 1) rfl))) (mvT hZ (hw _ (List.mem_of_getElem? (i := 2) rfl))) (mvT hZ (hw _ (List.mem_of_getElem? (i := 3) rfl))) (mvT hZ (hw _ (List.mem_of_getElem? (i := 4) rfl))) (by decide) (backOf (W := 0) (rm_lit l Z a0 hw [] (x0 &&& (1073741823 : Int32)) (1 : Int32) h0 n0 Z0) hZ (hw _ (List.mem_of_getElem? (i := 4) rfl)) (hw _ (List.mem_of_getElem? (i := 3) rfl)) (by decide) (by decide)) (g := (mkF m 34 #[.val (.int x0), .val (.int x1), .val (.int (x0 &&& (1073741823 : Int32))), .val (.int (0 : Int32)), .val (.int (F_lit (x0 &&& (1073741823 : Int32)) (0 : Int32))), .unset, .unset] [(.int (1 : Int32)), (.int (x0 &&& (1073741823 : Int32)))])) rfl (by rw [hml]; rfl) (argsL := [(.int (x0 &&& (1073741823 : Int32))), (.int (1 : Int32))]) (rest := []) (lenOf pd0 rfl) rfl (by show 2 * 0 + _ ≤ _; exact Nat.le_of_eq rfl) (hb hby at_34) (fun _ _ => ⟨rfl, eq3, (by decide : 0 + 0 ≤ _), (by decide : 0 + 0 ≤ _)⟩)
    dsimp only [Pt.U, Pt.locs, Pt.cells, Pt.slots] at X4 l4 y4 z4 st4 hQ4
    subst l4 y4 z4
    obtain ⟨rfl, N4q, eq4⟩ := hQ4
    have N4 := Fr.app N3 N4q
    refine own_go st4 ?_
    show own_Got p e below _ T4 (mkF m 37 #[.val (.int x0), .val (.int x1), .val (.int (x0 &&& (1073741823 : Int32))), .val (.int (0 : Int32)), .val (.int (F_lit (x0 &&& (1073741823 : Int32)) (0 : Int32))), .unset, .unset] [(.int (F_lit (x0 &&& (1073741823 : Int32)) (1 : Int32)))])
    refine g_istore X4 hx hby #[.val (.int x0), .val (.int x1), .val (.int (x0 &&& (1073741823 : Int32))), .val (.int (0 : Int32)), .val (.int (F_lit (x0 &&& (1073741823 : Int32)) (0 : Int32))), .val (.int (F_lit (x0 &&& (1073741823 : Int32)) (1 : Int32))), .unset] at_37 rfl (rfl : 37 + 2 = 39) ?_
    refine g_iloadN X4 hx hby at_39 rfl (rfl : 39 + 1 = 40) ?_
    refine g_ifT X4 hx hby at_40 ((if0 _ _).trans (teq (by decide : (0 : Int32) = (0 : Int32))).1) (by decide) (pc' := 47) (by decide) ?_
    refine g_iconst X4 hx hby (1 : Int32) at_47 (by decide) (rfl : 47 + 1 = 48) ?_
    refine g_istore X4 hx hby #[.val (.int x0), .val (.int x1), .val (.int (x0 &&& (1073741823 : Int32))), .val (.int (0 : Int32)), .val (.int (F_lit (x0 &&& (1073741823 : Int32)) (0 : Int32))), .val (.int (F_lit (x0 &&& (1073741823 : Int32)) (1 : Int32))), .val (.int (1 : Int32))] at_48 rfl (rfl : 48 + 2 = 50) ?_
    refine g_iload X4 hx hby at_50 rfl (rfl : 50 + 2 = 52) ?_
    by_cases c5 : (F_lit (x0 &&& (1073741823 : Int32)) (0 : Int32)) < (0 : Int32)
    · refine g_ifF X4 hx hby at_52 ((if0 _ _).trans (tlt c5).2.1) (rfl : 52 + 3 = 55) ?_
      refine g_iconst X4 hx hby (0 : Int32) at_55 (by decide) (rfl : 55 + 1 = 56) ?_
      refine own_retN X4 hx hby hlk (t := .boolean) hrt (by simp) at_56 (by decide) (by decide) ?_
      show Q_law Z x0 x1 h0 n0 _ T4.heap _
      exact ⟨(congrArg (fun z => some (Value.int z)) (by rw [F_law, if_pos c2, if_pos c5] <;> rfl)), N4⟩
    · refine g_ifT X4 hx hby at_52 ((if0 _ _).trans (flt c5).2.1) (by decide) (pc' := 57) (by decide) ?_
      refine g_iload X4 hx hby at_57 rfl (rfl : 57 + 2 = 59) ?_
      refine g_iconst X4 hx hby (2 : Int32) at_59 (by decide) (rfl : 59 + 1 = 60) ?_
      refine g_idiv X4 hx hby at_60 (by decide) (rfl : 60 + 1 = 61) ?_
      refine g_iloadN X4 hx hby at_61 rfl (rfl : 61 + 1 = 62) ?_
      by_cases c6 : ((F_lit (x0 &&& (1073741823 : Int32)) (0 : Int32)) / (2 : Int32)) = (x0 &&& (1073741823 : Int32))
      · refine g_icT X4 hx hby at_62 (teq c6).1 (by decide) (pc' := 67) (by decide) ?_
        refine g_iload X4 hx hby at_67 rfl (rfl : 67 + 2 = 69) ?_
        refine g_iconst X4 hx hby (2 : Int32) at_69 (by decide) (rfl : 69 + 1 = 70) ?_
        refine g_irem X4 hx hby at_70 (by decide) (rfl : 70 + 1 = 71) ?_
        refine g_iload X4 hx hby at_71 rfl (rfl : 71 + 2 = 73) ?_
        by_cases c7 : ((F_lit (x0 &&& (1073741823 : Int32)) (0 : Int32)) % (2 : Int32)) = (1 : Int32)
        · refine g_icT X4 hx hby at_73 (teq c7).1 (by decide) (pc' := 78) (by decide) ?_
          refine g_iload X4 hx hby at_78 rfl (rfl : 78 + 2 = 80) ?_
          obtain ⟨_, _, ⟨T8, L8, k8, n8⟩, -, X8, ⟨Lc8, hQ8, l8, y8, z8⟩, st8⟩ := Jvm.LawKit.callS X4 hx (y := (⟨"com/example/forcon/forcon/analysis/Solver", "variable", "(I)I"⟩ : MethodName)) hown (mvT hZ (hw _ (List.mem_of_getElem? (i := 5) rfl))) (mvT hZ (hw _ (List.mem_of_getElem? (i := 6) rfl))) (mvT hZ (hw _ (List.mem_of_getElem? (i := 3) rfl))) (mvT hZ (hw _ (List.mem_of_getElem? (i := 7) rfl))) (by decide) (backOf (W := 0) (rm_var l Z a0 hw [] (F_lit (x0 &&& (1073741823 : Int32)) (0 : Int32)) h0 n0 Z0) hZ (hw _ (List.mem_of_getElem? (i := 7) rfl)) (hw _ (List.mem_of_getElem? (i := 3) rfl)) (by decide) (by decide)) (g := (mkF m 80 #[.val (.int x0), .val (.int x1), .val (.int (x0 &&& (1073741823 : Int32))), .val (.int (0 : Int32)), .val (.int (F_lit (x0 &&& (1073741823 : Int32)) (0 : Int32))), .val (.int (F_lit (x0 &&& (1073741823 : Int32)) (1 : Int32))), .val (.int (1 : Int32))] [(.int (F_lit (x0 &&& (1073741823 : Int32)) (0 : Int32)))])) rfl (by rw [hml]; rfl) (argsL := [(.int (F_lit (x0 &&& (1073741823 : Int32)) (0 : Int32)))]) (rest := []) (lenOf pd1 rfl) rfl (by show 2 * 0 + _ ≤ _; exact Nat.le_of_eq rfl) (hb hby at_80) (fun _ _ => ⟨rfl, eq4, (by decide : 0 + 0 ≤ _), (by decide : 0 + 0 ≤ _)⟩)
          dsimp only [Pt.U, Pt.locs, Pt.cells, Pt.slots] at X8 l8 y8 z8 st8 hQ8
          subst l8 y8 z8
          obtain ⟨rfl, N8q, eq8⟩ := hQ8
          have N8 := Fr.app N4 N8q
          refine own_go st8 ?_
          show own_Got p e below _ T8 (mkF m 83 #[.val (.int x0), .val (.int x1), .val (.int (x0 &&& (1073741823 : Int32))), .val (.int (0 : Int32)), .val (.int (F_lit (x0 &&& (1073741823 : Int32)) (0 : Int32))), .val (.int (F_lit (x0 &&& (1073741823 : Int32)) (1 : Int32))), .val (.int (1 : Int32))] [(.int (F_var (F_lit (x0 &&& (1073741823 : Int32)) (0 : Int32))))])
          refine g_iloadN X8 hx hby at_83 rfl (rfl : 83 + 1 = 84) ?_
          by_cases c9 : (F_var (F_lit (x0 &&& (1073741823 : Int32)) (0 : Int32))) = (x0 &&& (1073741823 : Int32))
          · refine g_icT X8 hx hby at_84 (teq c9).1 (by decide) (pc' := 89) (by decide) ?_
            refine g_iload X8 hx hby at_89 rfl (rfl : 89 + 2 = 91) ?_
            obtain ⟨_, _, ⟨T10, L10, k10, n10⟩, -, X10, ⟨Lc10, hQ10, l10, y10, z10⟩, st10⟩ := Jvm.LawKit.callS X8 hx (y := (⟨"com/example/forcon/forcon/analysis/Solver", "not", "(I)I"⟩ : MethodName)) hown (mvT hZ (hw _ (List.mem_of_getElem? (i := 8) rfl))) (mvT hZ (hw _ (List.mem_of_getElem? (i := 9) rfl))) (mvT hZ (hw _ (List.mem_of_getElem? (i := 3) rfl))) (mvT hZ (hw _ (List.mem_of_getElem? (i := 10) rfl))) (by decide) (backOf (W := 0) (rm_inv l Z a0 hw [] (F_lit (x0 &&& (1073741823 : Int32)) (0 : Int32)) h0 n0 Z0) hZ (hw _ (List.mem_of_getElem? (i := 10) rfl)) (hw _ (List.mem_of_getElem? (i := 3) rfl)) (by decide) (by decide)) (g := (mkF m 91 #[.val (.int x0), .val (.int x1), .val (.int (x0 &&& (1073741823 : Int32))), .val (.int (0 : Int32)), .val (.int (F_lit (x0 &&& (1073741823 : Int32)) (0 : Int32))), .val (.int (F_lit (x0 &&& (1073741823 : Int32)) (1 : Int32))), .val (.int (1 : Int32))] [(.int (F_lit (x0 &&& (1073741823 : Int32)) (0 : Int32)))])) rfl (by rw [hml]; rfl) (argsL := [(.int (F_lit (x0 &&& (1073741823 : Int32)) (0 : Int32)))]) (rest := []) (lenOf pd1 rfl) rfl (by show 2 * 0 + _ ≤ _; exact Nat.le_of_eq rfl) (hb hby at_91) (fun _ _ => ⟨rfl, eq8, (by decide : 0 + 0 ≤ _), (by decide : 0 + 0 ≤ _)⟩)
            dsimp only [Pt.U, Pt.locs, Pt.cells, Pt.slots] at X10 l10 y10 z10 st10 hQ10
            subst l10 y10 z10
            obtain ⟨rfl, N10q, eq10⟩ := hQ10
            have N10 := Fr.app N8 N10q
            refine own_go st10 ?_
            show own_Got p e below _ T10 (mkF m 94 #[.val (.int x0), .val (.int x1), .val (.int (x0 &&& (1073741823 : Int32))), .val (.int (0 : Int32)), .val (.int (F_lit (x0 &&& (1073741823 : Int32)) (0 : Int32))), .val (.int (F_lit (x0 &&& (1073741823 : Int32)) (1 : Int32))), .val (.int (1 : Int32))] [(.int (F_inv (F_lit (x0 &&& (1073741823 : Int32)) (0 : Int32))))])
            refine g_iload X10 hx hby at_94 rfl (rfl : 94 + 2 = 96) ?_
            by_cases c11 : (F_inv (F_lit (x0 &&& (1073741823 : Int32)) (0 : Int32))) = (F_lit (x0 &&& (1073741823 : Int32)) (1 : Int32))
            · refine g_icF X10 hx hby at_96 (teq c11).2 (rfl : 96 + 3 = 99) ?_
              refine g_iconst X10 hx hby (1 : Int32) at_99 (by decide) (rfl : 99 + 1 = 100) ?_
              refine g_goto X10 hx hby at_100 (by decide) (pc' := 104) (by decide) ?_
              refine own_retN X10 hx hby hlk (t := .boolean) hrt (by simp) at_104 (by decide) (by decide) ?_
              show Q_law Z x0 x1 h0 n0 _ T10.heap _
              exact ⟨(congrArg (fun z => some (Value.int z)) (by rw [F_law, if_pos c2, if_neg c5, if_pos c6, if_pos c7, if_pos c9, if_pos c11] <;> rfl)), N10⟩
            · refine g_icT X10 hx hby at_96 (feq c11).2 (by decide) (pc' := 103) (by decide) ?_
              refine g_iconst X10 hx hby (0 : Int32) at_103 (by decide) (rfl : 103 + 1 = 104) ?_
              refine own_retN X10 hx hby hlk (t := .boolean) hrt (by simp) at_104 (by decide) (by decide) ?_
              show Q_law Z x0 x1 h0 n0 _ T10.heap _
              exact ⟨(congrArg (fun z => some (Value.int z)) (by rw [F_law, if_pos c2, if_neg c5, if_pos c6, if_pos c7, if_pos c9, if_neg c11] <;> rfl)), N10⟩
          · refine g_icF X8 hx hby at_84 (feq c9).1 (rfl : 84 + 3 = 87) ?_
            refine g_iconst X8 hx hby (0 : Int32) at_87 (by decide) (rfl : 87 + 1 = 88) ?_
            refine own_retN X8 hx hby hlk (t := .boolean) hrt (by simp) at_88 (by decide) (by decide) ?_
            show Q_law Z x0 x1 h0 n0 _ T8.heap _
            exact ⟨(congrArg (fun z => some (Value.int z)) (by rw [F_law, if_pos c2, if_neg c5, if_pos c6, if_pos c7, if_neg c9] <;> rfl)), N8⟩
        · refine g_icF X4 hx hby at_73 (feq c7).1 (rfl : 73 + 3 = 76) ?_
          refine g_iconst X4 hx hby (0 : Int32) at_76 (by decide) (rfl : 76 + 1 = 77) ?_
          refine own_retN X4 hx hby hlk (t := .boolean) hrt (by simp) at_77 (by decide) (by decide) ?_
          show Q_law Z x0 x1 h0 n0 _ T4.heap _
          exact ⟨(congrArg (fun z => some (Value.int z)) (by rw [F_law, if_pos c2, if_neg c5, if_pos c6, if_neg c7] <;> rfl)), N4⟩
      · refine g_icF X4 hx hby at_62 (feq c6).1 (rfl : 62 + 3 = 65) ?_
        refine g_iconst X4 hx hby (0 : Int32) at_65 (by decide) (rfl : 65 + 1 = 66) ?_
        refine own_retN X4 hx hby hlk (t := .boolean) hrt (by simp) at_66 (by decide) (by decide) ?_
        show Q_law Z x0 x1 h0 n0 _ T4.heap _
        exact ⟨(congrArg (fun z => some (Value.int z)) (by rw [F_law, if_pos c2, if_neg c5, if_neg c6] <;> rfl)), N4⟩
  · refine g_ifF X0 hx hby at_8 ((if0 _ _).trans (feq c2).1) (rfl : 8 + 3 = 11) ?_
    refine g_iconst X0 hx hby (1 : Int32) at_11 (by decide) (rfl : 11 + 1 = 12) ?_
    refine g_goto X0 hx hby at_12 (by decide) (pc' := 16) (by decide) ?_
    refine g_istoreN X0 hx hby #[.val (.int x0), .val (.int x1), .val (.int (x0 &&& (1073741823 : Int32))), .val (.int (1 : Int32)), .unset, .unset, .unset] at_16 rfl (rfl : 16 + 1 = 17) ?_
    refine g_iloadN X0 hx hby at_17 rfl (rfl : 17 + 1 = 18) ?_
    refine g_iloadN X0 hx hby at_18 rfl (rfl : 18 + 1 = 19) ?_
    obtain ⟨_, _, ⟨T12, L12, k12, n12⟩, -, X12, ⟨Lc12, hQ12, l12, y12, z12⟩, st12⟩ := Jvm.LawKit.callS X0 hx (y := (⟨"com/example/forcon/forcon/analysis/Solver", "literal", "(IZ)I"⟩ : MethodName)) hown (mvT hZ (hw _ (List.mem_of_getElem? (i := 1) rfl))) (mvT hZ (hw _ (List.mem_of_getElem? (i := 2) rfl))) (mvT hZ (hw _ (List.mem_of_getElem? (i := 3) rfl))) (mvT hZ (hw _ (List.mem_of_getElem? (i := 4) rfl))) (by decide) (backOf (W := 0) (rm_lit l Z a0 hw [] (x0 &&& (1073741823 : Int32)) (1 : Int32) h0 n0 Z0) hZ (hw _ (List.mem_of_getElem? (i := 4) rfl)) (hw _ (List.mem_of_getElem? (i := 3) rfl)) (by decide) (by decide)) (g := (mkF m 19 #[.val (.int x0), .val (.int x1), .val (.int (x0 &&& (1073741823 : Int32))), .val (.int (1 : Int32)), .unset, .unset, .unset] [(.int (1 : Int32)), (.int (x0 &&& (1073741823 : Int32)))])) rfl (by rw [hml]; rfl) (argsL := [(.int (x0 &&& (1073741823 : Int32))), (.int (1 : Int32))]) (rest := []) (lenOf pd0 rfl) rfl (by show 2 * 0 + _ ≤ _; exact Nat.le_of_eq rfl) (hb hby at_19) (fun _ _ => ⟨rfl, e0, (by decide : 0 + 0 ≤ _), (by decide : 0 + 0 ≤ _)⟩)
    dsimp only [Pt.U, Pt.locs, Pt.cells, Pt.slots] at X12 l12 y12 z12 st12 hQ12
    subst l12 y12 z12
    obtain ⟨rfl, N12q, eq12⟩ := hQ12
    have N12 := Fr.app N0 N12q
    refine own_go st12 ?_
    show own_Got p e below _ T12 (mkF m 22 #[.val (.int x0), .val (.int x1), .val (.int (x0 &&& (1073741823 : Int32))), .val (.int (1 : Int32)), .unset, .unset, .unset] [(.int (F_lit (x0 &&& (1073741823 : Int32)) (1 : Int32)))])
    refine g_istore X12 hx hby #[.val (.int x0), .val (.int x1), .val (.int (x0 &&& (1073741823 : Int32))), .val (.int (1 : Int32)), .val (.int (F_lit (x0 &&& (1073741823 : Int32)) (1 : Int32))), .unset, .unset] at_22 rfl (rfl : 22 + 2 = 24) ?_
    refine g_iloadN X12 hx hby at_24 rfl (rfl : 24 + 1 = 25) ?_
    refine g_iloadN X12 hx hby at_25 rfl (rfl : 25 + 1 = 26) ?_
    refine g_ifT X12 hx hby at_26 ((if0 _ _).trans (feq (by decide : ¬ ((1 : Int32) = (0 : Int32)))).2) (by decide) (pc' := 33) (by decide) ?_
    refine g_iconst X12 hx hby (0 : Int32) at_33 (by decide) (rfl : 33 + 1 = 34) ?_
    obtain ⟨_, _, ⟨T13, L13, k13, n13⟩, -, X13, ⟨Lc13, hQ13, l13, y13, z13⟩, st13⟩ := Jvm.LawKit.callS X12 hx (y := (⟨"com/example/forcon/forcon/analysis/Solver", "literal", "(IZ)I"⟩ : MethodName)) hown (mvT hZ (hw _ (List.mem_of_getElem? (i := 1) rfl))) (mvT hZ (hw _ (List.mem_of_getElem? (i := 2) rfl))) (mvT hZ (hw _ (List.mem_of_getElem? (i := 3) rfl))) (mvT hZ (hw _ (List.mem_of_getElem? (i := 4) rfl))) (by decide) (backOf (W := 0) (rm_lit l Z a0 hw [] (x0 &&& (1073741823 : Int32)) (0 : Int32) h0 n0 Z0) hZ (hw _ (List.mem_of_getElem? (i := 4) rfl)) (hw _ (List.mem_of_getElem? (i := 3) rfl)) (by decide) (by decide)) (g := (mkF m 34 #[.val (.int x0), .val (.int x1), .val (.int (x0 &&& (1073741823 : Int32))), .val (.int (1 : Int32)), .val (.int (F_lit (x0 &&& (1073741823 : Int32)) (1 : Int32))), .unset, .unset] [(.int (0 : Int32)), (.int (x0 &&& (1073741823 : Int32)))])) rfl (by rw [hml]; rfl) (argsL := [(.int (x0 &&& (1073741823 : Int32))), (.int (0 : Int32))]) (rest := []) (lenOf pd0 rfl) rfl (by show 2 * 0 + _ ≤ _; exact Nat.le_of_eq rfl) (hb hby at_34) (fun _ _ => ⟨rfl, eq12, (by decide : 0 + 0 ≤ _), (by decide : 0 + 0 ≤ _)⟩)
    dsimp only [Pt.U, Pt.locs, Pt.cells, Pt.slots] at X13 l13 y13 z13 st13 hQ13
    subst l13 y13 z13
    obtain ⟨rfl, N13q, eq13⟩ := hQ13
    have N13 := Fr.app N12 N13q
    refine own_go st13 ?_
    show own_Got p e below _ T13 (mkF m 37 #[.val (.int x0), .val (.int x1), .val (.int (x0 &&& (1073741823 : Int32))), .val (.int (1 : Int32)), .val (.int (F_lit (x0 &&& (1073741823 : Int32)) (1 : Int32))), .unset, .unset] [(.int (F_lit (x0 &&& (1073741823 : Int32)) (0 : Int32)))])
    refine g_istore X13 hx hby #[.val (.int x0), .val (.int x1), .val (.int (x0 &&& (1073741823 : Int32))), .val (.int (1 : Int32)), .val (.int (F_lit (x0 &&& (1073741823 : Int32)) (1 : Int32))), .val (.int (F_lit (x0 &&& (1073741823 : Int32)) (0 : Int32))), .unset] at_37 rfl (rfl : 37 + 2 = 39) ?_
    refine g_iloadN X13 hx hby at_39 rfl (rfl : 39 + 1 = 40) ?_
    refine g_ifF X13 hx hby at_40 ((if0 _ _).trans (feq (by decide : ¬ ((1 : Int32) = (0 : Int32)))).1) (rfl : 40 + 3 = 43) ?_
    refine g_iconst X13 hx hby (0 : Int32) at_43 (by decide) (rfl : 43 + 1 = 44) ?_
    refine g_goto X13 hx hby at_44 (by decide) (pc' := 48) (by decide) ?_
    refine g_istore X13 hx hby #[.val (.int x0), .val (.int x1), .val (.int (x0 &&& (1073741823 : Int32))), .val (.int (1 : Int32)), .val (.int (F_lit (x0 &&& (1073741823 : Int32)) (1 : Int32))), .val (.int (F_lit (x0 &&& (1073741823 : Int32)) (0 : Int32))), .val (.int (0 : Int32))] at_48 rfl (rfl : 48 + 2 = 50) ?_
    refine g_iload X13 hx hby at_50 rfl (rfl : 50 + 2 = 52) ?_
    by_cases c14 : (F_lit (x0 &&& (1073741823 : Int32)) (1 : Int32)) < (0 : Int32)
    · refine g_ifF X13 hx hby at_52 ((if0 _ _).trans (tlt c14).2.1) (rfl : 52 + 3 = 55) ?_
      refine g_iconst X13 hx hby (0 : Int32) at_55 (by decide) (rfl : 55 + 1 = 56) ?_
      refine own_retN X13 hx hby hlk (t := .boolean) hrt (by simp) at_56 (by decide) (by decide) ?_
      show Q_law Z x0 x1 h0 n0 _ T13.heap _
      exact ⟨(congrArg (fun z => some (Value.int z)) (by rw [F_law, if_neg c2, if_pos c14] <;> rfl)), N13⟩
    · refine g_ifT X13 hx hby at_52 ((if0 _ _).trans (flt c14).2.1) (by decide) (pc' := 57) (by decide) ?_
      refine g_iload X13 hx hby at_57 rfl (rfl : 57 + 2 = 59) ?_
      refine g_iconst X13 hx hby (2 : Int32) at_59 (by decide) (rfl : 59 + 1 = 60) ?_
      refine g_idiv X13 hx hby at_60 (by decide) (rfl : 60 + 1 = 61) ?_
      refine g_iloadN X13 hx hby at_61 rfl (rfl : 61 + 1 = 62) ?_
      by_cases c15 : ((F_lit (x0 &&& (1073741823 : Int32)) (1 : Int32)) / (2 : Int32)) = (x0 &&& (1073741823 : Int32))
      · refine g_icT X13 hx hby at_62 (teq c15).1 (by decide) (pc' := 67) (by decide) ?_
        refine g_iload X13 hx hby at_67 rfl (rfl : 67 + 2 = 69) ?_
        refine g_iconst X13 hx hby (2 : Int32) at_69 (by decide) (rfl : 69 + 1 = 70) ?_
        refine g_irem X13 hx hby at_70 (by decide) (rfl : 70 + 1 = 71) ?_
        refine g_iload X13 hx hby at_71 rfl (rfl : 71 + 2 = 73) ?_
        by_cases c16 : ((F_lit (x0 &&& (1073741823 : Int32)) (1 : Int32)) % (2 : Int32)) = (0 : Int32)
        · refine g_icT X13 hx hby at_73 (teq c16).1 (by decide) (pc' := 78) (by decide) ?_
          refine g_iload X13 hx hby at_78 rfl (rfl : 78 + 2 = 80) ?_
          obtain ⟨_, _, ⟨T17, L17, k17, n17⟩, -, X17, ⟨Lc17, hQ17, l17, y17, z17⟩, st17⟩ := Jvm.LawKit.callS X13 hx (y := (⟨"com/example/forcon/forcon/analysis/Solver", "variable", "(I)I"⟩ : MethodName)) hown (mvT hZ (hw _ (List.mem_of_getElem? (i := 5) rfl))) (mvT hZ (hw _ (List.mem_of_getElem? (i := 6) rfl))) (mvT hZ (hw _ (List.mem_of_getElem? (i := 3) rfl))) (mvT hZ (hw _ (List.mem_of_getElem? (i := 7) rfl))) (by decide) (backOf (W := 0) (rm_var l Z a0 hw [] (F_lit (x0 &&& (1073741823 : Int32)) (1 : Int32)) h0 n0 Z0) hZ (hw _ (List.mem_of_getElem? (i := 7) rfl)) (hw _ (List.mem_of_getElem? (i := 3) rfl)) (by decide) (by decide)) (g := (mkF m 80 #[.val (.int x0), .val (.int x1), .val (.int (x0 &&& (1073741823 : Int32))), .val (.int (1 : Int32)), .val (.int (F_lit (x0 &&& (1073741823 : Int32)) (1 : Int32))), .val (.int (F_lit (x0 &&& (1073741823 : Int32)) (0 : Int32))), .val (.int (0 : Int32))] [(.int (F_lit (x0 &&& (1073741823 : Int32)) (1 : Int32)))])) rfl (by rw [hml]; rfl) (argsL := [(.int (F_lit (x0 &&& (1073741823 : Int32)) (1 : Int32)))]) (rest := []) (lenOf pd1 rfl) rfl (by show 2 * 0 + _ ≤ _; exact Nat.le_of_eq rfl) (hb hby at_80) (fun _ _ => ⟨rfl, eq13, (by decide : 0 + 0 ≤ _), (by decide : 0 + 0 ≤ _)⟩)
          dsimp only [Pt.U, Pt.locs, Pt.cells, Pt.slots] at X17 l17 y17 z17 st17 hQ17
          subst l17 y17 z17
          obtain ⟨rfl, N17q, eq17⟩ := hQ17
          have N17 := Fr.app N13 N17q
          refine own_go st17 ?_
          show own_Got p e below _ T17 (mkF m 83 #[.val (.int x0), .val (.int x1), .val (.int (x0 &&& (1073741823 : Int32))), .val (.int (1 : Int32)), .val (.int (F_lit (x0 &&& (1073741823 : Int32)) (1 : Int32))), .val (.int (F_lit (x0 &&& (1073741823 : Int32)) (0 : Int32))), .val (.int (0 : Int32))] [(.int (F_var (F_lit (x0 &&& (1073741823 : Int32)) (1 : Int32))))])
          refine g_iloadN X17 hx hby at_83 rfl (rfl : 83 + 1 = 84) ?_
          by_cases c18 : (F_var (F_lit (x0 &&& (1073741823 : Int32)) (1 : Int32))) = (x0 &&& (1073741823 : Int32))
          · refine g_icT X17 hx hby at_84 (teq c18).1 (by decide) (pc' := 89) (by decide) ?_
            refine g_iload X17 hx hby at_89 rfl (rfl : 89 + 2 = 91) ?_
            obtain ⟨_, _, ⟨T19, L19, k19, n19⟩, -, X19, ⟨Lc19, hQ19, l19, y19, z19⟩, st19⟩ := Jvm.LawKit.callS X17 hx (y := (⟨"com/example/forcon/forcon/analysis/Solver", "not", "(I)I"⟩ : MethodName)) hown (mvT hZ (hw _ (List.mem_of_getElem? (i := 8) rfl))) (mvT hZ (hw _ (List.mem_of_getElem? (i := 9) rfl))) (mvT hZ (hw _ (List.mem_of_getElem? (i := 3) rfl))) (mvT hZ (hw _ (List.mem_of_getElem? (i := 10) rfl))) (by decide) (backOf (W := 0) (rm_inv l Z a0 hw [] (F_lit (x0 &&& (1073741823 : Int32)) (1 : Int32)) h0 n0 Z0) hZ (hw _ (List.mem_of_getElem? (i := 10) rfl)) (hw _ (List.mem_of_getElem? (i := 3) rfl)) (by decide) (by decide)) (g := (mkF m 91 #[.val (.int x0), .val (.int x1), .val (.int (x0 &&& (1073741823 : Int32))), .val (.int (1 : Int32)), .val (.int (F_lit (x0 &&& (1073741823 : Int32)) (1 : Int32))), .val (.int (F_lit (x0 &&& (1073741823 : Int32)) (0 : Int32))), .val (.int (0 : Int32))] [(.int (F_lit (x0 &&& (1073741823 : Int32)) (1 : Int32)))])) rfl (by rw [hml]; rfl) (argsL := [(.int (F_lit (x0 &&& (1073741823 : Int32)) (1 : Int32)))]) (rest := []) (lenOf pd1 rfl) rfl (by show 2 * 0 + _ ≤ _; exact Nat.le_of_eq rfl) (hb hby at_91) (fun _ _ => ⟨rfl, eq17, (by decide : 0 + 0 ≤ _), (by decide : 0 + 0 ≤ _)⟩)
            dsimp only [Pt.U, Pt.locs, Pt.cells, Pt.slots] at X19 l19 y19 z19 st19 hQ19
            subst l19 y19 z19
            obtain ⟨rfl, N19q, eq19⟩ := hQ19
            have N19 := Fr.app N17 N19q
            refine own_go st19 ?_
            show own_Got p e below _ T19 (mkF m 94 #[.val (.int x0), .val (.int x1), .val (.int (x0 &&& (1073741823 : Int32))), .val (.int (1 : Int32)), .val (.int (F_lit (x0 &&& (1073741823 : Int32)) (1 : Int32))), .val (.int (F_lit (x0 &&& (1073741823 : Int32)) (0 : Int32))), .val (.int (0 : Int32))] [(.int (F_inv (F_lit (x0 &&& (1073741823 : Int32)) (1 : Int32))))])
            refine g_iload X19 hx hby at_94 rfl (rfl : 94 + 2 = 96) ?_
            by_cases c20 : (F_inv (F_lit (x0 &&& (1073741823 : Int32)) (1 : Int32))) = (F_lit (x0 &&& (1073741823 : Int32)) (0 : Int32))
            · refine g_icF X19 hx hby at_96 (teq c20).2 (rfl : 96 + 3 = 99) ?_
              refine g_iconst X19 hx hby (1 : Int32) at_99 (by decide) (rfl : 99 + 1 = 100) ?_
              refine g_goto X19 hx hby at_100 (by decide) (pc' := 104) (by decide) ?_
              refine own_retN X19 hx hby hlk (t := .boolean) hrt (by simp) at_104 (by decide) (by decide) ?_
              show Q_law Z x0 x1 h0 n0 _ T19.heap _
              exact ⟨(congrArg (fun z => some (Value.int z)) (by rw [F_law, if_neg c2, if_neg c14, if_pos c15, if_pos c16, if_pos c18, if_pos c20] <;> rfl)), N19⟩
            · refine g_icT X19 hx hby at_96 (feq c20).2 (by decide) (pc' := 103) (by decide) ?_
              refine g_iconst X19 hx hby (0 : Int32) at_103 (by decide) (rfl : 103 + 1 = 104) ?_
              refine own_retN X19 hx hby hlk (t := .boolean) hrt (by simp) at_104 (by decide) (by decide) ?_
              show Q_law Z x0 x1 h0 n0 _ T19.heap _
              exact ⟨(congrArg (fun z => some (Value.int z)) (by rw [F_law, if_neg c2, if_neg c14, if_pos c15, if_pos c16, if_pos c18, if_neg c20] <;> rfl)), N19⟩
          · refine g_icF X17 hx hby at_84 (feq c18).1 (rfl : 84 + 3 = 87) ?_
            refine g_iconst X17 hx hby (0 : Int32) at_87 (by decide) (rfl : 87 + 1 = 88) ?_
            refine own_retN X17 hx hby hlk (t := .boolean) hrt (by simp) at_88 (by decide) (by decide) ?_
            show Q_law Z x0 x1 h0 n0 _ T17.heap _
            exact ⟨(congrArg (fun z => some (Value.int z)) (by rw [F_law, if_neg c2, if_neg c14, if_pos c15, if_pos c16, if_neg c18] <;> rfl)), N17⟩
        · refine g_icF X13 hx hby at_73 (feq c16).1 (rfl : 73 + 3 = 76) ?_
          refine g_iconst X13 hx hby (0 : Int32) at_76 (by decide) (rfl : 76 + 1 = 77) ?_
          refine own_retN X13 hx hby hlk (t := .boolean) hrt (by simp) at_77 (by decide) (by decide) ?_
          show Q_law Z x0 x1 h0 n0 _ T13.heap _
          exact ⟨(congrArg (fun z => some (Value.int z)) (by rw [F_law, if_neg c2, if_neg c14, if_pos c15, if_neg c16] <;> rfl)), N13⟩
      · refine g_icF X13 hx hby at_62 (feq c15).1 (rfl : 62 + 3 = 65) ?_
        refine g_iconst X13 hx hby (0 : Int32) at_65 (by decide) (rfl : 65 + 1 = 66) ?_
        refine own_retN X13 hx hby hlk (t := .boolean) hrt (by simp) at_66 (by decide) (by decide) ?_
        show Q_law Z x0 x1 h0 n0 _ T13.heap _
        exact ⟨(congrArg (fun z => some (Value.int z)) (by rw [F_law, if_neg c2, if_neg c14, if_neg c15] <;> rfl)), N13⟩
theorem own_nx (n : Nat) : (2 * n + 1) ^^^ 1 = 2 * n ∧ (2 * n) ^^^ 1 = 2 * n + 1 := by
  constructor <;>
  · apply Nat.eq_of_testBit_eq
    intro i
    cases i with
    | zero => simp [Nat.testBit_xor, Nat.testBit_zero]
    | succ i =>
      rw [Nat.testBit_xor, Nat.testBit_succ, Nat.testBit_succ, Nat.testBit_succ]
      have e1 : (2 * n + 1) / 2 = n := by omega
      have e2 : 2 * n / 2 = n := by omega
      have e3 : 1 / 2 = 0 := by decide
      simp [e1, e2, e3]
theorem own_xor1 {x y : Int32} (hx : 0 ≤ x.toInt) (h : (x.toInt % 2 = 1 ∧ y.toInt = x.toInt - 1) ∨ (x.toInt % 2 = 0 ∧ y.toInt = x.toInt + 1)) : x ^^^ 1 = y := by
  apply Int32.toBitVec_inj.mp
  apply BitVec.eq_of_toNat_eq
  rw [Int32.toBitVec_xor, BitVec.toNat_xor]
  have e1 : (1 : Int32).toBitVec.toNat = 1 := by decide
  rw [e1]
  have hxn : x.toInt = x.toBitVec.toNat := by
    have := x.toBitVec.toInt_eq_toNat_cond
    have l := x.toBitVec.isLt
    show x.toBitVec.toInt = _
    have hx' : 0 ≤ x.toBitVec.toInt := hx
    split at this <;> omega
  have hyn : y.toInt = y.toBitVec.toNat := by
    have := y.toBitVec.toInt_eq_toNat_cond
    have l := y.toBitVec.isLt
    have hy' : 0 ≤ y.toBitVec.toInt := by show 0 ≤ y.toInt; omega
    show y.toBitVec.toInt = _
    split at this <;> omega
  rcases h with ⟨h1, h2⟩ | ⟨h1, h2⟩
  · have q := (own_nx (y.toBitVec.toNat / 2)).1
    have e : x.toBitVec.toNat = 2 * (y.toBitVec.toNat / 2) + 1 := by omega
    rw [e, q]; omega
  · have q := (own_nx (x.toBitVec.toNat / 2)).2
    have e : x.toBitVec.toNat = 2 * (x.toBitVec.toNat / 2) := by omega
    rw [e, q]; omega
theorem own_lit (a : Int32) : (F_lit (a &&& 1073741823) 0).toInt = 2 * (a &&& 1073741823).toInt + 1 ∧ (F_lit (a &&& 1073741823) 1).toInt = 2 * (a &&& 1073741823).toInt ∧ 0 ≤ (a &&& 1073741823).toInt ∧ (a &&& 1073741823).toInt < 1073741824 := by
  have h := c_and a 1073741823 (by decide)
  have e : (1073741823 : Int32).toInt = 1073741823 := by decide
  generalize a &&& 1073741823 = v at h ⊢
  have e2 : (2 : Int32).toInt = 2 := by decide
  have e1 : (1 : Int32).toInt = 1 := by decide
  have e0 : (0 : Int32).toInt = 0 := by decide
  have m := c_imul 2 v
  rw [e2] at m
  have r := rng32 (2 * v)
  have a1 := c_iadd (2 * v) 1
  have r1 := rng32 (2 * v + 1)
  have a0 := c_iadd (2 * v) 0
  have r0 := rng32 (2 * v + 0)
  have f0 : F_lit v 0 = 2 * v + 1 := by rw [F_lit, if_pos rfl]
  have f1 : F_lit v 1 = 2 * v + 0 := by rw [F_lit, if_neg (by decide)]
  rw [f0, f1]
  refine ⟨?_, ?_, ?_, ?_⟩ <;> omega
theorem own_plain (a f : Int32) : F_law a f = 1 := by
  obtain ⟨h0, h1, h2, h3⟩ := own_lit a
  have e0 : (0 : Int32).toInt = 0 := by decide
  have e1 : (1 : Int32).toInt = 1 := by decide
  have e2 : (2 : Int32).toInt = 2 := by decide
  unfold F_law
  generalize hx : F_lit (a &&& 1073741823) 0 = x at *
  generalize hy : F_lit (a &&& 1073741823) 1 = y at *
  generalize a &&& 1073741823 = v at *
  have nx : ¬ x < 0 := by rw [Int32.lt_iff_toInt_lt]; omega
  have ny : ¬ y < 0 := by rw [Int32.lt_iff_toInt_lt]; omega
  have dx : x / 2 = v := by
    apply Int32.toInt_inj.mp
    have := (c_idiv x 2 2 (by decide) (by decide)).1 (by omega)
    omega
  have dy : y / 2 = v := by
    apply Int32.toInt_inj.mp
    have := (c_idiv y 2 2 (by decide) (by decide)).1 (by omega)
    omega
  have rx : x % 2 = 1 := by
    apply Int32.toInt_inj.mp
    have := (c_irem x 2 2 (by decide)).1 (by omega)
    omega
  have ry : y % 2 = 0 := by
    apply Int32.toInt_inj.mp
    have := (c_irem y 2 2 (by decide)).1 (by omega)
    omega
  have vx : F_var x = v := by
    apply Int32.toInt_inj.mp
    have := c_ishr x 1 1 (by decide)
    show (x >>> (1 &&& 31)).toInt = _
    omega
  have vy : F_var y = v := by
    apply Int32.toInt_inj.mp
    have := c_ishr y 1 1 (by decide)
    show (y >>> (1 &&& 31)).toInt = _
    omega
  have ix : F_inv x = y := own_xor1 (by omega) (Or.inl ⟨by omega, by omega⟩)
  have iy : F_inv y = x := own_xor1 (by omega) (Or.inr ⟨by omega, by omega⟩)
  simp [nx, ny, dx, dy, rx, ry, vx, vy, ix, iy]

set_option maxRecDepth 65536 in
set_option maxHeartbeats 40000000 in
theorem comes_1 {Post : Tables → Env → Array Value → State → Outcome → State → Prop} (hpost : ∀ tb e args s v u, (limb_1_1.after args s (.returned v) u = true ∧ limb_1_2.after args s (.returned v) u = true ∧ True) → FrameEnd s (.returned v) u (Jvm.fieldLocs frame_1_writes args s ++ Jvm.arrayLocs frame_1_arrays args s ++ Jvm.staticLocs frame_1_statics s) 0 0 → Post tb e args s (.returned v) u) :
    ArmFor flags0 classFile x code maxLocals ret World_1 tables_1 room_1 Calls_1 rest_1 Pre_1 Post := by
  intro l hfl _ _ p e ha hc hk s m args below hf hA hF happ hP
  obtain ⟨hcalls, hrest, hpre⟩ := hP
  obtain ⟨-, -, -, hnamed, -, -, -, hat⟩ := (Spec.applies_iff hf).mp happ
  obtain ⟨hg, hn⟩ := and_e (Cond.before_iff.mp (show (Jvm.Cond.and given_1 narrow_1).before args s = true from hpre))
  obtain ⟨hcnt, hg0⟩ := and_e hg
  obtain ⟨ha0, hg1⟩ := and_e hg0
  obtain ⟨w0, w1, rfl⟩ : ∃ w0 w1 : Value, args = #[w0, w1] := by
    have hs : args.size = 2 := by simpa [Cond.value, given_1] using hcnt
    obtain ⟨L⟩ := args
    match L, hs with
    | [w0, w1], _ => exact ⟨w0, w1, rfl⟩
  have hw := fun d (hd : d ∈ tables_1) => atoms_spec (ws := Jvm.Cond.code x code maxLocals ret :: tables_1) hat d (List.mem_cons_of_mem _ hd)
  have hfit : Fit s := fun {y c} hc i hi => by
    obtain ⟨ha, rfl⟩ := Array.getElem?_eq_some_iff.mp hc
    have q := List.all_eq_true.mp ((Array.all_eq_true_iff_forall_mem.mp hF) _ (Array.getElem_mem ha)) i (List.mem_range.mpr hi)
    simpa [Array.getElem?_eq_getElem hi] using q
  obtain ⟨i0, ei0⟩ := is_v ha0
  obtain rfl : w0 = (.int i0) := Option.some.inj ei0
  obtain ⟨i1, ei1⟩ := is_v hg1
  obtain rfl : w1 = (.int i1) := Option.some.inj ei1
  obtain ⟨n, o, h1, h2, h3, _, L, rfl, ⟨hv, N⟩, hq⟩ := rm_law l s _ hw tables_1 i0 i1 s.heap s.heap.size (Nat.le_refl _)  p e ha hc hk s m _ below hf ((Spec.applies_iff_loose hf).mp happ).1 ⟨rfl, State.Warmed39.refl s, rfl⟩ trivial
  rw [own_plain] at hv
  subst hv
  refine ⟨n, _, h1, h2, h3, hpost _ _ _ _ _ _ ⟨Cond.after_iff.mpr rfl, Cond.after_iff.mpr (eq_i res_at (Term.int_eval (1)) rfl), trivial⟩ ⟨hq.1, hq.2.1, (hq.2.2.sift fun y hy => Or.inr (N y hy)).mono (by decide) (by decide)⟩⟩
theorem main_1_1 : Claimed_1_1 := comes_1 fun _ _ _ _ _ _ h hF => ⟨h.1, hF⟩
theorem main_1_2 : Claimed_1_2 := comes_1 fun _ _ _ _ _ _ h hF => ⟨h.2.1, hF⟩
end Jvm.Pilot.@@N@@
namespace Jvm.Pilot.@@N@@
open Jvm Jvm.ClassFile Sem Op Lib Jvm.Free Jvm.Stand Jvm.Pilot.@@N@@.Jvm.D
/-! MADE BY PROGRAM (witnessworld.py) out of the Statement's table words and the real class files: 9 classes; the members and pool entries that the words name. The judged class is class 1, her method 1. -/
namespace start1
open Jvm.ClassFile
def u (s : String) : CpInfo := .utf8 (stringToUtf16 s)
/-- a pool by its gaps: so many unusable entries, then the entry; so many at the end -/
def gap : Nat → List CpInfo → List CpInfo
  | 0, r => r
  | n + 1, r => .unusable :: gap n r
def poolList (es : List (Nat × CpInfo)) (last : Nat) : List CpInfo := es.foldr (fun e r => gap e.1 (e.2 :: r)) (gap last [])
def pool (es : List (Nat × CpInfo)) (last : Nat) : Array CpInfo := ⟨poolList es last⟩
def fileOf (pool : Array CpInfo) (this : Nat) (attrs : Array Attribute := #[]) (ms : Array MethodInfo := #[]) (fl : Nat := 33) (sup : Nat := 0) (ifs : Array Nat := #[]) (fds : Array FieldInfo := #[]) : ClassFile where
  minorVersion := 0
  majorVersion := 65
  constantPool := pool
  accessFlags := fl
  thisClass := this
  superClass := sup
  interfaces := ifs
  fields := fds
  methods := ms
  attributes := attrs
def plain (name : String) (sup : Option ClassId) : Class where
  name := name
  kind := .ordinary
  loader := none
  accessFlags := 33
  super := sup
  interfaces := #[]
  cf := none
  fields := #[]
  methods := #[]
  instanceTypes := #[]
  staticTypes := #[]
  resolved := #[]
  callSites := []
  init := .initialized
  statics := none
  mirror := none

def pool0 : Array CpInfo := pool [(5, u "<init>"), (0, u "()V"), (1, .class_ 10), (1, u "java/lang/Object")] 113

def k0m0 : Method := { name := "<init>", desc := "()V", sig := { parameters := [], returnType := none }, accessFlags := 1, code := none }
/-- java/lang/Object -/
def k0 : Class := { plain "java/lang/Object" none with
  accessFlags := 33
  interfaces := #[]
  cf := some (fileOf pool0 8 #[] #[{ accessFlags := 1, nameIndex := 5, descriptorIndex := 6, attributes := #[] }] 33 0 #[] #[])
  fields := #[]
  methods := #[k0m0]
  instanceTypes := #[]
  staticTypes := #[]
  resolved := Array.replicate 124 none
  statics := none }

def pool1 : Array CpInfo := pool [(2, .class_ 4), (1, u "java/lang/Object"), (0, u "<init>"), (0, u "()V"), (0, .integer 1073741823), (0, .methodref 9 10), (0, .class_ 11), (0, .nameAndType 12 13), (0, u "com/example/forcon/forcon/analysis/Solver"), (0, u "literal"), (0, u "(IZ)I"), (0, .methodref 9 15), (0, .nameAndType 16 17), (0, u "variable"), (0, u "(I)I"), (0, .methodref 9 19), (0, .nameAndType 20 17), (0, u "not"), (0, .class_ 22), (0, u "com/example/forcon/forcon/analysis/SolverLiteralPinLaw"), (2, u "law"), (0, u "(II)Z")] 3

def k1m0 : Method := { name := "<init>", desc := "()V", sig := { parameters := [], returnType := none }, accessFlags := 1, code := none }
def k1c1 : Code := { maxStack := 2, maxLocals := 7, code := code, exceptionTable := #[], attributes := #[] }
def k1m1 : Method := { name := "law", desc := "(II)Z", sig := { parameters := [.int, .int], returnType := some .boolean }, accessFlags := 9, code := some k1c1 }
/-- com/example/forcon/forcon/analysis/SolverLiteralPinLaw -/
def k1 : Class := { plain "com/example/forcon/forcon/analysis/SolverLiteralPinLaw" (some 0) with
  accessFlags := 49
  interfaces := #[]
  cf := some (fileOf pool1 21 #[] #[{ accessFlags := 1, nameIndex := 5, descriptorIndex := 6, attributes := #[] }, { accessFlags := 9, nameIndex := 25, descriptorIndex := 26, attributes := #[] }] 49 2 #[] #[])
  fields := #[]
  methods := #[k1m0, k1m1]
  instanceTypes := #[]
  staticTypes := #[]
  resolved := Array.replicate 30 none
  statics := none }

def pool2 : Array CpInfo := pool [(2, .class_ 4), (1, u "java/lang/Object"), (3, .class_ 10), (1, u "com/example/forcon/forcon/analysis/Solver"), (0, u "values"), (0, u "[B"), (2, u "levels"), (0, u "[I"), (0, .class_ 18), (0, u "com/example/forcon/forcon/analysis/Solver$Reason"), (2, u "reasons"), (0, u "[Lcom/example/forcon/forcon/analysis/Solver$Reason;"), (2, u "phases"), (0, u "[Z"), (2, u "seen"), (2, u "activities"), (0, u "[D"), (5, u "watches"), (0, u "Ljava/util/List;"), (2, u "occurrences"), (0, .class_ 45), (0, u "com/example/forcon/forcon/analysis/Solver$Heap"), (5, u "order"), (0, u "Lcom/example/forcon/forcon/analysis/Solver$Heap;"), (2, u "trail"), (2, u "levelStarts"), (2, u "activityIncrement"), (0, u "D"), (2, u "consistent"), (0, u "Z"), (2, u "model"), (5, u "failed"), (0, u "Ljava/util/SortedSet;"), (2, u "stop"), (0, u "Lcom/example/forcon/forcon/analysis/Stop;"), (2, u "variables"), (0, u "I"), (32, u "not"), (0, u "(I)I"), (8, .class_ 128), (0, u "com/example/forcon/forcon/analysis/Solver$Clause"), (10, .class_ 140), (0, u "com/example/forcon/forcon/analysis/Solver$AtMost"), (21, u "FALSE"), (25, u "level"), (20, u "literal"), (0, u "(IZ)I"), (2, u "propagated"), (2, u "trailSize"), (41, u "variable"), (40, u "RESTART_CONFLICTS"), (2, u "ACTIVITY_DECAY"), (0, u "ACTIVITY_LIMIT"), (0, u "TRUE"), (0, u "B"), (2, u "UNASSIGNED")] 31

def k2c0 : Code := { maxStack := 2, maxLocals := 2, code := prog_7_method_2_code, exceptionTable := #[], attributes := #[] }
def k2m0 : Method := { name := "literal", desc := "(IZ)I", sig := { parameters := [.int, .boolean], returnType := some .int }, accessFlags := 8, code := some k2c0 }
def k2c1 : Code := { maxStack := 2, maxLocals := 1, code := prog_7_method_3_code, exceptionTable := #[], attributes := #[] }
def k2m1 : Method := { name := "not", desc := "(I)I", sig := { parameters := [.int], returnType := some .int }, accessFlags := 8, code := some k2c1 }
def k2c2 : Code := { maxStack := 2, maxLocals := 1, code := prog_7_method_4_code, exceptionTable := #[], attributes := #[] }
def k2m2 : Method := { name := "variable", desc := "(I)I", sig := { parameters := [.int], returnType := some .int }, accessFlags := 8, code := some k2c2 }
/-- com/example/forcon/forcon/analysis/Solver -/
def k2 : Class := { plain "com/example/forcon/forcon/analysis/Solver" (some 0) with
  accessFlags := 48
  interfaces := #[]
  cf := some (fileOf pool2 8 #[.nestMembers #[44, 139, 127, 17]] #[{ accessFlags := 8, nameIndex := 209, descriptorIndex := 210, attributes := #[] }, { accessFlags := 8, nameIndex := 117, descriptorIndex := 118, attributes := #[] }, { accessFlags := 8, nameIndex := 258, descriptorIndex := 118, attributes := #[] }] 48 2 #[] #[{ accessFlags := 26, nameIndex := 299, descriptorIndex := 84, attributes := #[] }, { accessFlags := 26, nameIndex := 302, descriptorIndex := 62, attributes := #[] }, { accessFlags := 26, nameIndex := 303, descriptorIndex := 62, attributes := #[] }, { accessFlags := 26, nameIndex := 304, descriptorIndex := 305, attributes := #[] }, { accessFlags := 26, nameIndex := 162, descriptorIndex := 305, attributes := #[] }, { accessFlags := 26, nameIndex := 308, descriptorIndex := 305, attributes := #[] }, { accessFlags := 18, nameIndex := 79, descriptorIndex := 80, attributes := #[] }, { accessFlags := 2, nameIndex := 83, descriptorIndex := 84, attributes := #[] }, { accessFlags := 2, nameIndex := 11, descriptorIndex := 12, attributes := #[] }, { accessFlags := 2, nameIndex := 15, descriptorIndex := 16, attributes := #[] }, { accessFlags := 2, nameIndex := 21, descriptorIndex := 22, attributes := #[] }, { accessFlags := 2, nameIndex := 25, descriptorIndex := 26, attributes := #[] }, { accessFlags := 2, nameIndex := 29, descriptorIndex := 26, attributes := #[] }, { accessFlags := 2, nameIndex := 32, descriptorIndex := 33, attributes := #[] }, { accessFlags := 2, nameIndex := 39, descriptorIndex := 40, attributes := #[] }, { accessFlags := 2, nameIndex := 43, descriptorIndex := 40, attributes := #[] }, { accessFlags := 18, nameIndex := 51, descriptorIndex := 52, attributes := #[] }, { accessFlags := 2, nameIndex := 55, descriptorIndex := 16, attributes := #[] }, { accessFlags := 2, nameIndex := 216, descriptorIndex := 84, attributes := #[] }, { accessFlags := 2, nameIndex := 58, descriptorIndex := 16, attributes := #[] }, { accessFlags := 2, nameIndex := 188, descriptorIndex := 84, attributes := #[] }, { accessFlags := 2, nameIndex := 213, descriptorIndex := 84, attributes := #[] }, { accessFlags := 2, nameIndex := 61, descriptorIndex := 62, attributes := #[] }, { accessFlags := 2, nameIndex := 65, descriptorIndex := 66, attributes := #[] }, { accessFlags := 2, nameIndex := 69, descriptorIndex := 26, attributes := #[] }, { accessFlags := 2, nameIndex := 75, descriptorIndex := 76, attributes := #[] }])
  fields := #[{ name := "RESTART_CONFLICTS", type := .int, accessFlags := 26, slot := 0, constantValue := 0 }, { name := "ACTIVITY_DECAY", type := .double, accessFlags := 26, slot := 1, constantValue := 0 }, { name := "ACTIVITY_LIMIT", type := .double, accessFlags := 26, slot := 2, constantValue := 0 }, { name := "TRUE", type := .byte, accessFlags := 26, slot := 3, constantValue := 0 }, { name := "FALSE", type := .byte, accessFlags := 26, slot := 4, constantValue := 0 }, { name := "UNASSIGNED", type := .byte, accessFlags := 26, slot := 5, constantValue := 0 }, { name := "stop", type := (.object "com/example/forcon/forcon/analysis/Stop"), accessFlags := 18, slot := 0, constantValue := 0 }, { name := "variables", type := .int, accessFlags := 2, slot := 1, constantValue := 0 }, { name := "values", type := (.array .byte), accessFlags := 2, slot := 2, constantValue := 0 }, { name := "levels", type := (.array .int), accessFlags := 2, slot := 3, constantValue := 0 }, { name := "reasons", type := (.array (.object "com/example/forcon/forcon/analysis/Solver$Reason")), accessFlags := 2, slot := 4, constantValue := 0 }, { name := "phases", type := (.array .boolean), accessFlags := 2, slot := 5, constantValue := 0 }, { name := "seen", type := (.array .boolean), accessFlags := 2, slot := 6, constantValue := 0 }, { name := "activities", type := (.array .double), accessFlags := 2, slot := 7, constantValue := 0 }, { name := "watches", type := (.object "java/util/List"), accessFlags := 2, slot := 8, constantValue := 0 }, { name := "occurrences", type := (.object "java/util/List"), accessFlags := 2, slot := 9, constantValue := 0 }, { name := "order", type := (.object "com/example/forcon/forcon/analysis/Solver$Heap"), accessFlags := 18, slot := 10, constantValue := 0 }, { name := "trail", type := (.array .int), accessFlags := 2, slot := 11, constantValue := 0 }, { name := "trailSize", type := .int, accessFlags := 2, slot := 12, constantValue := 0 }, { name := "levelStarts", type := (.array .int), accessFlags := 2, slot := 13, constantValue := 0 }, { name := "level", type := .int, accessFlags := 2, slot := 14, constantValue := 0 }, { name := "propagated", type := .int, accessFlags := 2, slot := 15, constantValue := 0 }, { name := "activityIncrement", type := .double, accessFlags := 2, slot := 16, constantValue := 0 }, { name := "consistent", type := .boolean, accessFlags := 2, slot := 17, constantValue := 0 }, { name := "model", type := (.array .boolean), accessFlags := 2, slot := 18, constantValue := 0 }, { name := "failed", type := (.object "java/util/SortedSet"), accessFlags := 2, slot := 19, constantValue := 0 }]
  methods := #[k2m0, k2m1, k2m2]
  instanceTypes := #[(.object "com/example/forcon/forcon/analysis/Stop"), .int, (.array .byte), (.array .int), (.array (.object "com/example/forcon/forcon/analysis/Solver$Reason")), (.array .boolean), (.array .boolean), (.array .double), (.object "java/util/List"), (.object "java/util/List"), (.object "com/example/forcon/forcon/analysis/Solver$Heap"), (.array .int), .int, (.array .int), .int, .int, .double, .boolean, (.array .boolean), (.object "java/util/SortedSet")]
  staticTypes := #[.int, .double, .double, .byte, .byte, .byte]
  resolved := Array.replicate 340 none
  statics := none }

def pool3 : Array CpInfo := pool [(1, u "java/lang/Cloneable"), (0, .class_ 1), (0, u "java/lang/Object"), (0, .class_ 3)] 3

/-- java/lang/Cloneable -/
def k3 : Class := { plain "java/lang/Cloneable" (some 0) with
  accessFlags := 1537
  interfaces := #[]
  cf := some (fileOf pool3 2 #[] #[] 1537 4 #[] #[])
  fields := #[]
  methods := #[]
  instanceTypes := #[]
  staticTypes := #[]
  resolved := Array.replicate 8 none
  statics := none }

def pool4 : Array CpInfo := pool [(1, u "java/io/Serializable"), (0, .class_ 1), (0, u "java/lang/Object"), (0, .class_ 3)] 3

/-- java/io/Serializable -/
def k4 : Class := { plain "java/io/Serializable" (some 0) with
  accessFlags := 1537
  interfaces := #[]
  cf := some (fileOf pool4 2 #[] #[] 1537 4 #[] #[])
  fields := #[]
  methods := #[]
  instanceTypes := #[]
  staticTypes := #[]
  resolved := Array.replicate 8 none
  statics := none }

/-- the primitive byte -/
def k5 : Class := { plain "byte" none with kind := .primitive 'B', accessFlags := 0x411 }
/-- [B -/
def k6 : Class := { plain "[B" (some 0) with kind := .array 5 .byte, interfaces := #[3, 4], accessFlags := 1041 }

/-- the primitive int -/
def k7 : Class := { plain "int" none with kind := .primitive 'I', accessFlags := 0x411 }
/-- [I -/
def k8 : Class := { plain "[I" (some 0) with kind := .array 7 .int, interfaces := #[3, 4], accessFlags := 1041 }

def heap : Heap := #[]
def classes : Array Class := #[k0, k1, k2, k3, k4, k5, k6, k7, k8]
def interned : List (Array UInt16 × Addr) := []
def slotsUsed : Nat := 0
def theMethod : MethodId := ⟨1, 1⟩
def args0 : Array Value := #[.int 5, .int 1]
def aboutOver (below : List Frame) : State where
  vm := { classes := classes, interned := interned.toArray }
  heap := heap
  slotsUsed := slotsUsed
  threads := #[{ frames := .invoking theMethod args0 :: below }]
def below0 : List Frame := [.native { method := ⟨0, 0⟩, args := #[] }]
def about1 : State := aboutOver below0
def p0 : Program := .bare "" "" ""
def e0 : Env := launch0.env 0 0 0
theorem w_frames : about1.frames = Frame.invoking theMethod args0 :: below0 := rfl
set_option maxRecDepth 65536 in
theorem w_args : argsFit about1.vm theMethod args0 = true := by decide +kernel
set_option maxRecDepth 65536 in
theorem w_heap : heapFits about1 = true := by decide +kernel
set_option maxRecDepth 65536 in
theorem w_runnable : about1.curStatus? = some .runnable := by decide +kernel
set_option maxRecDepth 65536 in
theorem w_alone : about1.alone = true := by decide +kernel
set_option maxRecDepth 65536 in
theorem w_named : about1.methodNamed? x = some theMethod := by decide +kernel
set_option maxRecDepth 65536 in
theorem w_hears : about1.hears theMethod below0 = true := by decide +kernel
set_option maxRecDepth 65536 in
theorem w_ripe : about1.ripe theMethod args0 below0 = true := by decide +kernel
theorem w_running : about1.status = .running := rfl
set_option maxRecDepth 65536 in
theorem w_room : about1.hasRoom e0.platform room_1 = true :=
  launch0.hasRoom_least _ room_1 (by decide +kernel) (by decide +kernel) (by decide +kernel) (by decide +kernel) (by decide +kernel) (by decide +kernel)
theorem allAtoms_all (ts : List Jvm.Cond) (a : Array Jvm.Value) (st : Jvm.State) : (allAtoms ts).before a st = ts.all (fun c => c.before a st) := by
  induction ts with
  | nil => rfl
  | cons c t ih =>
    show (Jvm.Cond.and c (allAtoms t)).before a st = _
    rw [Jvm.Cond.before_and, ih, List.all_cons]
def words1 : List Jvm.Cond := Jvm.Cond.code x code maxLocals ret :: tables_1
/-- a 'code' word, met by the world's own term for the bytes: nothing is compared byte by byte -/
theorem code_word {y : MethodName} {bytes : ByteArray} {mx : Nat} {rt : Option FieldType} {a : Array Value} {s : State} {m : MethodId} {meth : Method} {c : Code} (h1 : s.methodNamed? y = some m) (h2 : s.vm.method? m = some meth) (h3 : meth.code = some c) (h4 : c.code = bytes)
    (h5 : (c.maxLocals == mx && c.exceptionTable.isEmpty && decide (c.maxStack ≤ mostOperands) && decide (meth.sig.returnType = rt) && !meth.locks && decide (parseMethodDescriptor y.desc = some meth.sig)) = true) : (Jvm.Cond.code y bytes mx rt).before a s = true := by
  simp only [Bool.and_eq_true, beq_iff_eq, Bool.not_eq_true', decide_eq_true_eq] at h5
  obtain ⟨⟨⟨⟨⟨g1, g2⟩, g3⟩, g4⟩, g5⟩, g6⟩ := h5
  simp [Cond.before, Cond.holds, Cond.value, h1, h2, h3, h4, g1, g2, g3, g4, g5, g6]
def isCode : Jvm.Cond → Bool
  | .code _ _ _ _ => true
  | _ => false
theorem all_split {L : List Jvm.Cond} {P : Jvm.Cond → Bool} (h1 : L.all (fun c => isCode c || P c) = true) (h2 : ∀ c ∈ L.filter isCode, P c = true) : L.all P = true := by
  refine List.all_eq_true.mpr fun c hc => ?_
  have h := List.all_eq_true.mp h1 c hc
  rcases Bool.eq_false_or_eq_true (isCode c) with hi | hi
  · exact h2 c (List.mem_filter.mpr ⟨hc, hi⟩)
  · simpa [hi] using h
set_option maxRecDepth 65536 in
theorem w_c0 : (Jvm.Cond.code x code maxLocals ret).before args0 about1 = true := code_word (m := ⟨1, 1⟩) (meth := k1m1) (c := k1c1) (by decide +kernel) rfl rfl rfl (by decide +kernel)
set_option maxRecDepth 65536 in
theorem w_c1 : (Jvm.Cond.code ({ cls := "com/example/forcon/forcon/analysis/Solver", name := "literal", desc := "(IZ)I" } : Jvm.MethodName) prog_7_method_2_code (2 : Nat) (Option.some Jvm.ClassFile.FieldType.int)).before args0 about1 = true := code_word (m := ⟨2, 0⟩) (meth := k2m0) (c := k2c0) (by decide +kernel) rfl rfl rfl (by decide +kernel)
set_option maxRecDepth 65536 in
theorem w_c2 : (Jvm.Cond.code ({ cls := "com/example/forcon/forcon/analysis/Solver", name := "variable", desc := "(I)I" } : Jvm.MethodName) prog_7_method_4_code (1 : Nat) (Option.some Jvm.ClassFile.FieldType.int)).before args0 about1 = true := code_word (m := ⟨2, 2⟩) (meth := k2m2) (c := k2c2) (by decide +kernel) rfl rfl rfl (by decide +kernel)
set_option maxRecDepth 65536 in
theorem w_c3 : (Jvm.Cond.code ({ cls := "com/example/forcon/forcon/analysis/Solver", name := "not", desc := "(I)I" } : Jvm.MethodName) prog_7_method_3_code (1 : Nat) (Option.some Jvm.ClassFile.FieldType.int)).before args0 about1 = true := code_word (m := ⟨2, 1⟩) (meth := k2m1) (c := k2c1) (by decide +kernel) rfl rfl rfl (by decide +kernel)
def codes1 : List Jvm.Cond := [Jvm.Cond.code x code maxLocals ret, Jvm.Cond.code ({ cls := "com/example/forcon/forcon/analysis/Solver", name := "literal", desc := "(IZ)I" } : Jvm.MethodName) prog_7_method_2_code (2 : Nat) (Option.some Jvm.ClassFile.FieldType.int), Jvm.Cond.code ({ cls := "com/example/forcon/forcon/analysis/Solver", name := "variable", desc := "(I)I" } : Jvm.MethodName) prog_7_method_4_code (1 : Nat) (Option.some Jvm.ClassFile.FieldType.int), Jvm.Cond.code ({ cls := "com/example/forcon/forcon/analysis/Solver", name := "not", desc := "(I)I" } : Jvm.MethodName) prog_7_method_3_code (1 : Nat) (Option.some Jvm.ClassFile.FieldType.int)]
set_option maxRecDepth 65536 in
theorem codes_eq : words1.filter isCode = codes1 := rfl
theorem w_codes : ∀ c ∈ words1.filter isCode, c.before args0 about1 = true := by
  rw [codes_eq]
  intro c hc
  simp only [codes1, List.mem_cons, List.not_mem_nil, or_false] at hc
  rcases hc with rfl | rfl | rfl | rfl
  · exact w_c0
  · exact w_c1
  · exact w_c2
  · exact w_c3
set_option maxRecDepth 65536 in
theorem w_t1 : words1.all (fun c => isCode c || c.before args0 about1) = true := by decide +kernel
theorem w_tables : (allAtoms (Jvm.Cond.code x code maxLocals ret :: tables_1)).before args0 about1 = true := by
  rw [allAtoms_all]
  show words1.all (fun c => c.before args0 about1) = true
  refine all_split ?_ w_codes
  rw [w_t1]
set_option maxRecDepth 65536 in
theorem w_case : (Jvm.Cond.and given_1 narrow_1).before args0 about1 = true := by decide +kernel
theorem w_applies : (headSpec (Jvm.Cond.code x code maxLocals ret :: tables_1) room_1).applies x e0.platform about1 = true :=
  (Spec.applies_iff w_frames).mpr ⟨w_running, w_runnable, w_alone, w_named, w_hears, w_ripe, w_room, w_tables⟩
theorem atStart : AtStart classFile x code maxLocals ret World_1 tables_1 room_1 Calls_1 rest_1 Pre_1 launch0 p0 e0 about1 theMethod args0 below0 :=
  ⟨lists_1, trivial, launch0.admits_env _ _ _, launch0.least_env, fairChoices_fair.cas, fairChoices_fair.clock, w_frames, w_args, w_heap, w_applies, trivial, trivial, w_case⟩
end start1
theorem witness_1 : WitnessClaimed_1 := ⟨start1.p0, start1.e0, start1.about1, start1.theMethod, start1.args0, start1.below0, start1.atStart⟩
end Jvm.Pilot.@@N@@
