import JvmDerived
import JvmDerived.Pilot.@@N@@Statement
import JvmDerived.Pilot.@@N@@Code
set_option linter.unusedVariables false
set_option linter.unusedSimpArgs false
namespace Jvm.Pilot.@@N@@
open Jvm Jvm.ClassFile Sem Op Lib Jvm.Free Jvm.Stand Jvm.LawKit Jvm.RoadKit Bundle Jvm.Pilot.@@N@@.Jvm.D
section OwnKit
variable {p : Program} {l : Launch} {e : Env} {R : Room} {s : State} {m : MethodId} {args : Array Value} {below : List Frame} {meth : Method} {c : Code} {T T' : State} {locs : List Loc} {cells slots : Nat} {P : Outcome → State → Prop} {Q : Option Value → Heap → List Loc → Prop} {cC cS : Nat} {bytes : ByteArray} {ls : Array Slot} {st : List Value} {pc pc' : Nat} {g g' : JFrame} {Z : State} {a0 : Array Value} {h h' : Heap}
/-- from this state and frame the method comes to its end, returns, and Q holds of what it leaves -/
def own_Got (p : Program) (e : Env) (below : List Frame) (P : Outcome → State → Prop) (T : State) (g : JFrame) : Prop :=
  ∃ s₂ o, Steps p.tables e below (T.setTop g) s₂ ∧ s₂.status = .running ∧ Ended s₂ below o ∧ P o s₂
/-- what a contract says of the end -/
def own_End (s : State) (Q : Option Value → Heap → List Loc → Prop) (cC cS : Nat) (o : Outcome) (U : State) : Prop := ∃ v L, o = .returned v ∧ Q v U.heap L ∧ FrameEnd s o U L cC cS
theorem own_go (k : ∀ t, Steps p.tables e below (T'.setTop g') t → Steps p.tables e below (T.setTop g) t) (h : own_Got p e below P T' g') : own_Got p e below P T g := by
  obtain ⟨s2, o, h1, h2⟩ := h; exact ⟨s2, o, k _ h1, h2⟩
theorem own_tr (k : Steps p.tables e below (T.setTop g) (T'.setTop g')) (h : own_Got p e below P T' g') : own_Got p e below P T g := own_go (fun _ q => k.trans q) h
theorem own_cast (q : g = g') (h : own_Got p e below P T g') : own_Got p e below P T g := q ▸ h
theorem own_retV (X : Stand p l e R s m args below meth c T locs cells slots) (hx : p.tables.exec = Jvm.exec) (hby : c.code = bytes) (hlk : meth.locks = false) (hret : meth.sig.returnType = none) (hd : decode bytes pc = .ok (.return_, 1)) (hc : cells ≤ cC) (hs : slots ≤ cS)
    (hq : Q none T.heap locs) : own_Got p e below (own_End s Q cC cS) T (mkF m pc ls []) := by
  obtain ⟨fs, hr, hrun, hended, hW, hsame⟩ := X.leave (v := none) (fun _ => rfl) hlk
  exact ⟨_, _, X.returnOut hx hret (hb hby hd) hr, hrun, hended, _, _, rfl, hq, ⟨_, rfl⟩, hW, hsame.mono hc hs⟩
theorem own_retI (X : Stand p l e R s m args below meth c T locs cells slots) (hx : p.tables.exec = Jvm.exec) (hby : c.code = bytes) (hlk : meth.locks = false) (hret : meth.sig.returnType = some .int) (hd : decode bytes pc = .ok (.ireturn, 1)) (hc : cells ≤ cC) (hs : slots ≤ cS) {z : Int32}
    (hq : Q (some (.int z)) T.heap locs) : own_Got p e below (own_End s Q cC cS) T (mkF m pc ls (.int z :: st)) := by
  obtain ⟨fs, hr, hrun, hended, hW, hsame⟩ := X.leave (v := some (.int z)) (fun h => by rw [hret] at h; cases h) hlk
  exact ⟨_, _, retOut X hx hret rfl (Or.inl ⟨rfl, Or.inl rfl, _, rfl⟩) (hb hby hd) hr, hrun, hended, _, _, rfl, hq, ⟨_, rfl⟩, hW, hsame.mono hc hs⟩
theorem own_retL (X : Stand p l e R s m args below meth c T locs cells slots) (hx : p.tables.exec = Jvm.exec) (hby : c.code = bytes) (hlk : meth.locks = false) (hret : meth.sig.returnType = some .long) (hd : decode bytes pc = .ok (.lreturn, 1)) (hc : cells ≤ cC) (hs : slots ≤ cS) {z : Int64}
    (hq : Q (some (.long z)) T.heap locs) : own_Got p e below (own_End s Q cC cS) T (mkF m pc ls (.long z :: st)) := by
  obtain ⟨fs, hr, hrun, hended, hW, hsame⟩ := X.leave (v := some (.long z)) (fun h => by rw [hret] at h; cases h) hlk
  exact ⟨_, _, retOut X hx hret rfl (Or.inr (Or.inl ⟨rfl, rfl, _, rfl⟩)) (hb hby hd) hr, hrun, hended, _, _, rfl, hq, ⟨_, rfl⟩, hW, hsame.mono hc hs⟩
theorem own_retD (X : Stand p l e R s m args below meth c T locs cells slots) (hx : p.tables.exec = Jvm.exec) (hby : c.code = bytes) (hlk : meth.locks = false) (hret : meth.sig.returnType = some .double) (hd : decode bytes pc = .ok (.dreturn, 1)) (hc : cells ≤ cC) (hs : slots ≤ cS) {z : UInt64}
    (hq : Q (some (.double z)) T.heap locs) : own_Got p e below (own_End s Q cC cS) T (mkF m pc ls (.double z :: st)) := by
  obtain ⟨fs, hr, hrun, hended, hW, hsame⟩ := X.leave (v := some (.double z)) (fun h => by rw [hret] at h; cases h) hlk
  exact ⟨_, _, retOut X hx hret rfl (Or.inr (Or.inr (Or.inl ⟨rfl, rfl, _, rfl⟩))) (hb hby hd) hr, hrun, hended, _, _, rfl, hq, ⟨_, rfl⟩, hW, hsame.mono hc hs⟩
theorem own_retN (X : Stand p l e R s m args below meth c T locs cells slots) (hx : p.tables.exec = Jvm.exec) (hby : c.code = bytes) (hlk : meth.locks = false) {t : FieldType} (hret : meth.sig.returnType = some t) (ht : t = .boolean ∨ t = .byte ∨ t = .char ∨ t = .short) (hd : decode bytes pc = .ok (.ireturn, 1)) (hc : cells ≤ cC) (hs : slots ≤ cS) {z : Int32}
    (hq : Q (some (.int (nar t z))) T.heap locs) : own_Got p e below (own_End s Q cC cS) T (mkF m pc ls (.int z :: st)) := by
  obtain ⟨fs, hr, hrun, hended, hW, hsame⟩ := X.leave (v := some (.int (nar t z))) (fun h => by rw [hret] at h; cases h) hlk
  exact ⟨_, _, retN X hx hret ht (hb hby hd) hr, hrun, hended, _, _, rfl, hq, ⟨_, rfl⟩, hW, hsame.mono hc hs⟩
theorem own_retR (X : Stand p l e R s m args below meth c T locs cells slots) (hx : p.tables.exec = Jvm.exec) (hby : c.code = bytes) (hlk : meth.locks = false) {t : FieldType} (hret : meth.sig.returnType = some t) (ht : t.isReference = true) (hd : decode bytes pc = .ok (.areturn, 1)) (hc : cells ≤ cC) (hs : slots ≤ cS) {w : Value} (hw : w.isRef = true)
    (hq : Q (some w) T.heap locs) : own_Got p e below (own_End s Q cC cS) T (mkF m pc ls (w :: st)) := by
  obtain ⟨fs, hr, hrun, hended, hW, hsame⟩ := X.leave (v := some w) (fun h => by rw [hret] at h; cases h) hlk
  have hn : narrow t w = w := by rcases ref_cases hw with rfl | ⟨a, rfl⟩ <;> cases t <;> first | rfl | (cases ht)
  exact ⟨_, _, retOut X hx hret hn (Or.inr (Or.inr (Or.inr (Or.inr ⟨rfl, ht, hw⟩)))) (hb hby hd) hr, hrun, hended, _, _, rfl, hq, ⟨_, rfl⟩, hW, hsame.mono hc hs⟩
theorem g_iloadN (X : Stand p l e R s m args below meth c T locs cells slots) (hx : p.tables.exec = Jvm.exec) (hby : c.code = bytes) {k : Fin 4} {v : Int32} (hd : decode bytes pc = .ok (.iload_n k, 1)) (hl : ls[k.val]? = some (.val (.int v))) (hp : pc + 1 = pc')
    (k : own_Got p e below P T (mkF m pc' ls (.int v :: st))) : own_Got p e below P T (mkF m pc ls (st)) := by
  subst hp; exact own_go (fun _ q => XS.iloadN X.here hx rfl (hb hby hd) hl q) k
theorem g_iload (X : Stand p l e R s m args below meth c T locs cells slots) (hx : p.tables.exec = Jvm.exec) (hby : c.code = bytes) {k : Nat} {v : Int32} (hd : decode bytes pc = .ok (.iload k, 2)) (hl : ls[k]? = some (.val (.int v))) (hp : pc + 2 = pc')
    (k : own_Got p e below P T (mkF m pc' ls (.int v :: st))) : own_Got p e below P T (mkF m pc ls (st)) := by
  subst hp; exact own_go (fun _ q => XS.iload X.here hx rfl (hb hby hd) hl q) k
theorem g_lloadN (X : Stand p l e R s m args below meth c T locs cells slots) (hx : p.tables.exec = Jvm.exec) (hby : c.code = bytes) {k : Fin 4} {v : Int64} (hd : decode bytes pc = .ok (.lload_n k, 1)) (hl : ls[k.val]? = some (.val (.long v))) (hp : pc + 1 = pc')
    (k : own_Got p e below P T (mkF m pc' ls (.long v :: st))) : own_Got p e below P T (mkF m pc ls (st)) := by
  subst hp; exact own_go (fun _ q => XS.lloadN X.here hx rfl (hb hby hd) hl q) k
theorem g_lload (X : Stand p l e R s m args below meth c T locs cells slots) (hx : p.tables.exec = Jvm.exec) (hby : c.code = bytes) {k : Nat} {v : Int64} (hd : decode bytes pc = .ok (.lload k, 2)) (hl : ls[k]? = some (.val (.long v))) (hp : pc + 2 = pc')
    (k : own_Got p e below P T (mkF m pc' ls (.long v :: st))) : own_Got p e below P T (mkF m pc ls (st)) := by
  subst hp; exact own_go (fun _ q => XS.lload X.here hx rfl (hb hby hd) hl q) k
theorem g_dloadN (X : Stand p l e R s m args below meth c T locs cells slots) (hx : p.tables.exec = Jvm.exec) (hby : c.code = bytes) {k : Fin 4} {v : UInt64} (hd : decode bytes pc = .ok (.dload_n k, 1)) (hl : ls[k.val]? = some (.val (.double v))) (hp : pc + 1 = pc')
    (k : own_Got p e below P T (mkF m pc' ls (.double v :: st))) : own_Got p e below P T (mkF m pc ls (st)) := by
  subst hp; exact own_go (fun _ q => XS.dloadN X.here hx rfl (hb hby hd) hl q) k
theorem g_dload (X : Stand p l e R s m args below meth c T locs cells slots) (hx : p.tables.exec = Jvm.exec) (hby : c.code = bytes) {k : Nat} {v : UInt64} (hd : decode bytes pc = .ok (.dload k, 2)) (hl : ls[k]? = some (.val (.double v))) (hp : pc + 2 = pc')
    (k : own_Got p e below P T (mkF m pc' ls (.double v :: st))) : own_Got p e below P T (mkF m pc ls (st)) := by
  subst hp; exact own_go (fun _ q => XS.dload X.here hx rfl (hb hby hd) hl q) k
theorem g_aloadN (X : Stand p l e R s m args below meth c T locs cells slots) (hx : p.tables.exec = Jvm.exec) (hby : c.code = bytes) {k : Fin 4} {v : Value} (hd : decode bytes pc = .ok (.aload_n k, 1)) (hl : ls[k.val]? = some (.val v)) (hv : v.isRef = true) (hp : pc + 1 = pc')
    (k : own_Got p e below P T (mkF m pc' ls (v :: st))) : own_Got p e below P T (mkF m pc ls (st)) := by
  subst hp; exact own_go (fun _ q => XS.aloadN X.here hx rfl (hb hby hd) hl hv q) k
theorem g_aload (X : Stand p l e R s m args below meth c T locs cells slots) (hx : p.tables.exec = Jvm.exec) (hby : c.code = bytes) {k : Nat} {v : Value} (hd : decode bytes pc = .ok (.aload k, 2)) (hl : ls[k]? = some (.val v)) (hv : v.isRef = true) (hp : pc + 2 = pc')
    (k : own_Got p e below P T (mkF m pc' ls (v :: st))) : own_Got p e below P T (mkF m pc ls (st)) := by
  subst hp; exact own_go (fun _ q => XS.aload X.here hx rfl (hb hby hd) hl hv q) k
theorem g_istoreN (X : Stand p l e R s m args below meth c T locs cells slots) (hx : p.tables.exec = Jvm.exec) (hby : c.code = bytes) {k : Fin 4} {x : Int32} (ls' : Array Slot) (hd : decode bytes pc = .ok (.istore_n k, 1)) (hl : storeLocals ls k.val (.int x) = some ls') (hp : pc + 1 = pc')
    (k : own_Got p e below P T (mkF m pc' ls' (st))) : own_Got p e below P T (mkF m pc ls (.int x :: st)) := by
  subst hp; exact own_go (fun _ q => XS.istoreN X.here hx rfl (hb hby hd) rfl hl q) k
theorem g_istore (X : Stand p l e R s m args below meth c T locs cells slots) (hx : p.tables.exec = Jvm.exec) (hby : c.code = bytes) {k : Nat} {x : Int32} (ls' : Array Slot) (hd : decode bytes pc = .ok (.istore k, 2)) (hl : storeLocals ls k (.int x) = some ls') (hp : pc + 2 = pc')
    (k : own_Got p e below P T (mkF m pc' ls' (st))) : own_Got p e below P T (mkF m pc ls (.int x :: st)) := by
  subst hp; exact own_go (fun _ q => XS.istore X.here hx rfl (hb hby hd) rfl hl q) k
theorem g_lstoreN (X : Stand p l e R s m args below meth c T locs cells slots) (hx : p.tables.exec = Jvm.exec) (hby : c.code = bytes) {k : Fin 4} {x : Int64} (ls' : Array Slot) (hd : decode bytes pc = .ok (.lstore_n k, 1)) (hl : storeLocals ls k.val (.long x) = some ls') (hp : pc + 1 = pc')
    (k : own_Got p e below P T (mkF m pc' ls' (st))) : own_Got p e below P T (mkF m pc ls (.long x :: st)) := by
  subst hp; exact own_go (fun _ q => XS.lstoreN X.here hx rfl (hb hby hd) rfl hl q) k
theorem g_lstore (X : Stand p l e R s m args below meth c T locs cells slots) (hx : p.tables.exec = Jvm.exec) (hby : c.code = bytes) {k : Nat} {x : Int64} (ls' : Array Slot) (hd : decode bytes pc = .ok (.lstore k, 2)) (hl : storeLocals ls k (.long x) = some ls') (hp : pc + 2 = pc')
    (k : own_Got p e below P T (mkF m pc' ls' (st))) : own_Got p e below P T (mkF m pc ls (.long x :: st)) := by
  subst hp; exact own_go (fun _ q => XS.lstore X.here hx rfl (hb hby hd) rfl hl q) k
theorem g_dstoreN (X : Stand p l e R s m args below meth c T locs cells slots) (hx : p.tables.exec = Jvm.exec) (hby : c.code = bytes) {k : Fin 4} {x : UInt64} (ls' : Array Slot) (hd : decode bytes pc = .ok (.dstore_n k, 1)) (hl : storeLocals ls k.val (.double x) = some ls') (hp : pc + 1 = pc')
    (k : own_Got p e below P T (mkF m pc' ls' (st))) : own_Got p e below P T (mkF m pc ls (.double x :: st)) := by
  subst hp; exact own_go (fun _ q => XS.dstoreN X.here hx rfl (hb hby hd) rfl hl q) k
theorem g_dstore (X : Stand p l e R s m args below meth c T locs cells slots) (hx : p.tables.exec = Jvm.exec) (hby : c.code = bytes) {k : Nat} {x : UInt64} (ls' : Array Slot) (hd : decode bytes pc = .ok (.dstore k, 2)) (hl : storeLocals ls k (.double x) = some ls') (hp : pc + 2 = pc')
    (k : own_Got p e below P T (mkF m pc' ls' (st))) : own_Got p e below P T (mkF m pc ls (.double x :: st)) := by
  subst hp; exact own_go (fun _ q => XS.dstore X.here hx rfl (hb hby hd) rfl hl q) k
theorem g_astoreN (X : Stand p l e R s m args below meth c T locs cells slots) (hx : p.tables.exec = Jvm.exec) (hby : c.code = bytes) {k : Fin 4} {x : Value} (ls' : Array Slot) (hd : decode bytes pc = .ok (.astore_n k, 1)) (hv : x.isRef = true) (hl : storeLocals ls k.val x = some ls') (hp : pc + 1 = pc')
    (k : own_Got p e below P T (mkF m pc' ls' (st))) : own_Got p e below P T (mkF m pc ls (x :: st)) := by
  subst hp; exact own_go (fun _ q => XS.astoreN X.here hx rfl (hb hby hd) rfl hv hl q) k
theorem g_astore (X : Stand p l e R s m args below meth c T locs cells slots) (hx : p.tables.exec = Jvm.exec) (hby : c.code = bytes) {k : Nat} {x : Value} (ls' : Array Slot) (hd : decode bytes pc = .ok (.astore k, 2)) (hv : x.isRef = true) (hl : storeLocals ls k x = some ls') (hp : pc + 2 = pc')
    (k : own_Got p e below P T (mkF m pc' ls' (st))) : own_Got p e below P T (mkF m pc ls (x :: st)) := by
  subst hp; exact own_go (fun _ q => XS.astore X.here hx rfl (hb hby hd) rfl hv hl q) k
theorem g_iconst (X : Stand p l e R s m args below meth c T locs cells slots) (hx : p.tables.exec = Jvm.exec) (hby : c.code = bytes) {i : Int} (z : Int32) (hd : decode bytes pc = .ok (.iconst i, 1)) (hz : Int32.ofInt i = z) (hp : pc + 1 = pc')
    (k : own_Got p e below P T (mkF m pc' ls (.int z :: st))) : own_Got p e below P T (mkF m pc ls (st)) := by
  subst hp; subst hz; exact own_go (fun _ q => XS.iconst X.here hx rfl (hb hby hd) q) k
theorem g_bipush (X : Stand p l e R s m args below meth c T locs cells slots) (hx : p.tables.exec = Jvm.exec) (hby : c.code = bytes) {i : Int} (z : Int32) (hd : decode bytes pc = .ok (.bipush i, 2)) (hz : (Int8.ofInt i).toInt32 = z) (hp : pc + 2 = pc')
    (k : own_Got p e below P T (mkF m pc' ls (.int z :: st))) : own_Got p e below P T (mkF m pc ls (st)) := by
  subst hp; subst hz; exact own_go (fun _ q => XS.bipush X.here hx rfl (hb hby hd) q) k
theorem g_sipush (X : Stand p l e R s m args below meth c T locs cells slots) (hx : p.tables.exec = Jvm.exec) (hby : c.code = bytes) {i : Int} (z : Int32) (hd : decode bytes pc = .ok (.sipush i, 3)) (hz : (Int16.ofInt i).toInt32 = z) (hp : pc + 3 = pc')
    (k : own_Got p e below P T (mkF m pc' ls (.int z :: st))) : own_Got p e below P T (mkF m pc ls (st)) := by
  subst hp; subst hz; exact own_go (fun _ q => XS.sipush X.here hx rfl (hb hby hd) q) k
theorem g_lconst (X : Stand p l e R s m args below meth c T locs cells slots) (hx : p.tables.exec = Jvm.exec) (hby : c.code = bytes) {i : Fin 2} (z : Int64) (hd : decode bytes pc = .ok (.lconst i, 1)) (hz : Int64.ofNat i.val = z) (hp : pc + 1 = pc')
    (k : own_Got p e below P T (mkF m pc' ls (.long z :: st))) : own_Got p e below P T (mkF m pc ls (st)) := by
  subst hp; subst hz; exact own_go (fun _ q => XS.lconst X.here hx rfl (hb hby hd) q) k
theorem g_anull (X : Stand p l e R s m args below meth c T locs cells slots) (hx : p.tables.exec = Jvm.exec) (hby : c.code = bytes)  (hd : decode bytes pc = .ok (.aconst_null, 1))  (hp : pc + 1 = pc')
    (k : own_Got p e below P T (mkF m pc' ls (.null :: st))) : own_Got p e below P T (mkF m pc ls (st)) := by
  subst hp; exact own_go (fun _ q => XS.aconstNull X.here hx rfl (hb hby hd) q) k
theorem g_iadd (X : Stand p l e R s m args below meth c T locs cells slots) (hx : p.tables.exec = Jvm.exec) (hby : c.code = bytes) {x y : Int32} (hd : decode bytes pc = .ok (.iadd, 1))  (hp : pc + 1 = pc')
    (k : own_Got p e below P T (mkF m pc' ls (.int (x + y) :: st))) : own_Got p e below P T (mkF m pc ls (.int y :: .int x :: st)) := by
  subst hp; exact own_go (fun _ q => XS.iadd X.here hx rfl (hb hby hd) rfl q) k
theorem g_isub (X : Stand p l e R s m args below meth c T locs cells slots) (hx : p.tables.exec = Jvm.exec) (hby : c.code = bytes) {x y : Int32} (hd : decode bytes pc = .ok (.isub, 1))  (hp : pc + 1 = pc')
    (k : own_Got p e below P T (mkF m pc' ls (.int (x - y) :: st))) : own_Got p e below P T (mkF m pc ls (.int y :: .int x :: st)) := by
  subst hp; exact own_go (fun _ q => XS.isub X.here hx rfl (hb hby hd) rfl q) k
theorem g_iand (X : Stand p l e R s m args below meth c T locs cells slots) (hx : p.tables.exec = Jvm.exec) (hby : c.code = bytes) {x y : Int32} (hd : decode bytes pc = .ok (.iand, 1))  (hp : pc + 1 = pc')
    (k : own_Got p e below P T (mkF m pc' ls (.int (x &&& y) :: st))) : own_Got p e below P T (mkF m pc ls (.int y :: .int x :: st)) := by
  subst hp; exact own_go (fun _ q => XS.iand X.here hx rfl (hb hby hd) rfl q) k
theorem g_ior (X : Stand p l e R s m args below meth c T locs cells slots) (hx : p.tables.exec = Jvm.exec) (hby : c.code = bytes) {x y : Int32} (hd : decode bytes pc = .ok (.ior, 1))  (hp : pc + 1 = pc')
    (k : own_Got p e below P T (mkF m pc' ls (.int (x ||| y) :: st))) : own_Got p e below P T (mkF m pc ls (.int y :: .int x :: st)) := by
  subst hp; exact own_go (fun _ q => XS.ior X.here hx rfl (hb hby hd) rfl q) k
theorem g_ixor (X : Stand p l e R s m args below meth c T locs cells slots) (hx : p.tables.exec = Jvm.exec) (hby : c.code = bytes) {x y : Int32} (hd : decode bytes pc = .ok (.ixor, 1))  (hp : pc + 1 = pc')
    (k : own_Got p e below P T (mkF m pc' ls (.int (x ^^^ y) :: st))) : own_Got p e below P T (mkF m pc ls (.int y :: .int x :: st)) := by
  subst hp; exact own_go (fun _ q => XS.ixor X.here hx rfl (hb hby hd) rfl q) k
theorem g_imul (X : Stand p l e R s m args below meth c T locs cells slots) (hx : p.tables.exec = Jvm.exec) (hby : c.code = bytes) {x y : Int32} (hd : decode bytes pc = .ok (.imul, 1))  (hp : pc + 1 = pc')
    (k : own_Got p e below P T (mkF m pc' ls (.int (x * y) :: st))) : own_Got p e below P T (mkF m pc ls (.int y :: .int x :: st)) := by
  subst hp; exact own_go (fun _ q => XS.imul X.here hx rfl (hb hby hd) rfl q) k
theorem g_ladd (X : Stand p l e R s m args below meth c T locs cells slots) (hx : p.tables.exec = Jvm.exec) (hby : c.code = bytes) {x y : Int64} (hd : decode bytes pc = .ok (.ladd, 1))  (hp : pc + 1 = pc')
    (k : own_Got p e below P T (mkF m pc' ls (.long (x + y) :: st))) : own_Got p e below P T (mkF m pc ls (.long y :: .long x :: st)) := by
  subst hp; exact own_go (fun _ q => XS.ladd X.here hx rfl (hb hby hd) rfl q) k
theorem g_lsub (X : Stand p l e R s m args below meth c T locs cells slots) (hx : p.tables.exec = Jvm.exec) (hby : c.code = bytes) {x y : Int64} (hd : decode bytes pc = .ok (.lsub, 1))  (hp : pc + 1 = pc')
    (k : own_Got p e below P T (mkF m pc' ls (.long (x - y) :: st))) : own_Got p e below P T (mkF m pc ls (.long y :: .long x :: st)) := by
  subst hp; exact own_go (fun _ q => XS.lsub X.here hx rfl (hb hby hd) rfl q) k
theorem g_land (X : Stand p l e R s m args below meth c T locs cells slots) (hx : p.tables.exec = Jvm.exec) (hby : c.code = bytes) {x y : Int64} (hd : decode bytes pc = .ok (.land, 1))  (hp : pc + 1 = pc')
    (k : own_Got p e below P T (mkF m pc' ls (.long (x &&& y) :: st))) : own_Got p e below P T (mkF m pc ls (.long y :: .long x :: st)) := by
  subst hp; exact own_go (fun _ q => XS.land X.here hx rfl (hb hby hd) rfl q) k
theorem g_lor (X : Stand p l e R s m args below meth c T locs cells slots) (hx : p.tables.exec = Jvm.exec) (hby : c.code = bytes) {x y : Int64} (hd : decode bytes pc = .ok (.lor, 1))  (hp : pc + 1 = pc')
    (k : own_Got p e below P T (mkF m pc' ls (.long (x ||| y) :: st))) : own_Got p e below P T (mkF m pc ls (.long y :: .long x :: st)) := by
  subst hp; exact own_go (fun _ q => XS.lor X.here hx rfl (hb hby hd) rfl q) k
theorem g_lxor (X : Stand p l e R s m args below meth c T locs cells slots) (hx : p.tables.exec = Jvm.exec) (hby : c.code = bytes) {x y : Int64} (hd : decode bytes pc = .ok (.lxor, 1))  (hp : pc + 1 = pc')
    (k : own_Got p e below P T (mkF m pc' ls (.long (x ^^^ y) :: st))) : own_Got p e below P T (mkF m pc ls (.long y :: .long x :: st)) := by
  subst hp; exact own_go (fun _ q => XS.lxor X.here hx rfl (hb hby hd) rfl q) k
theorem g_lmul (X : Stand p l e R s m args below meth c T locs cells slots) (hx : p.tables.exec = Jvm.exec) (hby : c.code = bytes) {x y : Int64} (hd : decode bytes pc = .ok (.lmul, 1))  (hp : pc + 1 = pc')
    (k : own_Got p e below P T (mkF m pc' ls (.long (x * y) :: st))) : own_Got p e below P T (mkF m pc ls (.long y :: .long x :: st)) := by
  subst hp; exact own_go (fun _ q => XS.lmul X.here hx rfl (hb hby hd) rfl q) k
theorem g_idiv (X : Stand p l e R s m args below meth c T locs cells slots) (hx : p.tables.exec = Jvm.exec) (hby : c.code = bytes) {x y : Int32} (hd : decode bytes pc = .ok (.idiv, 1)) (hy : y ≠ 0) (hp : pc + 1 = pc')
    (k : own_Got p e below P T (mkF m pc' ls (.int (x / y) :: st))) : own_Got p e below P T (mkF m pc ls (.int y :: .int x :: st)) := by
  subst hp; exact own_go (fun _ q => XS.idiv X.here hx rfl (hb hby hd) rfl hy q) k
theorem g_irem (X : Stand p l e R s m args below meth c T locs cells slots) (hx : p.tables.exec = Jvm.exec) (hby : c.code = bytes) {x y : Int32} (hd : decode bytes pc = .ok (.irem, 1)) (hy : y ≠ 0) (hp : pc + 1 = pc')
    (k : own_Got p e below P T (mkF m pc' ls (.int (x % y) :: st))) : own_Got p e below P T (mkF m pc ls (.int y :: .int x :: st)) := by
  subst hp; exact own_go (fun _ q => iremM X hx rfl (hb hby hd) rfl hy q) k
theorem g_ishl (X : Stand p l e R s m args below meth c T locs cells slots) (hx : p.tables.exec = Jvm.exec) (hby : c.code = bytes) {x y : Int32} (hd : decode bytes pc = .ok (.ishl, 1))  (hp : pc + 1 = pc')
    (k : own_Got p e below P T (mkF m pc' ls (.int (x <<< (y &&& 31)) :: st))) : own_Got p e below P T (mkF m pc ls (.int y :: .int x :: st)) := by
  subst hp; exact own_go (fun _ q => XS.ishl X.here hx rfl (hb hby hd) rfl q) k
theorem g_ishr (X : Stand p l e R s m args below meth c T locs cells slots) (hx : p.tables.exec = Jvm.exec) (hby : c.code = bytes) {x y : Int32} (hd : decode bytes pc = .ok (.ishr, 1))  (hp : pc + 1 = pc')
    (k : own_Got p e below P T (mkF m pc' ls (.int (x >>> (y &&& 31)) :: st))) : own_Got p e below P T (mkF m pc ls (.int y :: .int x :: st)) := by
  subst hp; exact own_go (fun _ q => XS.ishr X.here hx rfl (hb hby hd) rfl q) k
theorem g_iushr (X : Stand p l e R s m args below meth c T locs cells slots) (hx : p.tables.exec = Jvm.exec) (hby : c.code = bytes) {x y : Int32} (hd : decode bytes pc = .ok (.iushr, 1))  (hp : pc + 1 = pc')
    (k : own_Got p e below P T (mkF m pc' ls (.int ((x.toUInt32 >>> (y &&& 31).toUInt32).toInt32) :: st))) : own_Got p e below P T (mkF m pc ls (.int y :: .int x :: st)) := by
  subst hp; exact own_go (fun _ q => XS.iushr X.here hx rfl (hb hby hd) rfl q) k
theorem g_ineg (X : Stand p l e R s m args below meth c T locs cells slots) (hx : p.tables.exec = Jvm.exec) (hby : c.code = bytes) {x : Int32} (hd : decode bytes pc = .ok (.ineg, 1))  (hp : pc + 1 = pc')
    (k : own_Got p e below P T (mkF m pc' ls (.int (-x) :: st))) : own_Got p e below P T (mkF m pc ls (.int x :: st)) := by
  subst hp; exact own_go (fun _ q => XS.ineg X.here hx rfl (hb hby hd) rfl q) k
theorem g_i2b (X : Stand p l e R s m args below meth c T locs cells slots) (hx : p.tables.exec = Jvm.exec) (hby : c.code = bytes) {x : Int32} (hd : decode bytes pc = .ok (.i2b, 1))  (hp : pc + 1 = pc')
    (k : own_Got p e below P T (mkF m pc' ls (.int x.toInt8.toInt32 :: st))) : own_Got p e below P T (mkF m pc ls (.int x :: st)) := by
  subst hp; exact own_go (fun _ q => XS.i2b X.here hx rfl (hb hby hd) rfl q) k
theorem g_i2s (X : Stand p l e R s m args below meth c T locs cells slots) (hx : p.tables.exec = Jvm.exec) (hby : c.code = bytes) {x : Int32} (hd : decode bytes pc = .ok (.i2s, 1))  (hp : pc + 1 = pc')
    (k : own_Got p e below P T (mkF m pc' ls (.int x.toInt16.toInt32 :: st))) : own_Got p e below P T (mkF m pc ls (.int x :: st)) := by
  subst hp; exact own_go (fun _ q => XS.i2s X.here hx rfl (hb hby hd) rfl q) k
theorem g_i2c (X : Stand p l e R s m args below meth c T locs cells slots) (hx : p.tables.exec = Jvm.exec) (hby : c.code = bytes) {x : Int32} (hd : decode bytes pc = .ok (.i2c, 1))  (hp : pc + 1 = pc')
    (k : own_Got p e below P T (mkF m pc' ls (.int x.toUInt32.toUInt16.toUInt32.toInt32 :: st))) : own_Got p e below P T (mkF m pc ls (.int x :: st)) := by
  subst hp; exact own_go (fun _ q => XS.i2c X.here hx rfl (hb hby hd) rfl q) k
theorem g_i2l (X : Stand p l e R s m args below meth c T locs cells slots) (hx : p.tables.exec = Jvm.exec) (hby : c.code = bytes) {x : Int32} (hd : decode bytes pc = .ok (.i2l, 1))  (hp : pc + 1 = pc')
    (k : own_Got p e below P T (mkF m pc' ls (.long x.toInt64 :: st))) : own_Got p e below P T (mkF m pc ls (.int x :: st)) := by
  subst hp; exact own_go (fun _ q => XS.i2l X.here hx rfl (hb hby hd) rfl q) k
theorem g_lcmp (X : Stand p l e R s m args below meth c T locs cells slots) (hx : p.tables.exec = Jvm.exec) (hby : c.code = bytes) {x y : Int64} (hd : decode bytes pc = .ok (.lcmp, 1))  (hp : pc + 1 = pc')
    (k : own_Got p e below P T (mkF m pc' ls (.int (lcmpW x y) :: st))) : own_Got p e below P T (mkF m pc ls (.long y :: .long x :: st)) := by
  subst hp; exact own_go (fun _ q => XS.lcmp X.here hx rfl (hb hby hd) rfl q) k
theorem g_iinc (X : Stand p l e R s m args below meth c T locs cells slots) (hx : p.tables.exec = Jvm.exec) (hby : c.code = bytes) {k : Nat} {cst : Int} {x : Int32} (ls' : Array Slot) (hd : decode bytes pc = .ok (.iinc k cst, 3)) (hl : ls[k]? = some (.val (.int x))) (hl' : storeLocals ls k (.int (x + Int32.ofInt cst)) = some ls') (hp : pc + 3 = pc')
    (k : own_Got p e below P T (mkF m pc' ls' (st))) : own_Got p e below P T (mkF m pc ls (st)) := by
  subst hp; exact own_go (fun _ q => XS.iinc X.here hx rfl (hb hby hd) hl hl' q) k
theorem g_dup (X : Stand p l e R s m args below meth c T locs cells slots) (hx : p.tables.exec = Jvm.exec) (hby : c.code = bytes) {x : Value} (hd : decode bytes pc = .ok (.dup, 1)) (hc : x.category = 1) (hp : pc + 1 = pc')
    (k : own_Got p e below P T (mkF m pc' ls (x :: x :: st))) : own_Got p e below P T (mkF m pc ls (x :: st)) := by
  subst hp; exact own_go (fun _ q => XS.dup X.here hx rfl (hb hby hd) rfl hc q) k
theorem g_dupX1 (X : Stand p l e R s m args below meth c T locs cells slots) (hx : p.tables.exec = Jvm.exec) (hby : c.code = bytes) {x y : Value} (hd : decode bytes pc = .ok (.dup_x1, 1)) (hc : x.category = 1) (hc2 : y.category = 1) (hp : pc + 1 = pc')
    (k : own_Got p e below P T (mkF m pc' ls (x :: y :: x :: st))) : own_Got p e below P T (mkF m pc ls (x :: y :: st)) := by
  subst hp; exact own_go (fun _ q => XS.dupX1 X.here hx rfl (hb hby hd) rfl hc hc2 q) k
theorem g_pop (X : Stand p l e R s m args below meth c T locs cells slots) (hx : p.tables.exec = Jvm.exec) (hby : c.code = bytes) {x : Value} (hd : decode bytes pc = .ok (.pop, 1)) (hc : x.category = 1) (hp : pc + 1 = pc')
    (k : own_Got p e below P T (mkF m pc' ls (st))) : own_Got p e below P T (mkF m pc ls (x :: st)) := by
  subst hp; exact own_go (fun _ q => XS.pop X.here hx rfl (hb hby hd) rfl hc q) k
theorem g_dup2 (X : Stand p l e R s m args below meth c T locs cells slots) (hx : p.tables.exec = Jvm.exec) (hby : c.code = bytes) {x y : Value} (hd : decode bytes pc = .ok (.dup2, 1)) (hc : x.category = 1) (hc2 : y.category = 1) (hp : pc + 1 = pc')
    (k : own_Got p e below P T (mkF m pc' ls (x :: y :: x :: y :: st))) : own_Got p e below P T (mkF m pc ls (x :: y :: st)) := by
  subst hp; exact own_go (fun _ q => XT.dup2 X.here hx rfl (hb hby hd) rfl hc hc2 q) k
theorem g_goto (X : Stand p l e R s m args below meth c T locs cells slots) (hx : p.tables.exec = Jvm.exec) (hby : c.code = bytes) {o : Int} (hd : decode bytes pc = .ok (.goto o, 3))  (ho : 0 ≤ (pc : Int) + o) (hp : ((pc : Int) + o).toNat = pc')
    (k : own_Got p e below P T (mkF m pc' ls (st))) : own_Got p e below P T (mkF m pc ls (st)) := by
  exact own_go (fun _ q => XS.goto X.here hx rfl rfl (hb hby hd) ho hp q) k
theorem g_ifT (X : Stand p l e R s m args below meth c T locs cells slots) (hx : p.tables.exec = Jvm.exec) (hby : c.code = bytes) {cd : ClassFile.Cond} {x : Int32} {o : Int} (hd : decode bytes pc = .ok (.ifCond cd o, 3)) (hc : ifCond.holds cd x = true) (ho : 0 ≤ (pc : Int) + o) (hp : ((pc : Int) + o).toNat = pc')
    (k : own_Got p e below P T (mkF m pc' ls (st))) : own_Got p e below P T (mkF m pc ls (.int x :: st)) := by
  exact own_go (fun _ q => XS.ifYes X.here hx rfl rfl (hb hby hd) rfl hc ho hp q) k
theorem g_icT (X : Stand p l e R s m args below meth c T locs cells slots) (hx : p.tables.exec = Jvm.exec) (hby : c.code = bytes) {cd : ClassFile.Cond} {x y : Int32} {o : Int} (hd : decode bytes pc = .ok (.if_icmp cd o, 3)) (hc : if_icmp.holds cd x y = true) (ho : 0 ≤ (pc : Int) + o) (hp : ((pc : Int) + o).toNat = pc')
    (k : own_Got p e below P T (mkF m pc' ls (st))) : own_Got p e below P T (mkF m pc ls (.int y :: .int x :: st)) := by
  exact own_go (fun _ q => XS.icmpYes X.here hx rfl rfl (hb hby hd) rfl hc ho hp q) k
theorem g_inT (X : Stand p l e R s m args below meth c T locs cells slots) (hx : p.tables.exec = Jvm.exec) (hby : c.code = bytes) {o : Int} (hd : decode bytes pc = .ok (.ifnull o, 3))  (ho : 0 ≤ (pc : Int) + o) (hp : ((pc : Int) + o).toNat = pc')
    (k : own_Got p e below P T (mkF m pc' ls (st))) : own_Got p e below P T (mkF m pc ls (.null :: st)) := by
  exact own_go (fun _ q => XS.ifnullYes X.here hx rfl rfl (hb hby hd) rfl ho hp q) k
theorem g_innT (X : Stand p l e R s m args below meth c T locs cells slots) (hx : p.tables.exec = Jvm.exec) (hby : c.code = bytes) {b : Addr} {o : Int} (hd : decode bytes pc = .ok (.ifnonnull o, 3))  (ho : 0 ≤ (pc : Int) + o) (hp : ((pc : Int) + o).toNat = pc')
    (k : own_Got p e below P T (mkF m pc' ls (st))) : own_Got p e below P T (mkF m pc ls (.ref b :: st)) := by
  exact own_go (fun _ q => XS.ifnonnullYes X.here hx rfl rfl (hb hby hd) rfl ho hp q) k
theorem g_ifF (X : Stand p l e R s m args below meth c T locs cells slots) (hx : p.tables.exec = Jvm.exec) (hby : c.code = bytes) {cd : ClassFile.Cond} {o : Int} {x : Int32} (hd : decode bytes pc = .ok (.ifCond cd o, 3)) (hc : ifCond.holds cd x = false) (hp : pc + 3 = pc')
    (k : own_Got p e below P T (mkF m pc' ls (st))) : own_Got p e below P T (mkF m pc ls (.int x :: st)) := by
  subst hp; exact own_go (fun _ q => XS.ifNo X.here hx rfl (hb hby hd) rfl hc q) k
theorem g_icF (X : Stand p l e R s m args below meth c T locs cells slots) (hx : p.tables.exec = Jvm.exec) (hby : c.code = bytes) {cd : ClassFile.Cond} {o : Int} {x y : Int32} (hd : decode bytes pc = .ok (.if_icmp cd o, 3)) (hc : if_icmp.holds cd x y = false) (hp : pc + 3 = pc')
    (k : own_Got p e below P T (mkF m pc' ls (st))) : own_Got p e below P T (mkF m pc ls (.int y :: .int x :: st)) := by
  subst hp; exact own_go (fun _ q => XS.icmpNo X.here hx rfl (hb hby hd) rfl hc q) k
theorem g_inF (X : Stand p l e R s m args below meth c T locs cells slots) (hx : p.tables.exec = Jvm.exec) (hby : c.code = bytes) {o : Int} {b : Addr} (hd : decode bytes pc = .ok (.ifnull o, 3))  (hp : pc + 3 = pc')
    (k : own_Got p e below P T (mkF m pc' ls (st))) : own_Got p e below P T (mkF m pc ls (.ref b :: st)) := by
  subst hp; exact own_go (fun _ q => XS.ifnullNo X.here hx rfl (hb hby hd) rfl q) k
theorem g_innF (X : Stand p l e R s m args below meth c T locs cells slots) (hx : p.tables.exec = Jvm.exec) (hby : c.code = bytes) {o : Int} (hd : decode bytes pc = .ok (.ifnonnull o, 3))  (hp : pc + 3 = pc')
    (k : own_Got p e below P T (mkF m pc' ls (st))) : own_Got p e below P T (mkF m pc ls (.null :: st)) := by
  subst hp; exact own_go (fun _ q => XS.ifnonnullNo X.here hx rfl (hb hby hd) rfl q) k
theorem g_acmp (X : Stand p l e R s m args below meth c T locs cells slots) (hx : p.tables.exec = Jvm.exec) (hby : c.code = bytes) {cd : ACond} {x y : Value} {o : Int} (same : Bool) (hd : decode bytes pc = .ok (.if_acmp cd o, 3)) (h1 : x.isRef = true) (h2 : y.isRef = true) (hq : decide (x = y) = same) (ho : 0 ≤ (pc : Int) + o) (hp : pc' = if acV cd same = true then ((pc : Int) + o).toNat else pc + 3)
    (k : own_Got p e below P T (mkF m pc' ls st)) : own_Got p e below P T (mkF m pc ls (y :: x :: st)) :=
  own_go (fun _ q => Jvm.RoadKit.acmp X hx rfl h1 h2 rfl (hb hby hd) rfl hq ho hp q) k
theorem g_ldcI (X : Stand p l e R s m args below meth c T locs cells slots) (hx : p.tables.exec = Jvm.exec) (hby : c.code = bytes) (hZ : Z.Warmed39 s.vm) {own : String} {index : Nat} {v : Int32} (hown : s.vm.findClass own = some m.cls) (w : (Cond.constant own index v).before a0 Z = true) (hd : decode bytes pc = .ok (.ldc index, 2)) (hp : pc + 2 = pc')
    (k : own_Got p e below P T (mkF m pc' ls (.int v :: st))) : own_Got p e below P T (mkF m pc ls st) := by
  subst hp; exact own_go (X.ldcInt hx hown (mvT hZ w) rfl (hb hby hd)) k
theorem g_ldc2D (X : Stand p l e R s m args below meth c T locs cells slots) (hx : p.tables.exec = Jvm.exec) (hby : c.code = bytes) (hZ : Z.Warmed39 s.vm) {own : String} {index : Nat} {v : UInt64} (hown : s.vm.findClass own = some m.cls) (w : (Cond.constantDouble own index v).before a0 Z = true) (hd : decode bytes pc = .ok (.ldc2_w index, 3)) (hp : pc + 3 = pc')
    (k : own_Got p e below P T (mkF m pc' ls (.double v :: st))) : own_Got p e below P T (mkF m pc ls st) := by
  subst hp; exact own_go (X.ldc2DoubleC hx hown (mvT hZ w) rfl (hb hby hd)) k
theorem g_alen (X : Stand p l e R s m args below meth c T locs cells slots) (hx : p.tables.exec = Jvm.exec) (hby : c.code = bytes) (hZ : Z.Warmed39 s.vm) (eT : T.heap = h) {a : Addr} {kk : ClassId} {ty : FieldType} {n : Int32} {vs : List Value} {d : Value} (F : Arv Z h a kk ty n vs d) (hd : decode bytes pc = .ok (.arraylength, 1)) (hp : pc + 1 = pc')
    (k : own_Got p e below P T (mkF m pc' ls (.int n :: st))) : own_Got p e below P T (mkF m pc ls (.ref a :: st)) := by
  subst hp
  obtain ⟨cl, Ar, -, S, N, -, -⟩ := F
  refine own_go (fun t q => X.arraylength hx (by rw [eT]; exact Ar.1) (State.isArrayOf_alike hZ.alike Ar.2.1) (g := mkF m pc ls (.ref a :: st)) rfl rfl (hb hby hd) t q) ?_
  rw [len_of S N]; exact k
theorem g_iaload (X : Stand p l e R s m args below meth c T locs cells slots) (hx : p.tables.exec = Jvm.exec) (hby : c.code = bytes) (hZ : Z.Warmed39 s.vm) (eT : T.heap = h) {a : Addr} {kk : ClassId} {n : Int32} {vs : List Value} {d v : Value} {j : Int32} (F : Arv Z h a kk .int n vs d) (hj : ¬ j < 0 ∧ j < n) (hv : vs.getD j.toNatClampNeg d = v) (hd : decode bytes pc = .ok (.iaload, 1)) (hp : pc + 1 = pc')
    (k : own_Got p e below P T (mkF m pc' ls (v :: st))) : own_Got p e below P T (mkF m pc ls (.int j :: .ref a :: st)) := by
  subst hp
  obtain ⟨cl, Ar, -, S, N, H, -⟩ := F
  exact own_go (fun t q => X.iaload hx (by rw [eT]; exact Ar.1) (State.isArrayOf_alike hZ.alike Ar.2.1) Ar.2.2 (inb_of S hj) (H.at (inb_of S hj) hv) (g := mkF m pc ls (.int j :: .ref a :: st)) rfl rfl (hb hby hd) t q) k
theorem g_caload (X : Stand p l e R s m args below meth c T locs cells slots) (hx : p.tables.exec = Jvm.exec) (hby : c.code = bytes) (hZ : Z.Warmed39 s.vm) (eT : T.heap = h) {a : Addr} {kk : ClassId} {n : Int32} {vs : List Value} {d v : Value} {j : Int32} (F : Arv Z h a kk .char n vs d) (hj : ¬ j < 0 ∧ j < n) (hv : vs.getD j.toNatClampNeg d = v) (hd : decode bytes pc = .ok (.caload, 1)) (hp : pc + 1 = pc')
    (k : own_Got p e below P T (mkF m pc' ls (v :: st))) : own_Got p e below P T (mkF m pc ls (.int j :: .ref a :: st)) := by
  subst hp
  obtain ⟨cl, Ar, -, S, N, H, -⟩ := F
  exact own_go (fun t q => X.caload hx (by rw [eT]; exact Ar.1) (State.isArrayOf_alike hZ.alike Ar.2.1) Ar.2.2 (inb_of S hj) (H.at (inb_of S hj) hv) (g := mkF m pc ls (.int j :: .ref a :: st)) rfl rfl (hb hby hd) t q) k
theorem g_laload (X : Stand p l e R s m args below meth c T locs cells slots) (hx : p.tables.exec = Jvm.exec) (hby : c.code = bytes) (hZ : Z.Warmed39 s.vm) (eT : T.heap = h) {a : Addr} {kk : ClassId} {n : Int32} {vs : List Value} {d v : Value} {j : Int32} (F : Arv Z h a kk .long n vs d) (hj : ¬ j < 0 ∧ j < n) (hv : vs.getD j.toNatClampNeg d = v) (hd : decode bytes pc = .ok (.laload, 1)) (hp : pc + 1 = pc')
    (k : own_Got p e below P T (mkF m pc' ls (v :: st))) : own_Got p e below P T (mkF m pc ls (.int j :: .ref a :: st)) := by
  subst hp
  obtain ⟨cl, Ar, -, S, N, H, -⟩ := F
  exact own_go (fun t q => X.laload hx (by rw [eT]; exact Ar.1) (State.isArrayOf_alike hZ.alike Ar.2.1) Ar.2.2 (inb_of S hj) (H.at (inb_of S hj) hv) (g := mkF m pc ls (.int j :: .ref a :: st)) rfl rfl (hb hby hd) t q) k
theorem g_baload (X : Stand p l e R s m args below meth c T locs cells slots) (hx : p.tables.exec = Jvm.exec) (hby : c.code = bytes) (hZ : Z.Warmed39 s.vm) (eT : T.heap = h) {a : Addr} {kk : ClassId} {n : Int32} {vs : List Value} {d v : Value} {j : Int32} (F : Arv Z h a kk .byte n vs d) (hj : ¬ j < 0 ∧ j < n) (hv : vs.getD j.toNatClampNeg d = v) (hd : decode bytes pc = .ok (.baload, 1)) (hp : pc + 1 = pc')
    (k : own_Got p e below P T (mkF m pc' ls (v :: st))) : own_Got p e below P T (mkF m pc ls (.int j :: .ref a :: st)) := by
  subst hp
  obtain ⟨cl, Ar, -, S, N, H, -⟩ := F
  exact own_go (fun t q => X.baloadBytes hx (by rw [eT]; exact Ar.1) (State.isArrayOf_alike hZ.alike Ar.2.1) Ar.2.2 (inb_of S hj) (H.at (inb_of S hj) hv) (g := mkF m pc ls (.int j :: .ref a :: st)) rfl rfl (hb hby hd) t q) k
theorem g_daload (X : Stand p l e R s m args below meth c T locs cells slots) (hx : p.tables.exec = Jvm.exec) (hby : c.code = bytes) (hZ : Z.Warmed39 s.vm) (eT : T.heap = h) {a : Addr} {kk : ClassId} {n : Int32} {vs : List Value} {d v : Value} {j : Int32} (F : Arv Z h a kk .double n vs d) (hj : ¬ j < 0 ∧ j < n) (hv : vs.getD j.toNatClampNeg d = v) (hd : decode bytes pc = .ok (.daload, 1)) (hp : pc + 1 = pc')
    (k : own_Got p e below P T (mkF m pc' ls (v :: st))) : own_Got p e below P T (mkF m pc ls (.int j :: .ref a :: st)) := by
  subst hp
  obtain ⟨cl, Ar, -, S, N, H, -⟩ := F
  exact own_go (fun t q => X.daload hx (by rw [eT]; exact Ar.1) (State.isArrayOf_alike hZ.alike Ar.2.1) Ar.2.2 (inb_of S hj) (H.at (inb_of S hj) hv) (g := mkF m pc ls (.int j :: .ref a :: st)) rfl rfl (hb hby hd) t q) k
theorem g_aaload (X : Stand p l e R s m args below meth c T locs cells slots) (hx : p.tables.exec = Jvm.exec) (hby : c.code = bytes) (hZ : Z.Warmed39 s.vm) (eT : T.heap = h) {a : Addr} {kk : ClassId} {ty : FieldType} {n : Int32} {vs : List Value} {d v : Value} {j : Int32} (F : Arv Z h a kk ty n vs d) (ht : ty.isReference = true) (hj : ¬ j < 0 ∧ j < n) (hv : vs.getD j.toNatClampNeg d = v) (hd : decode bytes pc = .ok (.aaload, 1)) (hp : pc + 1 = pc')
    (k : own_Got p e below P T (mkF m pc' ls (v :: st))) : own_Got p e below P T (mkF m pc ls (.int j :: .ref a :: st)) := by
  subst hp
  obtain ⟨cl, Ar, -, S, N, H, -⟩ := F
  exact own_go (fun t q => X.aaload hx (by rw [eT]; exact Ar.1) (State.isArrayOf_alike hZ.alike Ar.2.1) ht Ar.2.2 (inb_of S hj) (H.at (inb_of S hj) hv) (g := mkF m pc ls (.int j :: .ref a :: st)) rfl rfl (hb hby hd) t q) k
theorem a_iastore (X : Stand p l e R s m args below meth c T locs cells slots) (hx : p.tables.exec = Jvm.exec) (hby : c.code = bytes) (hZ : Z.Warmed39 s.vm) (eT : T.heap = h) {a : Addr} {kk : ClassId} {n : Int32} {vs : List Value} {d : Value} {j : Int32} (x : Int32) (i : Nat) (F : Arv Z h a kk .int n vs d) (hj : ¬ j < 0 ∧ j < n) (hi : j.toNatClampNeg = i) (hl : i < vs.length) (hd : decode bytes pc = .ok (.iastore, 1)) :
    ∃ T' h', Stand p l e R s m args below meth c T' (locs ++ [⟨a, j.toNatClampNeg⟩]) cells slots ∧ T'.heap = h' ∧ Wr h h' a j.toNatClampNeg (.int x) ∧ Arv Z h' a kk .int n (vs.set i (.int x)) d ∧ ∀ t, Steps p.tables e below (T'.setTop (mkF m (pc + 1) ls st)) t → Steps p.tables e below (T.setTop (mkF m pc ls (.int x :: .int j :: .ref a :: st))) t := by
  obtain ⟨cl, Ar, q1, S, N, H, Gf⟩ := F
  obtain ⟨T', h', X', e', W, k⟩ := stI X hx hZ eT Ar (j := j) (inb_of S hj) (g := mkF m pc ls (.int x :: .int j :: .ref a :: st)) rfl rfl (hb hby hd)
  exact ⟨T', h', X', e', W, Arv.set Ar q1 S N H Gf (rfl) W i hi hl, k⟩
theorem a_castore (X : Stand p l e R s m args below meth c T locs cells slots) (hx : p.tables.exec = Jvm.exec) (hby : c.code = bytes) (hZ : Z.Warmed39 s.vm) (eT : T.heap = h) {a : Addr} {kk : ClassId} {n : Int32} {vs : List Value} {d : Value} {j : Int32} (x : Int32) (i : Nat) (F : Arv Z h a kk .char n vs d) (hj : ¬ j < 0 ∧ j < n) (hi : j.toNatClampNeg = i) (hl : i < vs.length) (hd : decode bytes pc = .ok (.castore, 1)) :
    ∃ T' h', Stand p l e R s m args below meth c T' (locs ++ [⟨a, j.toNatClampNeg⟩]) cells slots ∧ T'.heap = h' ∧ Wr h h' a j.toNatClampNeg (.int (nar .char x)) ∧ Arv Z h' a kk .char n (vs.set i (.int (nar .char x))) d ∧ ∀ t, Steps p.tables e below (T'.setTop (mkF m (pc + 1) ls st)) t → Steps p.tables e below (T.setTop (mkF m pc ls (.int x :: .int j :: .ref a :: st))) t := by
  obtain ⟨cl, Ar, q1, S, N, H, Gf⟩ := F
  obtain ⟨T', h', X', e', W, k⟩ := stC X hx hZ eT Ar (j := j) (inb_of S hj) (g := mkF m pc ls (.int x :: .int j :: .ref a :: st)) rfl rfl (hb hby hd)
  exact ⟨T', h', X', e', W, Arv.set Ar q1 S N H Gf (fits_nar_char _) W i hi hl, k⟩
theorem a_bastore (X : Stand p l e R s m args below meth c T locs cells slots) (hx : p.tables.exec = Jvm.exec) (hby : c.code = bytes) (hZ : Z.Warmed39 s.vm) (eT : T.heap = h) {a : Addr} {kk : ClassId} {n : Int32} {vs : List Value} {d : Value} {j : Int32} (x : Int32) (i : Nat) (F : Arv Z h a kk .byte n vs d) (hj : ¬ j < 0 ∧ j < n) (hi : j.toNatClampNeg = i) (hl : i < vs.length) (hd : decode bytes pc = .ok (.bastore, 1)) :
    ∃ T' h', Stand p l e R s m args below meth c T' (locs ++ [⟨a, j.toNatClampNeg⟩]) cells slots ∧ T'.heap = h' ∧ Wr h h' a j.toNatClampNeg (.int (nar .byte x)) ∧ Arv Z h' a kk .byte n (vs.set i (.int (nar .byte x))) d ∧ ∀ t, Steps p.tables e below (T'.setTop (mkF m (pc + 1) ls st)) t → Steps p.tables e below (T.setTop (mkF m pc ls (.int x :: .int j :: .ref a :: st))) t := by
  obtain ⟨cl, Ar, q1, S, N, H, Gf⟩ := F
  obtain ⟨T', h', X', e', W, k⟩ := stB X hx hZ eT Ar (j := j) (inb_of S hj) (g := mkF m pc ls (.int x :: .int j :: .ref a :: st)) rfl rfl (hb hby hd)
  exact ⟨T', h', X', e', W, Arv.set Ar q1 S N H Gf (fits_nar_byte _) W i hi hl, k⟩
theorem a_lastore (X : Stand p l e R s m args below meth c T locs cells slots) (hx : p.tables.exec = Jvm.exec) (hby : c.code = bytes) (hZ : Z.Warmed39 s.vm) (eT : T.heap = h) {a : Addr} {kk : ClassId} {n : Int32} {vs : List Value} {d : Value} {j : Int32} (x : Int64) (i : Nat) (F : Arv Z h a kk .long n vs d) (hj : ¬ j < 0 ∧ j < n) (hi : j.toNatClampNeg = i) (hl : i < vs.length) (hd : decode bytes pc = .ok (.lastore, 1)) :
    ∃ T' h', Stand p l e R s m args below meth c T' (locs ++ [⟨a, j.toNatClampNeg⟩]) cells slots ∧ T'.heap = h' ∧ Wr h h' a j.toNatClampNeg (.long x) ∧ Arv Z h' a kk .long n (vs.set i (.long x)) d ∧ ∀ t, Steps p.tables e below (T'.setTop (mkF m (pc + 1) ls st)) t → Steps p.tables e below (T.setTop (mkF m pc ls (.long x :: .int j :: .ref a :: st))) t := by
  obtain ⟨cl, Ar, q1, S, N, H, Gf⟩ := F
  obtain ⟨T', h', X', e', W, k⟩ := stJ X hx hZ eT Ar (j := j) (inb_of S hj) (g := mkF m pc ls (.long x :: .int j :: .ref a :: st)) rfl rfl (hb hby hd)
  exact ⟨T', h', X', e', W, Arv.set Ar q1 S N H Gf (rfl) W i hi hl, k⟩
theorem a_dastore (X : Stand p l e R s m args below meth c T locs cells slots) (hx : p.tables.exec = Jvm.exec) (hby : c.code = bytes) (hZ : Z.Warmed39 s.vm) (eT : T.heap = h) {a : Addr} {kk : ClassId} {n : Int32} {vs : List Value} {d : Value} {j : Int32} (x : UInt64) (i : Nat) (F : Arv Z h a kk .double n vs d) (hj : ¬ j < 0 ∧ j < n) (hi : j.toNatClampNeg = i) (hl : i < vs.length) (hd : decode bytes pc = .ok (.dastore, 1)) :
    ∃ T' h', Stand p l e R s m args below meth c T' (locs ++ [⟨a, j.toNatClampNeg⟩]) cells slots ∧ T'.heap = h' ∧ Wr h h' a j.toNatClampNeg (.double x) ∧ Arv Z h' a kk .double n (vs.set i (.double x)) d ∧ ∀ t, Steps p.tables e below (T'.setTop (mkF m (pc + 1) ls st)) t → Steps p.tables e below (T.setTop (mkF m pc ls (.double x :: .int j :: .ref a :: st))) t := by
  obtain ⟨cl, Ar, q1, S, N, H, Gf⟩ := F
  obtain ⟨T', h', X', e', W, k⟩ := stD X hx hZ eT Ar (j := j) (inb_of S hj) (g := mkF m pc ls (.double x :: .int j :: .ref a :: st)) rfl rfl (hb hby hd)
  exact ⟨T', h', X', e', W, Arv.set Ar q1 S N H Gf (rfl) W i hi hl, k⟩
theorem a_aastore (X : Stand p l e R s m args below meth c T locs cells slots) (hx : p.tables.exec = Jvm.exec) (hby : c.code = bytes) (hZ : Z.Warmed39 s.vm) (eT : T.heap = h) {a b : Addr} {kk : ClassId} {Cn : String} {n : Int32} {vs : List Value} {d : Value} {j : Int32} (i : Nat) (F : Arv Z h a kk (.object Cn) n vs d) (O : Ovr Z kk Cn) (I : Ins Z h b Cn true) (hj : ¬ j < 0 ∧ j < n) (hi : j.toNatClampNeg = i) (hl : i < vs.length) (hd : decode bytes pc = .ok (.aastore, 1)) :
    ∃ T' h', Stand p l e R s m args below meth c T' (locs ++ [⟨a, j.toNatClampNeg⟩]) cells slots ∧ T'.heap = h' ∧ Wr h h' a j.toNatClampNeg (.ref b) ∧ Arv Z h' a kk (.object Cn) n (vs.set i (.ref b)) d ∧ ∀ t, Steps p.tables e below (T'.setTop (mkF m (pc + 1) ls st)) t → Steps p.tables e below (T.setTop (mkF m pc ls (.ref b :: .int j :: .ref a :: st))) t := by
  obtain ⟨cl, Ar, q1, S, N, H, Gf⟩ := F
  obtain ⟨T', h', X', e', W, k⟩ := stR X hx hZ eT Ar (j := j) (inb_of S hj) rfl (Sto.ofV Ar q1 O I) (g := mkF m pc ls (.ref b :: .int j :: .ref a :: st)) rfl rfl (hb hby hd)
  exact ⟨T', h', X', e', W, Arv.set Ar q1 S N H Gf rfl W i hi hl, k⟩
theorem own_stakeep {C n d : String} {v : Value} {K : String} {a : Addr} (F : Sta Z h C n d v) (k : Keep h h' [a]) (E : Exa Z h a K) : Sta Z h' C n d v := by
  obtain ⟨cf, i, kk, f, st, cell, h1, h2, h3, h4, h5, h6, h7⟩ := F
  refine ⟨cf, i, kk, f, st, cell, h1, h2, h3, h4, k.2.1 _ _ h5 (fun q => ?_), h6, h7⟩
  obtain ⟨c2, k2, g1, -, -, g4, -⟩ := E
  cases List.mem_singleton.mp q
  cases h5.symm.trans g1
  rw [g4] at h6; cases h6
theorem own_stakeep0 {C n d : String} {v : Value} (F : Sta Z h C n d v) (k : Keep h h' []) : Sta Z h' C n d v := by
  obtain ⟨cf, i, kk, f, st, cell, h1, h2, h3, h4, h5, h6, h7⟩ := F
  exact ⟨cf, i, kk, f, st, cell, h1, h2, h3, h4, k.2.1 _ _ h5 nin0, h6, h7⟩
theorem own_eqI {t : Term} {first : State} {o : Option Outcome} {idx : List Nat} {z : Int32} (hq : (Cond.eq t (.int z)).value args first o s idx = some true) : t.eval args first o idx s = some (.int z) := by
  obtain ⟨x, y, hx, hy, kk, -⟩ := cmp_v (Or.inl hq)
  have hy' : y = .int z := Option.some.inj (hy.symm.trans rfl)
  subst hy'
  cases x with
  | int x => simp only [Cond.value, hx, hy] at hq; simp at hq; rw [hx, hq]
  | _ => simp [Kin, Value.isRef] at kk
theorem own_eqR {t u : Term} {first : State} {o : Option Outcome} {idx : List Nat} {b : Addr} (hq : (Cond.eq t u).value args first o s idx = some true) (hu : u.eval args first o idx s = some (.ref b)) : t.eval args first o idx s = some (.ref b) := by
  obtain ⟨x, y, hx, hy, kk, kk2⟩ := cmp_v (Or.inl hq)
  cases hu.symm.trans hy
  have hr : x.isRef = true := kk2.2
  have := gotT (eq_R hx hu hr rfl) hq
  rw [hx, this]
theorem g_i2d (X : Stand p l e R s m args below meth c T locs cells slots) (hx : p.tables.exec = Jvm.exec) (hby : c.code = bytes) {x : Int32} (hd : decode bytes pc = .ok (.i2d, 1))  (hp : pc + 1 = pc')
    (k : own_Got p e below P T (mkF m pc' ls (.double (FP.i2d x) :: st))) : own_Got p e below P T (mkF m pc ls (.int x :: st)) := by
  subst hp; exact own_go (fun _ q => XS.i2dS X.here hx rfl (hb hby hd) rfl rfl q) k
theorem g_dcmp (X : Stand p l e R s m args below meth c T locs cells slots) (hx : p.tables.exec = Jvm.exec) (hby : c.code = bytes) {o : CmpOp} {x y : UInt64} (hd : decode bytes pc = .ok (.dcmp o, 1))  (hp : pc + 1 = pc')
    (k : own_Got p e below P T (mkF m pc' ls (.int (cmpValue (FP.dcmp x y) o) :: st))) : own_Got p e below P T (mkF m pc ls (.double y :: .double x :: st)) := by
  subst hp; exact own_go (fun _ q => XS.dcmpS X.here hx rfl (hb hby hd) rfl rfl q) k
theorem g_dconst0 (X : Stand p l e R s m args below meth c T locs cells slots) (hx : p.tables.exec = Jvm.exec) (hby : c.code = bytes) (z : UInt64) (hd : decode bytes pc = .ok (.dconst 0, 1)) (hz : FP.dconst0 = z) (hp : pc + 1 = pc')
    (k : own_Got p e below P T (mkF m pc' ls (.double z :: st))) : own_Got p e below P T (mkF m pc ls (st)) := by
  subst hp; exact own_go (fun _ q => XS.dconst0 X.here hx rfl (hb hby hd) hz q) k
theorem g_dadd (X : Stand p l e R s m args below meth c T locs cells slots) (hx : p.tables.exec = Jvm.exec) (hby : c.code = bytes) {x y : UInt64} (hd : decode bytes pc = .ok (.dadd, 1)) (hn : Jvm.Free.Fl.NoNaN64 (FP.dadd x y)) (hp : pc + 1 = pc')
    (k : own_Got p e below P T (mkF m pc' ls (.double (FP.dadd x y) :: st))) : own_Got p e below P T (mkF m pc ls (.double y :: .double x :: st)) := by
  subst hp; exact own_go (fun _ q => XS.daddS X.here hx rfl (hb hby hd) rfl hn rfl q) k
theorem g_dsub (X : Stand p l e R s m args below meth c T locs cells slots) (hx : p.tables.exec = Jvm.exec) (hby : c.code = bytes) {x y : UInt64} (hd : decode bytes pc = .ok (.dsub, 1)) (hn : Jvm.Free.Fl.NoNaN64 (FP.dsub x y)) (hp : pc + 1 = pc')
    (k : own_Got p e below P T (mkF m pc' ls (.double (FP.dsub x y) :: st))) : own_Got p e below P T (mkF m pc ls (.double y :: .double x :: st)) := by
  subst hp; exact own_go (fun _ q => XS.dsubS X.here hx rfl (hb hby hd) rfl hn rfl q) k
theorem g_dmul (X : Stand p l e R s m args below meth c T locs cells slots) (hx : p.tables.exec = Jvm.exec) (hby : c.code = bytes) {x y : UInt64} (hd : decode bytes pc = .ok (.dmul, 1)) (hn : Jvm.Free.Fl.NoNaN64 (FP.dmul x y)) (hp : pc + 1 = pc')
    (k : own_Got p e below P T (mkF m pc' ls (.double (FP.dmul x y) :: st))) : own_Got p e below P T (mkF m pc ls (.double y :: .double x :: st)) := by
  subst hp; exact own_go (fun _ q => XS.dmulS X.here hx rfl (hb hby hd) rfl hn rfl q) k
theorem g_ddiv (X : Stand p l e R s m args below meth c T locs cells slots) (hx : p.tables.exec = Jvm.exec) (hby : c.code = bytes) {x y : UInt64} (hd : decode bytes pc = .ok (.ddiv, 1)) (hn : Jvm.Free.Fl.NoNaN64 (FP.ddiv x y)) (hp : pc + 1 = pc')
    (k : own_Got p e below P T (mkF m pc' ls (.double (FP.ddiv x y) :: st))) : own_Got p e below P T (mkF m pc ls (.double y :: .double x :: st)) := by
  subst hp; exact own_go (fun _ q => XS.ddivS X.here hx rfl (hb hby hd) rfl hn rfl q) k
theorem own_narR {t : FieldType} {w : Value} (ht : t.isReference = true) (hw : w.isRef = true) : narrow t w = w := by rcases ref_cases hw with rfl | ⟨a, rfl⟩ <;> cases t <;> first | rfl | (cases ht)
theorem own_fitR {t : FieldType} {w : Value} (ht : t.isReference = true) (hw : w.isRef = true) : fits t w = true := by rcases ref_cases hw with rfl | ⟨a, rfl⟩ <;> cases t <;> first | rfl | (cases ht)
theorem own_nb (x : Int32) : nar .byte (x.toInt8.toInt32) = x.toInt8.toInt32 := by
  show (x.toInt8.toInt32).toInt8.toInt32 = x.toInt8.toInt32
  simp
theorem own_nc (x : Int32) : nar .char (x.toUInt32.toUInt16.toUInt32.toInt32) = x.toUInt32.toUInt16.toUInt32.toInt32 := by
  show (x.toUInt32.toUInt16.toUInt32.toInt32).toUInt32.toUInt16.toUInt32.toInt32 = _
  have q : ∀ u : UInt16, u.toUInt32.toInt32.toUInt32.toUInt16 = u := fun u => by simp
  rw [q]
end OwnKit
/-- the boxes' store: an array of Integers with 256 places, a reference in each -/
def own_IC (Z : State) (h : Heap) (wc : Addr) : Prop := ∃ cl : Cell, Arr Z h wc cl (.object "java/lang/Integer") ∧ ∀ j : Int32, ¬ j < 0 → j < 256 → ¬ (j < 0 ∨ cl.slots.size ≤ j.toNatClampNeg) ∧ ∃ r, cl.slots[j.toNatClampNeg]? = some (.ref r)
theorem own_IC_ext {Z : State} {h h' : Heap} {wc : Addr} (F : own_IC Z h wc) (E : Ext h h') : own_IC Z h' wc := by
  obtain ⟨cl, A, r⟩ := F; exact ⟨cl, A.ext E, r⟩
theorem own_IC_wr {Z : State} {h h' : Heap} {wc a : Addr} {sl : Nat} {v : Value} (F : own_IC Z h wc) (W : Wr h h' a sl v) (q : wc ≠ a) : own_IC Z h' wc := by
  obtain ⟨cl, A, r⟩ := F; exact ⟨cl, A.other W q, r⟩
theorem own_IC_keep {Z : State} {h h' : Heap} {wc : Addr} {ws : List Addr} (F : own_IC Z h wc) (K : Keep h h' ws) (q : wc ∉ ws) : own_IC Z h' wc := by
  obtain ⟨cl, A, r⟩ := F; exact ⟨cl, ⟨K.2.1 wc cl A.1 q, A.2⟩, r⟩
theorem own_ic_idx {x : Int32} (h1 : ¬ (x < (-128 : Int32))) (h2 : ¬ ((127 : Int32) < x)) : ¬ (x + (128 : Int32)) < 0 ∧ (x + (128 : Int32)) < 256 := by
  rw [Int32.lt_iff_toInt_lt] at h1 h2
  rw [Int32.lt_iff_toInt_lt, Int32.lt_iff_toInt_lt]
  have e1 : (-128 : Int32).toInt = -128 := by decide
  have e2 : (127 : Int32).toInt = 127 := by decide
  have e3 : (128 : Int32).toInt = 128 := by decide
  have e4 : (256 : Int32).toInt = 256 := by decide
  have e5 : (0 : Int32).toInt = 0 := by decide
  have := c_iadd x 128
  have := rng32 (x + 128)
  omega
section OwnBox
variable {p : Program} {l : Launch} {e : Env} {R : Room} {s : State} {m : MethodId} {args : Array Value} {below : List Frame} {meth : Method} {c : Code} {T T' : State} {locs : List Loc} {cells slots : Nat} {P : Outcome → State → Prop} {Q : Option Value → Heap → List Loc → Prop} {cC cS : Nat} {bytes : ByteArray} {ls : Array Slot} {st : List Value} {pc pc' : Nat} {g g' : JFrame} {Z : State} {a0 : Array Value} {h h' : Heap}
theorem g_ic (X : Stand p l e R s m args below meth c T locs cells slots) (hx : p.tables.exec = Jvm.exec) (hby : c.code = bytes) (hZ : Z.Warmed39 s.vm) (eT : T.heap = h) {wc : Addr} {j : Int32} (F : own_IC Z h wc) (h0 : ¬ j < 0) (h1 : j < 256) (hd : decode bytes pc = .ok (.aaload, 1)) (hp : pc + 1 = pc')
    (k : ∀ r : Addr, own_Got p e below P T (mkF m pc' ls (.ref r :: st))) : own_Got p e below P T (mkF m pc ls (.int j :: .ref wc :: st)) := by
  subst hp
  obtain ⟨cl, Ar, r⟩ := F
  obtain ⟨hin, a, ha⟩ := r j h0 h1
  exact own_go (fun t q => X.aaload hx (by rw [eT]; exact Ar.1) (State.isArrayOf_alike hZ.alike Ar.2.1) rfl Ar.2.2 hin ha (g := mkF m pc ls (.int j :: .ref wc :: st)) rfl rfl (hb hby hd) t q) (k a)
end OwnBox
theorem own_IC_start {s : State} {args : Array Value} {wc : Addr} {t : Term} {d : Jvm.Cond} (ht : ∀ idx, t.eval args s none idx s = some (.ref wc)) (h4 : (Cond.arrayOf t (.object "java/lang/Integer")).value args s none s [] = some true)
    (h6 : (Term.length t).eval args s none [] s = some (.int 256)) (h7 : (Cond.all t (Cond.and (Cond.exactly (Term.elem t (Term.index 0)) "java/lang/Integer") d)).value args s none s [] = some true) : own_IC s s.heap wc := by
  obtain ⟨cl, A⟩ := Arr.start (ht []) h4
  obtain ⟨a', cell, e1, e2, e3⟩ := Term.length_spec h6
  cases (ht []).symm.trans e1
  obtain ⟨hc, -⟩ := State.arrayAt?_spec e2
  cases A.1.symm.trans hc
  have h31 := SBG.length_lt (ht []) e2 h6
  have hsz : cl.slots.size = 256 := by
    have q : (256 : Int32) = cl.slots.size.toInt32 := by simpa using e3
    have q2 := congrArg Int32.toInt q
    rw [len_toInt h31] at q2
    have : (256 : Int32).toInt = 256 := by decide
    omega
  refine ⟨cl, A, fun j h0 h1 => ?_⟩
  have hj : j.toNatClampNeg < 256 := by
    rw [Int32.lt_iff_toInt_lt] at h1
    have : (256 : Int32).toInt = 256 := by decide
    simp only [Int32.toNatClampNeg]; omega
  have hin : ¬ (j < 0 ∨ cl.slots.size ≤ j.toNatClampNeg) := fun q => q.elim h0 (fun r => by omega)
  have hal := Cond.all_elim (ht []) e2 h7 j.toNatClampNeg (by omega)
  obtain ⟨hx, -⟩ := and_e hal
  obtain ⟨r, er⟩ := exa_v hx
  obtain ⟨-, ev⟩ := elem_in er (ht _) (idx_at h0) A.1
  exact ⟨hin, r, ev⟩

theorem d_num_0 : decode jdk_18_method_1_code 0 = .ok (.aload_n 0, 1) := by decide +kernel
theorem d_num_1 : decode jdk_18_method_1_code 1 = .ok (.invokespecial 1, 3) := by decide +kernel
theorem d_num_4 : decode jdk_18_method_1_code 4 = .ok (.return_, 1) := by decide +kernel
theorem pn0 : plainName "java/lang/Number" = true := by first | (simp [plainName, overriddenIn]; done) | decide +kernel
theorem ef_num (m : MethodId) (a0 : Addr) : entryFrame m #[(.ref a0)] 1 = mkF m 0 #[.val (.ref a0)] [] := by first | (simp [entryFrame, mkF, argsToLocals, Value.category]; done) | rfl
def Q_num (Z : State) (a0 : Addr) (h0 : Heap) (n0 : Nat) (v : Option Value) (h : Heap) (L : List Loc) : Prop := v = none ∧ Fr n0 L ∧ h = h0
set_option maxRecDepth 65536 in
set_option maxHeartbeats 40000000 in
theorem rm_num (l : Launch) (Z : State) (aT : Array Value) (hw : ∀ d ∈ tables_1, d.before aT Z = true) (ws : List Jvm.Cond) (a0 : Addr) (h0 : Heap) (n0 : Nat) (Z0 : n0 ≤ h0.size) :
    MetFree l (⟨"java/lang/Number", "<init>", "()V"⟩ : MethodName) (head1 (Jvm.Cond.code (⟨"java/lang/Number", "<init>", "()V"⟩ : MethodName) jdk_18_method_1_code 1 none :: ws) ({ frames := 1, cells := 0, slots := 0, locals := 12 } : Room)) (fun a U => a = #[(.ref a0)] ∧ Z.Warmed39 U.vm ∧ U.heap = h0) (fun _ _ _ _ _ => True) (fun _ U o U' => ∃ v L, o = .returned v ∧ Q_num Z a0 h0 n0 v U'.heap L ∧ FrameEnd U o U' L ({ frames := 1, cells := 0, slots := 0, locals := 12 } : Room).cells ({ frames := 1, cells := 0, slots := 0, locals := 12 } : Room).slots) := by
  refine MetFree.of_bodySF (plainFor_of_name pn0) hisR ?_
  intro p e s m args below meth c s₁ Bd hml0 hP hK
  obtain ⟨rfl, hZ, hh⟩ := hP
  have hx := Bd.exec
  have hby := Bd.bytes
  have hml : c.maxLocals = 1 := hml0
  have hown : s.vm.findClass "java/lang/Number" = some m.cls := findClass_of_methodNamed Bd.named
  have hnm := (name_of_methodNamed Bd.named Bd.method).1
  have hlk := Bd.notSynchronized
  have hrt := Bd.returns
  have X0 : Stand p l e ({ frames := 1, cells := 0, slots := 0, locals := 12 } : Room) s m #[(.ref a0)] below meth c s₁ [] 0 0 := Stand.of_body Bd
  have e0 : s₁.heap = h0 := by rw [← hh, Bd.state]; rfl
  have N0 := Fr.nil n0
  refine own_cast (P := own_End s (Q_num Z a0 h0 n0) ({ frames := 1, cells := 0, slots := 0, locals := 12 } : Room).cells ({ frames := 1, cells := 0, slots := 0, locals := 12 } : Room).slots) (ef_num m a0) ?_
  refine g_aloadN X0 hx hby d_num_0 rfl rfl (rfl : 0 + 1 = 1) ?_
  obtain ⟨T1, X1, e1, st1⟩ := initO X0 hx hZ hown (hw _ (List.mem_of_getElem? (i := 57) rfl)) (hw _ (List.mem_of_getElem? (i := 15) rfl)) (hw _ (List.mem_of_getElem? (i := 16) rfl)) e0 (g := (mkF m 1 #[.val (.ref a0)] [(.ref a0)])) rfl (by rw [hml]; rfl) rfl (hb hby d_num_1) (by decide) (W := 0) (by show 2 * 0 + _ ≤ _; exact Nat.le_of_eq rfl) (by decide)
  refine own_go st1 ?_
  show own_Got p e below _ T1 (mkF m 4 #[.val (.ref a0)] [])
  refine own_retV X1 hx hby hlk hrt d_num_4 (by decide) (by decide) ?_
  show Q_num Z a0 h0 n0 _ T1.heap _
  exact ⟨rfl, N0, e1⟩
theorem d_igi_0 : decode jdk_33_method_23_code 0 = .ok (.aload_n 0, 1) := by decide +kernel
theorem d_igi_1 : decode jdk_33_method_23_code 1 = .ok (.invokespecial 202, 3) := by decide +kernel
theorem d_igi_4 : decode jdk_33_method_23_code 4 = .ok (.aload_n 0, 1) := by decide +kernel
theorem d_igi_5 : decode jdk_33_method_23_code 5 = .ok (.iload_n 1, 1) := by decide +kernel
theorem d_igi_6 : decode jdk_33_method_23_code 6 = .ok (.putfield 205, 3) := by decide +kernel
theorem d_igi_9 : decode jdk_33_method_23_code 9 = .ok (.return_, 1) := by decide +kernel
theorem pn1 : plainName "java/lang/Integer" = true := by first | (simp [plainName, overriddenIn]; done) | decide +kernel
theorem pd0 : parseMethodDescriptor "()V" = some ⟨[], none⟩ := by decide +kernel
theorem ef_igi (m : MethodId) (a0 : Addr) (x1 : Int32) : entryFrame m #[(.ref a0), (.int x1)] 2 = mkF m 0 #[.val (.ref a0), .val (.int x1)] [] := by first | (simp [entryFrame, mkF, argsToLocals, Value.category]; done) | rfl
def Q_igi (Z : State) (a0 : Addr) (x1 : Int32) (h0 : Heap) (n0 : Nat) (v : Option Value) (h : Heap) (L : List Loc) : Prop := v = none ∧ Fr n0 L ∧ Keep h0 h [a0] ∧ Exa Z h a0 "java/lang/Integer"
set_option maxRecDepth 65536 in
set_option maxHeartbeats 40000000 in
theorem rm_igi (l : Launch) (Z : State) (aT : Array Value) (hw : ∀ d ∈ tables_1, d.before aT Z = true) (ws : List Jvm.Cond) (a0 : Addr) (x1 : Int32) (h0 : Heap) (n0 : Nat) (Z0 : n0 ≤ h0.size) (hp0 : Exa Z h0 a0 "java/lang/Integer") (hp1 : Fld Z h0 a0 "java/lang/Integer" "value" "I" (.int (0 : Int32))) (hp2 : n0 ≤ a0) :
    MetFree l (⟨"java/lang/Integer", "<init>", "(I)V"⟩ : MethodName) (head1 (Jvm.Cond.code (⟨"java/lang/Integer", "<init>", "(I)V"⟩ : MethodName) jdk_33_method_23_code 2 none :: ws) ({ frames := 2, cells := 0, slots := 0, locals := 24 } : Room)) (fun a U => a = #[(.ref a0), (.int x1)] ∧ Z.Warmed39 U.vm ∧ U.heap = h0) (fun _ _ _ _ _ => True) (fun _ U o U' => ∃ v L, o = .returned v ∧ Q_igi Z a0 x1 h0 n0 v U'.heap L ∧ FrameEnd U o U' L ({ frames := 2, cells := 0, slots := 0, locals := 24 } : Room).cells ({ frames := 2, cells := 0, slots := 0, locals := 24 } : Room).slots) := by
  refine MetFree.of_bodySF (plainFor_of_name pn1) hisR ?_
  intro p e s m args below meth c s₁ Bd hml0 hP hK
  obtain ⟨rfl, hZ, hh⟩ := hP
  have hx := Bd.exec
  have hby := Bd.bytes
  have hml : c.maxLocals = 2 := hml0
  have hown : s.vm.findClass "java/lang/Integer" = some m.cls := findClass_of_methodNamed Bd.named
  have hnm := (name_of_methodNamed Bd.named Bd.method).1
  have hlk := Bd.notSynchronized
  have hrt := Bd.returns
  have X0 : Stand p l e ({ frames := 2, cells := 0, slots := 0, locals := 24 } : Room) s m #[(.ref a0), (.int x1)] below meth c s₁ [] 0 0 := Stand.of_body Bd
  have e0 : s₁.heap = h0 := by rw [← hh, Bd.state]; rfl
  have N0 := Fr.nil n0
  refine own_cast (P := own_End s (Q_igi Z a0 x1 h0 n0) ({ frames := 2, cells := 0, slots := 0, locals := 24 } : Room).cells ({ frames := 2, cells := 0, slots := 0, locals := 24 } : Room).slots) (ef_igi m a0 x1) ?_
  refine g_aloadN X0 hx hby d_igi_0 rfl rfl (rfl : 0 + 1 = 1) ?_
  obtain ⟨_, _, ⟨T2, L2, k2, n2⟩, -, X2, ⟨Lc2, hQ2, l2, y2, z2⟩, st2⟩ := X0.specialBack hx (y := (⟨"java/lang/Number", "<init>", "()V"⟩ : MethodName)) rfl hown (mvT hZ (hw _ (List.mem_of_getElem? (i := 51) rfl))) (mvT hZ (hw _ (List.mem_of_getElem? (i := 52) rfl))) (mvT hZ (hw _ (List.mem_of_getElem? (i := 56) rfl))) (by decide) (backOf (W := 0) (rm_num l Z aT hw [] a0 h0 n0 Z0) hZ (hw _ (List.mem_of_getElem? (i := 56) rfl)) (hw _ (List.mem_of_getElem? (i := 55) rfl)) (by decide) (by decide)) (g := (mkF m 1 #[.val (.ref a0), .val (.int x1)] [(.ref a0)])) rfl (by rw [hml]; rfl) (Steps.refl _) (a := a0) (argsL := []) (rest := []) (lenOf pd0 rfl) rfl (by show 2 * 0 + _ ≤ _; exact Nat.le_of_eq rfl) (hb hby d_igi_1) (fun _ _ => ⟨rfl, e0, (by decide : 0 + 0 ≤ _), (by decide : 0 + 0 ≤ _)⟩)
  dsimp only [Pt.U, Pt.locs, Pt.cells, Pt.slots] at X2 l2 y2 z2 st2 hQ2
  subst l2 y2 z2
  obtain ⟨rfl, N2q, eq2⟩ := hQ2
  have N2 := Fr.app N0 N2q
  refine own_tr st2 ?_
  show own_Got p e below _ T2 (mkF m 4 #[.val (.ref a0), .val (.int x1)] [])
  refine g_aloadN X2 hx hby d_igi_4 rfl rfl (rfl : 4 + 1 = 5) ?_
  refine g_iloadN X2 hx hby d_igi_5 rfl (rfl : 5 + 1 = 6) ?_
  obtain ⟨T3, h3, X3, e3, W3, st3⟩ := putF X2 hx hZ hown (host := "") (Or.inl (hw _ (List.mem_of_getElem? (i := 58) rfl))) Via.refl eq2 hp1 hp0 (Or.inr ⟨(hw _ (List.mem_of_getElem? (i := 59) rfl)), rfl, hnm⟩) (hw _ (List.mem_of_getElem? (i := 46) rfl)) (ty := .int) (by decide) rfl rfl (g := (mkF m 6 #[.val (.ref a0), .val (.int x1)] [(.int x1), (.ref a0)])) rfl rfl (hb hby d_igi_6)
  have Z3 : n0 ≤ h3.size := Nat.le_trans Z0 (Keep.of_wr W3).1
  have N3 := Fr.snoc X3 N2 hp2
  have K3 : Keep h0 h3 [a0] := (Keep.refl h0 [a0]).wr W3 (Or.inl (List.mem_of_getElem? (i := 0) rfl))
  have f3 : Fld Z h3 a0 "java/lang/Integer" "value" "I" (.int x1) := Fld.same W3 hp1
  refine own_go st3 ?_
  show own_Got p e below _ T3 (mkF m 9 #[.val (.ref a0), .val (.int x1)] [])
  have f4 : Exa Z h3 a0 "java/lang/Integer" := (Exa.wr W3 hp0)
  refine own_retV X3 hx hby hlk hrt d_igi_9 (by decide) (by decide) ?_
  show Q_igi Z a0 x1 h0 n0 _ T3.heap _
  rw [e3]
  exact ⟨rfl, N3, K3, f4⟩
theorem d_vof_0 : decode jdk_33_method_22_code 0 = .ok (.iload_n 0, 1) := by decide +kernel
theorem d_vof_1 : decode jdk_33_method_22_code 1 = .ok (.bipush (-128), 2) := by decide +kernel
theorem d_vof_3 : decode jdk_33_method_22_code 3 = .ok (.if_icmp .lt 20, 3) := by decide +kernel
theorem d_vof_6 : decode jdk_33_method_22_code 6 = .ok (.iload_n 0, 1) := by decide +kernel
theorem d_vof_7 : decode jdk_33_method_22_code 7 = .ok (.getstatic 191, 3) := by decide +kernel
theorem d_vof_10 : decode jdk_33_method_22_code 10 = .ok (.if_icmp .gt 13, 3) := by decide +kernel
theorem d_vof_13 : decode jdk_33_method_22_code 13 = .ok (.getstatic 195, 3) := by decide +kernel
theorem d_vof_16 : decode jdk_33_method_22_code 16 = .ok (.iload_n 0, 1) := by decide +kernel
theorem d_vof_17 : decode jdk_33_method_22_code 17 = .ok (.sipush 128, 3) := by decide +kernel
theorem d_vof_20 : decode jdk_33_method_22_code 20 = .ok (.iadd, 1) := by decide +kernel
theorem d_vof_21 : decode jdk_33_method_22_code 21 = .ok (.aaload, 1) := by decide +kernel
theorem d_vof_22 : decode jdk_33_method_22_code 22 = .ok (.areturn, 1) := by decide +kernel
theorem d_vof_23 : decode jdk_33_method_22_code 23 = .ok (.new 1, 3) := by decide +kernel
theorem d_vof_26 : decode jdk_33_method_22_code 26 = .ok (.dup, 1) := by decide +kernel
theorem d_vof_27 : decode jdk_33_method_22_code 27 = .ok (.iload_n 0, 1) := by decide +kernel
theorem d_vof_28 : decode jdk_33_method_22_code 28 = .ok (.invokespecial 199, 3) := by decide +kernel
theorem d_vof_31 : decode jdk_33_method_22_code 31 = .ok (.areturn, 1) := by decide +kernel
theorem pd1 : parseMethodDescriptor "(I)V" = some ⟨[.int], none⟩ := by decide +kernel
theorem ef_vof (m : MethodId) (x0 : Int32) : entryFrame m #[(.int x0)] 1 = mkF m 0 #[.val (.int x0)] [] := by first | (simp [entryFrame, mkF, argsToLocals, Value.category]; done) | rfl
def Q_vof (Z : State) (x0 : Int32) (wc : Addr) (h0 : Heap) (n0 : Nat) (v : Option Value) (h : Heap) (L : List Loc) : Prop := ∃ (r : Addr), v = some (.ref r) ∧ Fr n0 L ∧ Keep h0 h []
set_option maxRecDepth 65536 in
set_option maxHeartbeats 40000000 in
theorem rm_vof (l : Launch) (Z : State) (aT : Array Value) (hw : ∀ d ∈ tables_1, d.before aT Z = true) (ws : List Jvm.Cond) (x0 : Int32) (wc : Addr) (h0 : Heap) (n0 : Nat) (Z0 : n0 ≤ h0.size) (hp0 : Sta Z h0 "java/lang/Integer$IntegerCache" "high" "I" (.int (127 : Int32))) (hp1 : Sta Z h0 "java/lang/Integer$IntegerCache" "cache" "[Ljava/lang/Integer;" (.ref wc)) (hp2 : Exa Z h0 wc "[Ljava/lang/Integer;") (hp3 : own_IC Z h0 wc) :
    MetFree l (⟨"java/lang/Integer", "valueOf", "(I)Ljava/lang/Integer;"⟩ : MethodName) (head1 (Jvm.Cond.code (⟨"java/lang/Integer", "valueOf", "(I)Ljava/lang/Integer;"⟩ : MethodName) jdk_33_method_22_code 1 (some (.object "java/lang/Integer")) :: ws) ({ frames := 3, cells := 1, slots := 1, locals := 38 } : Room)) (fun a U => a = #[(.int x0)] ∧ Z.Warmed39 U.vm ∧ U.heap = h0) (fun _ _ _ _ _ => True) (fun _ U o U' => ∃ v L, o = .returned v ∧ Q_vof Z x0 wc h0 n0 v U'.heap L ∧ FrameEnd U o U' L ({ frames := 3, cells := 1, slots := 1, locals := 38 } : Room).cells ({ frames := 3, cells := 1, slots := 1, locals := 38 } : Room).slots) := by
  refine MetFree.of_bodySF (plainFor_of_name pn1) hisR ?_
  intro p e s m args below meth c s₁ Bd hml0 hP hK
  obtain ⟨rfl, hZ, hh⟩ := hP
  have hx := Bd.exec
  have hby := Bd.bytes
  have hml : c.maxLocals = 1 := hml0
  have hown : s.vm.findClass "java/lang/Integer" = some m.cls := findClass_of_methodNamed Bd.named
  have hnm := (name_of_methodNamed Bd.named Bd.method).1
  have hlk := Bd.notSynchronized
  have hrt := Bd.returns
  have X0 : Stand p l e ({ frames := 3, cells := 1, slots := 1, locals := 38 } : Room) s m #[(.int x0)] below meth c s₁ [] 0 0 := Stand.of_body Bd
  have e0 : s₁.heap = h0 := by rw [← hh, Bd.state]; rfl
  have N0 := Fr.nil n0
  refine own_cast (P := own_End s (Q_vof Z x0 wc h0 n0) ({ frames := 3, cells := 1, slots := 1, locals := 38 } : Room).cells ({ frames := 3, cells := 1, slots := 1, locals := 38 } : Room).slots) (ef_vof m x0) ?_
  refine g_iloadN X0 hx hby d_vof_0 rfl (rfl : 0 + 1 = 1) ?_
  refine g_bipush X0 hx hby (-128 : Int32) d_vof_1 (by decide) (rfl : 1 + 2 = 3) ?_
  by_cases c5 : x0 < (-128 : Int32)
  · refine g_icT X0 hx hby d_vof_3 (tlt c5).1 (by decide) (pc' := 23) (by decide) ?_
    obtain ⟨T6, h6, X6, e6, E6, A6, D6, -, st6⟩ := newO X0 hx hZ hown (hw _ (List.mem_of_getElem? (i := 45) rfl)) (hw _ (List.mem_of_getElem? (i := 46) rfl)) (hw _ (List.mem_of_getElem? (i := 6) rfl)) e0 (g := (mkF m 23 #[.val (.int x0)] [])) rfl (hb hby d_vof_23) (by decide) (by decide)
    obtain ⟨b6, g6⟩ : ∃ z, z = h0.size := ⟨_, rfl⟩
    rw [← g6] at A6 D6 st6
    have ne7 : wc ≠ b6 := Nat.ne_of_lt (Nat.lt_of_lt_of_le (hp2).lt (Nat.le_of_eq g6.symm))
    have Z6 : n0 ≤ h6.size := Nat.le_trans Z0 E6.1
    have K6 : Keep h0 h6 [] := (Keep.refl h0 []).ext E6
    have ge6 : n0 ≤ b6 := Nat.le_trans Z0 (Nat.le_of_eq g6.symm)
    have sz6 : h0.size ≤ b6 := Nat.le_trans (Keep.refl h0 []).1 (Nat.le_of_eq g6.symm)
    have f8 : Fld Z h6 b6 "java/lang/Integer" "value" "I" (.int (0 : Int32)) := D6 (Or.inr (hw _ (List.mem_of_getElem? (i := 59) rfl))) (ty := .int) (by decide)
    refine own_go st6 ?_
    show own_Got p e below _ T6 (mkF m 26 #[.val (.int x0)] [(.ref b6)])
    refine g_dup X6 hx hby d_vof_26 rfl (rfl : 26 + 1 = 27) ?_
    refine g_iloadN X6 hx hby d_vof_27 rfl (rfl : 27 + 1 = 28) ?_
    have f10 : Exa Z h6 wc "[Ljava/lang/Integer;" := (Exa.ext E6 hp2)
    obtain ⟨_, _, ⟨T9, L9, k9, n9⟩, -, X9, ⟨Lc9, hQ9, l9, y9, z9⟩, st9⟩ := X6.specialBack hx (y := (⟨"java/lang/Integer", "<init>", "(I)V"⟩ : MethodName)) rfl hown (mvT hZ (hw _ (List.mem_of_getElem? (i := 47) rfl))) (mvT hZ (hw _ (List.mem_of_getElem? (i := 48) rfl))) (mvT hZ (hw _ (List.mem_of_getElem? (i := 50) rfl))) (by decide) (backOf (W := 1) (rm_igi l Z aT hw [] b6 x0 h6 n0 Z6 A6 f8 ge6) hZ (hw _ (List.mem_of_getElem? (i := 50) rfl)) (hw _ (List.mem_of_getElem? (i := 6) rfl)) (by decide) (by decide)) (g := (mkF m 28 #[.val (.int x0)] [(.int x0), (.ref b6), (.ref b6)])) rfl (by rw [hml]; rfl) (Steps.refl _) (a := b6) (argsL := [(.int x0)]) (rest := [(.ref b6)]) (lenOf pd1 rfl) rfl (by show 2 * 0 + _ ≤ _; exact Nat.le_of_eq rfl) (hb hby d_vof_28) (fun _ _ => ⟨rfl, e6, (by decide : 1 + 0 ≤ _), (by decide : 1 + 0 ≤ _)⟩)
    dsimp only [Pt.U, Pt.locs, Pt.cells, Pt.slots] at X9 l9 y9 z9 st9 hQ9
    subst l9 y9 z9
    obtain ⟨rfl, N9q, K9, q9_0⟩ := hQ9
    have N9 := Fr.app N0 N9q
    have Z9 : n0 ≤ T9.heap.size := Nat.le_trans Z6 K9.1
    have KC9 : Keep h0 T9.heap [] := K6.trans K9 (allS (Or.inr sz6) all0)
    refine own_tr st9 ?_
    show own_Got p e below _ T9 (mkF m 31 #[.val (.int x0)] [(.ref b6)])
    refine own_retR X9 hx hby hlk hrt rfl d_vof_31 (by decide) (by decide) rfl ?_
    show Q_vof Z x0 wc h0 n0 _ T9.heap _
    exact ⟨b6, rfl, N9, KC9⟩
  · refine g_icF X0 hx hby d_vof_3 (flt c5).1 (rfl : 3 + 3 = 6) ?_
    refine g_iloadN X0 hx hby d_vof_6 rfl (rfl : 6 + 1 = 7) ?_
    obtain ⟨T11, X11, e11, st11⟩ := getS2 X0 hx hZ hown (host := "") (Or.inl (hw _ (List.mem_of_getElem? (i := 8) rfl))) Via.refl e0 hp0 (g := (mkF m 7 #[.val (.int x0)] [(.int x0)])) rfl (hb hby d_vof_7)
    refine own_go st11 ?_
    show own_Got p e below _ T11 (mkF m 10 #[.val (.int x0)] [(.int (127 : Int32)), (.int x0)])
    by_cases c12 : (127 : Int32) < x0
    · refine g_icT X11 hx hby d_vof_10 (tlt c12).2.2.1 (by decide) (pc' := 23) (by decide) ?_
      obtain ⟨T13, h13, X13, e13, E13, A13, D13, -, st13⟩ := newO X11 hx hZ hown (hw _ (List.mem_of_getElem? (i := 45) rfl)) (hw _ (List.mem_of_getElem? (i := 46) rfl)) (hw _ (List.mem_of_getElem? (i := 6) rfl)) e11 (g := (mkF m 23 #[.val (.int x0)] [])) rfl (hb hby d_vof_23) (by decide) (by decide)
      obtain ⟨b13, g13⟩ : ∃ z, z = h0.size := ⟨_, rfl⟩
      rw [← g13] at A13 D13 st13
      have ne14 : wc ≠ b13 := Nat.ne_of_lt (Nat.lt_of_lt_of_le (hp2).lt (Nat.le_of_eq g13.symm))
      have Z13 : n0 ≤ h13.size := Nat.le_trans Z0 E13.1
      have K13 : Keep h0 h13 [] := (Keep.refl h0 []).ext E13
      have ge13 : n0 ≤ b13 := Nat.le_trans Z0 (Nat.le_of_eq g13.symm)
      have sz13 : h0.size ≤ b13 := Nat.le_trans (Keep.refl h0 []).1 (Nat.le_of_eq g13.symm)
      have f15 : Fld Z h13 b13 "java/lang/Integer" "value" "I" (.int (0 : Int32)) := D13 (Or.inr (hw _ (List.mem_of_getElem? (i := 59) rfl))) (ty := .int) (by decide)
      refine own_go st13 ?_
      show own_Got p e below _ T13 (mkF m 26 #[.val (.int x0)] [(.ref b13)])
      refine g_dup X13 hx hby d_vof_26 rfl (rfl : 26 + 1 = 27) ?_
      refine g_iloadN X13 hx hby d_vof_27 rfl (rfl : 27 + 1 = 28) ?_
      have f17 : Exa Z h13 wc "[Ljava/lang/Integer;" := (Exa.ext E13 hp2)
      obtain ⟨_, _, ⟨T16, L16, k16, n16⟩, -, X16, ⟨Lc16, hQ16, l16, y16, z16⟩, st16⟩ := X13.specialBack hx (y := (⟨"java/lang/Integer", "<init>", "(I)V"⟩ : MethodName)) rfl hown (mvT hZ (hw _ (List.mem_of_getElem? (i := 47) rfl))) (mvT hZ (hw _ (List.mem_of_getElem? (i := 48) rfl))) (mvT hZ (hw _ (List.mem_of_getElem? (i := 50) rfl))) (by decide) (backOf (W := 1) (rm_igi l Z aT hw [] b13 x0 h13 n0 Z13 A13 f15 ge13) hZ (hw _ (List.mem_of_getElem? (i := 50) rfl)) (hw _ (List.mem_of_getElem? (i := 6) rfl)) (by decide) (by decide)) (g := (mkF m 28 #[.val (.int x0)] [(.int x0), (.ref b13), (.ref b13)])) rfl (by rw [hml]; rfl) (Steps.refl _) (a := b13) (argsL := [(.int x0)]) (rest := [(.ref b13)]) (lenOf pd1 rfl) rfl (by show 2 * 0 + _ ≤ _; exact Nat.le_of_eq rfl) (hb hby d_vof_28) (fun _ _ => ⟨rfl, e13, (by decide : 1 + 0 ≤ _), (by decide : 1 + 0 ≤ _)⟩)
      dsimp only [Pt.U, Pt.locs, Pt.cells, Pt.slots] at X16 l16 y16 z16 st16 hQ16
      subst l16 y16 z16
      obtain ⟨rfl, N16q, K16, q16_0⟩ := hQ16
      have N16 := Fr.app N0 N16q
      have Z16 : n0 ≤ T16.heap.size := Nat.le_trans Z13 K16.1
      have KC16 : Keep h0 T16.heap [] := K13.trans K16 (allS (Or.inr sz13) all0)
      refine own_tr st16 ?_
      show own_Got p e below _ T16 (mkF m 31 #[.val (.int x0)] [(.ref b13)])
      refine own_retR X16 hx hby hlk hrt rfl d_vof_31 (by decide) (by decide) rfl ?_
      show Q_vof Z x0 wc h0 n0 _ T16.heap _
      exact ⟨b13, rfl, N16, KC16⟩
    · refine g_icF X11 hx hby d_vof_10 (flt c12).2.2.1 (rfl : 10 + 3 = 13) ?_
      obtain ⟨T18, X18, e18, st18⟩ := getS2 X11 hx hZ hown (host := "") (Or.inl (hw _ (List.mem_of_getElem? (i := 10) rfl))) Via.refl e11 hp1 (g := (mkF m 13 #[.val (.int x0)] [])) rfl (hb hby d_vof_13)
      refine own_go st18 ?_
      show own_Got p e below _ T18 (mkF m 16 #[.val (.int x0)] [(.ref wc)])
      refine g_iloadN X18 hx hby d_vof_16 rfl (rfl : 16 + 1 = 17) ?_
      refine g_sipush X18 hx hby (128 : Int32) d_vof_17 (by decide) (rfl : 17 + 3 = 20) ?_
      refine g_iadd X18 hx hby d_vof_20 (rfl : 20 + 1 = 21) ?_
      refine g_ic X18 hx hby hZ e18 hp3 (own_ic_idx c5 c12).1 (own_ic_idx c5 c12).2 d_vof_21 (rfl : 21 + 1 = 22) ?_
      intro r19
      refine own_retR X18 hx hby hlk hrt rfl d_vof_22 (by decide) (by decide) rfl ?_
      show Q_vof Z x0 wc h0 n0 _ T18.heap _
      rw [e18]
      exact ⟨r19, rfl, N0, (Keep.refl h0 [])⟩
theorem d_ini_0 : decode prog_4_method_1_code 0 = .ok (.aload_n 0, 1) := by decide +kernel
theorem d_ini_1 : decode prog_4_method_1_code 1 = .ok (.invokespecial 3, 3) := by decide +kernel
theorem d_ini_4 : decode prog_4_method_1_code 4 = .ok (.aload_n 0, 1) := by decide +kernel
theorem d_ini_5 : decode prog_4_method_1_code 5 = .ok (.aload_n 1, 1) := by decide +kernel
theorem d_ini_6 : decode prog_4_method_1_code 6 = .ok (.putfield 9, 3) := by decide +kernel
theorem d_ini_9 : decode prog_4_method_1_code 9 = .ok (.aload_n 0, 1) := by decide +kernel
theorem d_ini_10 : decode prog_4_method_1_code 10 = .ok (.aload_n 2, 1) := by decide +kernel
theorem d_ini_11 : decode prog_4_method_1_code 11 = .ok (.putfield 15, 3) := by decide +kernel
theorem d_ini_14 : decode prog_4_method_1_code 14 = .ok (.aload_n 0, 1) := by decide +kernel
theorem d_ini_15 : decode prog_4_method_1_code 15 = .ok (.ldc 18, 2) := by decide +kernel
theorem d_ini_17 : decode prog_4_method_1_code 17 = .ok (.putfield 19, 3) := by decide +kernel
theorem d_ini_20 : decode prog_4_method_1_code 20 = .ok (.return_, 1) := by decide +kernel
theorem pn2 : plainName "com/example/leanbough/leanbough/LlrbTreeMap$Node" = true := by first | (simp [plainName, overriddenIn]; done) | decide +kernel
theorem ef_ini (m : MethodId) (a0 : Addr) (a1 : Addr) : entryFrame m #[(.ref a0), (.ref a1), .null] 3 = mkF m 0 #[.val (.ref a0), .val (.ref a1), .val .null] [] := by first | (simp [entryFrame, mkF, argsToLocals, Value.category]; done) | rfl
def Q_ini (Z : State) (a0 : Addr) (a1 : Addr) (h0 : Heap) (n0 : Nat) (v : Option Value) (h : Heap) (L : List Loc) : Prop := v = none ∧ Fr n0 L ∧ Keep h0 h [a0] ∧ Exa Z h a0 "com/example/leanbough/leanbough/LlrbTreeMap$Node" ∧ Fld Z h a0 "com/example/leanbough/leanbough/LlrbTreeMap$Node" "colourAndLeftCount" "I" (.int (-2147483648 : Int32))
set_option maxRecDepth 65536 in
set_option maxHeartbeats 40000000 in
theorem rm_ini (l : Launch) (Z : State) (aT : Array Value) (hw : ∀ d ∈ tables_1, d.before aT Z = true) (ws : List Jvm.Cond) (a0 : Addr) (a1 : Addr) (h0 : Heap) (n0 : Nat) (Z0 : n0 ≤ h0.size) (hp0 : Exa Z h0 a0 "com/example/leanbough/leanbough/LlrbTreeMap$Node") (hp1 : Fld Z h0 a0 "com/example/leanbough/leanbough/LlrbTreeMap$Node" "key" "Ljava/lang/Object;" .null) (hp2 : Fld Z h0 a0 "com/example/leanbough/leanbough/LlrbTreeMap$Node" "value" "Ljava/lang/Object;" .null) (hp3 : Fld Z h0 a0 "com/example/leanbough/leanbough/LlrbTreeMap$Node" "colourAndLeftCount" "I" (.int (0 : Int32))) (hp4 : n0 ≤ a0) :
    MetFree l (⟨"com/example/leanbough/leanbough/LlrbTreeMap$Node", "<init>", "(Ljava/lang/Object;Ljava/lang/Object;)V"⟩ : MethodName) (head1 (Jvm.Cond.code (⟨"com/example/leanbough/leanbough/LlrbTreeMap$Node", "<init>", "(Ljava/lang/Object;Ljava/lang/Object;)V"⟩ : MethodName) prog_4_method_1_code 3 none :: ws) ({ frames := 1, cells := 0, slots := 0, locals := 12 } : Room)) (fun a U => a = #[(.ref a0), (.ref a1), .null] ∧ Z.Warmed39 U.vm ∧ U.heap = h0) (fun _ _ _ _ _ => True) (fun _ U o U' => ∃ v L, o = .returned v ∧ Q_ini Z a0 a1 h0 n0 v U'.heap L ∧ FrameEnd U o U' L ({ frames := 1, cells := 0, slots := 0, locals := 12 } : Room).cells ({ frames := 1, cells := 0, slots := 0, locals := 12 } : Room).slots) := by
  refine MetFree.of_bodySF (plainFor_of_name pn2) hisR ?_
  intro p e s m args below meth c s₁ Bd hml0 hP hK
  obtain ⟨rfl, hZ, hh⟩ := hP
  have hx := Bd.exec
  have hby := Bd.bytes
  have hml : c.maxLocals = 3 := hml0
  have hown : s.vm.findClass "com/example/leanbough/leanbough/LlrbTreeMap$Node" = some m.cls := findClass_of_methodNamed Bd.named
  have hnm := (name_of_methodNamed Bd.named Bd.method).1
  have hlk := Bd.notSynchronized
  have hrt := Bd.returns
  have X0 : Stand p l e ({ frames := 1, cells := 0, slots := 0, locals := 12 } : Room) s m #[(.ref a0), (.ref a1), .null] below meth c s₁ [] 0 0 := Stand.of_body Bd
  have e0 : s₁.heap = h0 := by rw [← hh, Bd.state]; rfl
  have N0 := Fr.nil n0
  refine own_cast (P := own_End s (Q_ini Z a0 a1 h0 n0) ({ frames := 1, cells := 0, slots := 0, locals := 12 } : Room).cells ({ frames := 1, cells := 0, slots := 0, locals := 12 } : Room).slots) (ef_ini m a0 a1) ?_
  refine g_aloadN X0 hx hby d_ini_0 rfl rfl (rfl : 0 + 1 = 1) ?_
  obtain ⟨T20, X20, e20, st20⟩ := initO X0 hx hZ hown (hw _ (List.mem_of_getElem? (i := 14) rfl)) (hw _ (List.mem_of_getElem? (i := 15) rfl)) (hw _ (List.mem_of_getElem? (i := 16) rfl)) e0 (g := (mkF m 1 #[.val (.ref a0), .val (.ref a1), .val .null] [(.ref a0)])) rfl (by rw [hml]; rfl) rfl (hb hby d_ini_1) (by decide) (W := 0) (by show 2 * 0 + _ ≤ _; exact Nat.le_of_eq rfl) (by decide)
  refine own_go st20 ?_
  show own_Got p e below _ T20 (mkF m 4 #[.val (.ref a0), .val (.ref a1), .val .null] [])
  refine g_aloadN X20 hx hby d_ini_4 rfl rfl (rfl : 4 + 1 = 5) ?_
  refine g_aloadN X20 hx hby d_ini_5 rfl rfl (rfl : 5 + 1 = 6) ?_
  obtain ⟨T21, h21, X21, e21, W21, st21⟩ := putF X20 hx hZ hown (host := "") (Or.inl (hw _ (List.mem_of_getElem? (i := 17) rfl))) Via.refl e20 hp1 hp0 (Or.inr ⟨(hw _ (List.mem_of_getElem? (i := 18) rfl)), rfl, hnm⟩) (hw _ (List.mem_of_getElem? (i := 2) rfl)) (ty := (.object "java/lang/Object")) (by decide) rfl rfl (g := (mkF m 6 #[.val (.ref a0), .val (.ref a1), .val .null] [(.ref a1), (.ref a0)])) rfl rfl (hb hby d_ini_6)
  have Z21 : n0 ≤ h21.size := Nat.le_trans Z0 (Keep.of_wr W21).1
  have N21 := Fr.snoc X21 N0 hp4
  have K21 : Keep h0 h21 [a0] := (Keep.refl h0 [a0]).wr W21 (Or.inl (List.mem_of_getElem? (i := 0) rfl))
  have f21 : Fld Z h21 a0 "com/example/leanbough/leanbough/LlrbTreeMap$Node" "key" "Ljava/lang/Object;" (.ref a1) := Fld.same W21 hp1
  refine own_go st21 ?_
  show own_Got p e below _ T21 (mkF m 9 #[.val (.ref a0), .val (.ref a1), .val .null] [])
  refine g_aloadN X21 hx hby d_ini_9 rfl rfl (rfl : 9 + 1 = 10) ?_
  refine g_aloadN X21 hx hby d_ini_10 rfl rfl (rfl : 10 + 1 = 11) ?_
  have f22 : Fld Z h21 a0 "com/example/leanbough/leanbough/LlrbTreeMap$Node" "value" "Ljava/lang/Object;" .null := (Fld.other W21 hp2 (Or.inr (slot_ne (Or.inl (hw _ (List.mem_of_getElem? (i := 20) rfl))) (Or.inr (hw _ (List.mem_of_getElem? (i := 18) rfl))) (by decide) (t := (.object "java/lang/Object")) (t' := (.object "java/lang/Object")) (by decide) (by decide))))
  have f23 : Exa Z h21 a0 "com/example/leanbough/leanbough/LlrbTreeMap$Node" := (Exa.wr W21 hp0)
  obtain ⟨T24, h24, X24, e24, W24, st24⟩ := putF X21 hx hZ hown (host := "") (Or.inl (hw _ (List.mem_of_getElem? (i := 19) rfl))) Via.refl e21 f22 f23 (Or.inl (hw _ (List.mem_of_getElem? (i := 20) rfl))) (hw _ (List.mem_of_getElem? (i := 2) rfl)) (ty := (.object "java/lang/Object")) (by decide) rfl rfl (g := (mkF m 11 #[.val (.ref a0), .val (.ref a1), .val .null] [.null, (.ref a0)])) rfl rfl (hb hby d_ini_11)
  have Z24 : n0 ≤ h24.size := Nat.le_trans Z21 (Keep.of_wr W24).1
  have N24 := Fr.snoc X24 N21 hp4
  have K24 : Keep h0 h24 [a0] := K21.wr W24 (Or.inl (List.mem_of_getElem? (i := 0) rfl))
  have f24 : Fld Z h24 a0 "com/example/leanbough/leanbough/LlrbTreeMap$Node" "value" "Ljava/lang/Object;" .null := Fld.same W24 f22
  refine own_go st24 ?_
  show own_Got p e below _ T24 (mkF m 14 #[.val (.ref a0), .val (.ref a1), .val .null] [])
  refine g_aloadN X24 hx hby d_ini_14 rfl rfl (rfl : 14 + 1 = 15) ?_
  refine g_ldcI X24 hx hby hZ hown (hw _ (List.mem_of_getElem? (i := 21) rfl)) d_ini_15 (rfl : 15 + 2 = 17) ?_
  have f25 : Fld Z h24 a0 "com/example/leanbough/leanbough/LlrbTreeMap$Node" "colourAndLeftCount" "I" (.int (0 : Int32)) := (Fld.other W24 (Fld.other W21 hp3 (Or.inr (slot_ne (Or.inl (hw _ (List.mem_of_getElem? (i := 23) rfl))) (Or.inr (hw _ (List.mem_of_getElem? (i := 18) rfl))) (by decide) (t := .int) (t' := (.object "java/lang/Object")) (by decide) (by decide)))) (Or.inr (slot_ne (Or.inl (hw _ (List.mem_of_getElem? (i := 23) rfl))) (Or.inl (hw _ (List.mem_of_getElem? (i := 20) rfl))) (by decide) (t := .int) (t' := (.object "java/lang/Object")) (by decide) (by decide))))
  have f26 : Exa Z h24 a0 "com/example/leanbough/leanbough/LlrbTreeMap$Node" := (Exa.wr W24 f23)
  obtain ⟨T27, h27, X27, e27, W27, st27⟩ := putF X24 hx hZ hown (host := "") (Or.inl (hw _ (List.mem_of_getElem? (i := 22) rfl))) Via.refl e24 f25 f26 (Or.inl (hw _ (List.mem_of_getElem? (i := 23) rfl))) (hw _ (List.mem_of_getElem? (i := 2) rfl)) (ty := .int) (by decide) rfl rfl (g := (mkF m 17 #[.val (.ref a0), .val (.ref a1), .val .null] [(.int (-2147483648 : Int32)), (.ref a0)])) rfl rfl (hb hby d_ini_17)
  have Z27 : n0 ≤ h27.size := Nat.le_trans Z24 (Keep.of_wr W27).1
  have N27 := Fr.snoc X27 N24 hp4
  have K27 : Keep h0 h27 [a0] := K24.wr W27 (Or.inl (List.mem_of_getElem? (i := 0) rfl))
  have f27 : Fld Z h27 a0 "com/example/leanbough/leanbough/LlrbTreeMap$Node" "colourAndLeftCount" "I" (.int (-2147483648 : Int32)) := Fld.same W27 f25
  refine own_go st27 ?_
  show own_Got p e below _ T27 (mkF m 20 #[.val (.ref a0), .val (.ref a1), .val .null] [])
  have f28 : Exa Z h27 a0 "com/example/leanbough/leanbough/LlrbTreeMap$Node" := (Exa.wr W27 f26)
  refine own_retV X27 hx hby hlk hrt d_ini_20 (by decide) (by decide) ?_
  show Q_ini Z a0 a1 h0 n0 _ T27.heap _
  rw [e27]
  exact ⟨rfl, N27, K27, f28, f27⟩
def S_red (w x1 : Int32) : Int32 := if x1 = (0 : Int32) then (w &&& (2147483647 : Int32)) else (w ||| (-2147483648 : Int32))
theorem d_srd_0 : decode prog_4_method_3_code 0 = .ok (.aload_n 0, 1) := by decide +kernel
theorem d_srd_1 : decode prog_4_method_3_code 1 = .ok (.iload_n 1, 1) := by decide +kernel
theorem d_srd_2 : decode prog_4_method_3_code 2 = .ok (.ifCond .eq 13, 3) := by decide +kernel
theorem d_srd_5 : decode prog_4_method_3_code 5 = .ok (.aload_n 0, 1) := by decide +kernel
theorem d_srd_6 : decode prog_4_method_3_code 6 = .ok (.getfield 19, 3) := by decide +kernel
theorem d_srd_9 : decode prog_4_method_3_code 9 = .ok (.ldc 18, 2) := by decide +kernel
theorem d_srd_11 : decode prog_4_method_3_code 11 = .ok (.ior, 1) := by decide +kernel
theorem d_srd_12 : decode prog_4_method_3_code 12 = .ok (.goto 10, 3) := by decide +kernel
theorem d_srd_15 : decode prog_4_method_3_code 15 = .ok (.aload_n 0, 1) := by decide +kernel
theorem d_srd_16 : decode prog_4_method_3_code 16 = .ok (.getfield 19, 3) := by decide +kernel
theorem d_srd_19 : decode prog_4_method_3_code 19 = .ok (.ldc 23, 2) := by decide +kernel
theorem d_srd_21 : decode prog_4_method_3_code 21 = .ok (.iand, 1) := by decide +kernel
theorem d_srd_22 : decode prog_4_method_3_code 22 = .ok (.putfield 19, 3) := by decide +kernel
theorem d_srd_25 : decode prog_4_method_3_code 25 = .ok (.return_, 1) := by decide +kernel
theorem ef_srd (m : MethodId) (a0 : Addr) (x1 : Int32) : entryFrame m #[(.ref a0), (.int x1)] 2 = mkF m 0 #[.val (.ref a0), .val (.int x1)] [] := by first | (simp [entryFrame, mkF, argsToLocals, Value.category]; done) | rfl
def Q_srd (Z : State) (a0 : Addr) (x1 : Int32) (w : Int32) (h0 : Heap) (n0 : Nat) (v : Option Value) (h : Heap) (L : List Loc) : Prop := v = none ∧ Fr n0 L ∧ Keep h0 h [a0] ∧ Exa Z h a0 "com/example/leanbough/leanbough/LlrbTreeMap$Node" ∧ Fld Z h a0 "com/example/leanbough/leanbough/LlrbTreeMap$Node" "colourAndLeftCount" "I" (.int (S_red w x1))
set_option maxRecDepth 65536 in
set_option maxHeartbeats 40000000 in
theorem rm_srd (l : Launch) (Z : State) (aT : Array Value) (hw : ∀ d ∈ tables_1, d.before aT Z = true) (ws : List Jvm.Cond) (a0 : Addr) (x1 : Int32) (w : Int32) (h0 : Heap) (n0 : Nat) (Z0 : n0 ≤ h0.size) (hp0 : Exa Z h0 a0 "com/example/leanbough/leanbough/LlrbTreeMap$Node") (hp1 : Fld Z h0 a0 "com/example/leanbough/leanbough/LlrbTreeMap$Node" "colourAndLeftCount" "I" (.int w)) (hp2 : n0 ≤ a0) :
    MetFree l (⟨"com/example/leanbough/leanbough/LlrbTreeMap$Node", "setRed", "(Z)V"⟩ : MethodName) (head1 (Jvm.Cond.code (⟨"com/example/leanbough/leanbough/LlrbTreeMap$Node", "setRed", "(Z)V"⟩ : MethodName) prog_4_method_3_code 2 none :: ws) ({ frames := 0, cells := 0, slots := 0, locals := 0 } : Room)) (fun a U => a = #[(.ref a0), (.int x1)] ∧ Z.Warmed39 U.vm ∧ U.heap = h0) (fun _ _ _ _ _ => True) (fun _ U o U' => ∃ v L, o = .returned v ∧ Q_srd Z a0 x1 w h0 n0 v U'.heap L ∧ FrameEnd U o U' L ({ frames := 0, cells := 0, slots := 0, locals := 0 } : Room).cells ({ frames := 0, cells := 0, slots := 0, locals := 0 } : Room).slots) := by
  refine MetFree.of_bodySF (plainFor_of_name pn2) hisR ?_
  intro p e s m args below meth c s₁ Bd hml0 hP hK
  obtain ⟨rfl, hZ, hh⟩ := hP
  have hx := Bd.exec
  have hby := Bd.bytes
  have hml : c.maxLocals = 2 := hml0
  have hown : s.vm.findClass "com/example/leanbough/leanbough/LlrbTreeMap$Node" = some m.cls := findClass_of_methodNamed Bd.named
  have hnm := (name_of_methodNamed Bd.named Bd.method).1
  have hlk := Bd.notSynchronized
  have hrt := Bd.returns
  have X0 : Stand p l e ({ frames := 0, cells := 0, slots := 0, locals := 0 } : Room) s m #[(.ref a0), (.int x1)] below meth c s₁ [] 0 0 := Stand.of_body Bd
  have e0 : s₁.heap = h0 := by rw [← hh, Bd.state]; rfl
  have N0 := Fr.nil n0
  refine own_cast (P := own_End s (Q_srd Z a0 x1 w h0 n0) ({ frames := 0, cells := 0, slots := 0, locals := 0 } : Room).cells ({ frames := 0, cells := 0, slots := 0, locals := 0 } : Room).slots) (ef_srd m a0 x1) ?_
  refine g_aloadN X0 hx hby d_srd_0 rfl rfl (rfl : 0 + 1 = 1) ?_
  refine g_iloadN X0 hx hby d_srd_1 rfl (rfl : 1 + 1 = 2) ?_
  by_cases c29 : x1 = (0 : Int32)
  · refine g_ifT X0 hx hby d_srd_2 ((if0 _ _).trans (teq c29).1) (by decide) (pc' := 15) (by decide) ?_
    refine g_aloadN X0 hx hby d_srd_15 rfl rfl (rfl : 15 + 1 = 16) ?_
    obtain ⟨T30, X30, e30, st30⟩ := getF X0 hx hZ hown (host := "") (Or.inl (hw _ (List.mem_of_getElem? (i := 22) rfl))) Via.refl e0 hp1 (g := (mkF m 16 #[.val (.ref a0), .val (.int x1)] [(.ref a0), (.ref a0)])) rfl rfl (hb hby d_srd_16)
    refine own_go st30 ?_
    show own_Got p e below _ T30 (mkF m 19 #[.val (.ref a0), .val (.int x1)] [(.int w), (.ref a0)])
    refine g_ldcI X30 hx hby hZ hown (hw _ (List.mem_of_getElem? (i := 44) rfl)) d_srd_19 (rfl : 19 + 2 = 21) ?_
    refine g_iand X30 hx hby d_srd_21 (rfl : 21 + 1 = 22) ?_
    obtain ⟨T31, h31, X31, e31, W31, st31⟩ := putF X30 hx hZ hown (host := "") (Or.inl (hw _ (List.mem_of_getElem? (i := 22) rfl))) Via.refl e30 hp1 hp0 (Or.inl (hw _ (List.mem_of_getElem? (i := 23) rfl))) (hw _ (List.mem_of_getElem? (i := 2) rfl)) (ty := .int) (by decide) rfl rfl (g := (mkF m 22 #[.val (.ref a0), .val (.int x1)] [(.int (w &&& (2147483647 : Int32))), (.ref a0)])) rfl rfl (hb hby d_srd_22)
    have Z31 : n0 ≤ h31.size := Nat.le_trans Z0 (Keep.of_wr W31).1
    have N31 := Fr.snoc X31 N0 hp2
    have K31 : Keep h0 h31 [a0] := (Keep.refl h0 [a0]).wr W31 (Or.inl (List.mem_of_getElem? (i := 0) rfl))
    have f31 : Fld Z h31 a0 "com/example/leanbough/leanbough/LlrbTreeMap$Node" "colourAndLeftCount" "I" (.int (w &&& (2147483647 : Int32))) := Fld.same W31 hp1
    refine own_go st31 ?_
    show own_Got p e below _ T31 (mkF m 25 #[.val (.ref a0), .val (.int x1)] [])
    have f32 : Exa Z h31 a0 "com/example/leanbough/leanbough/LlrbTreeMap$Node" := (Exa.wr W31 hp0)
    refine own_retV X31 hx hby hlk hrt d_srd_25 (by decide) (by decide) ?_
    show Q_srd Z a0 x1 w h0 n0 _ T31.heap _
    rw [e31]
    exact ⟨rfl, N31, K31, f32, (by rw [S_red, if_pos c29]; exact f31)⟩
  · refine g_ifF X0 hx hby d_srd_2 ((if0 _ _).trans (feq c29).1) (rfl : 2 + 3 = 5) ?_
    refine g_aloadN X0 hx hby d_srd_5 rfl rfl (rfl : 5 + 1 = 6) ?_
    obtain ⟨T33, X33, e33, st33⟩ := getF X0 hx hZ hown (host := "") (Or.inl (hw _ (List.mem_of_getElem? (i := 22) rfl))) Via.refl e0 hp1 (g := (mkF m 6 #[.val (.ref a0), .val (.int x1)] [(.ref a0), (.ref a0)])) rfl rfl (hb hby d_srd_6)
    refine own_go st33 ?_
    show own_Got p e below _ T33 (mkF m 9 #[.val (.ref a0), .val (.int x1)] [(.int w), (.ref a0)])
    refine g_ldcI X33 hx hby hZ hown (hw _ (List.mem_of_getElem? (i := 21) rfl)) d_srd_9 (rfl : 9 + 2 = 11) ?_
    refine g_ior X33 hx hby d_srd_11 (rfl : 11 + 1 = 12) ?_
    refine g_goto X33 hx hby d_srd_12 (by decide) (pc' := 22) (by decide) ?_
    obtain ⟨T34, h34, X34, e34, W34, st34⟩ := putF X33 hx hZ hown (host := "") (Or.inl (hw _ (List.mem_of_getElem? (i := 22) rfl))) Via.refl e33 hp1 hp0 (Or.inl (hw _ (List.mem_of_getElem? (i := 23) rfl))) (hw _ (List.mem_of_getElem? (i := 2) rfl)) (ty := .int) (by decide) rfl rfl (g := (mkF m 22 #[.val (.ref a0), .val (.int x1)] [(.int (w ||| (-2147483648 : Int32))), (.ref a0)])) rfl rfl (hb hby d_srd_22)
    have Z34 : n0 ≤ h34.size := Nat.le_trans Z0 (Keep.of_wr W34).1
    have N34 := Fr.snoc X34 N0 hp2
    have K34 : Keep h0 h34 [a0] := (Keep.refl h0 [a0]).wr W34 (Or.inl (List.mem_of_getElem? (i := 0) rfl))
    have f34 : Fld Z h34 a0 "com/example/leanbough/leanbough/LlrbTreeMap$Node" "colourAndLeftCount" "I" (.int (w ||| (-2147483648 : Int32))) := Fld.same W34 hp1
    refine own_go st34 ?_
    show own_Got p e below _ T34 (mkF m 25 #[.val (.ref a0), .val (.int x1)] [])
    have f35 : Exa Z h34 a0 "com/example/leanbough/leanbough/LlrbTreeMap$Node" := (Exa.wr W34 hp0)
    refine own_retV X34 hx hby hlk hrt d_srd_25 (by decide) (by decide) ?_
    show Q_srd Z a0 x1 w h0 n0 _ T34.heap _
    rw [e34]
    exact ⟨rfl, N34, K34, f35, (by rw [S_red, if_neg c29]; exact f34)⟩
theorem d_lct_0 : decode prog_4_method_4_code 0 = .ok (.aload_n 0, 1) := by decide +kernel
theorem d_lct_1 : decode prog_4_method_4_code 1 = .ok (.getfield 19, 3) := by decide +kernel
theorem d_lct_4 : decode prog_4_method_4_code 4 = .ok (.ldc 23, 2) := by decide +kernel
theorem d_lct_6 : decode prog_4_method_4_code 6 = .ok (.iand, 1) := by decide +kernel
theorem d_lct_7 : decode prog_4_method_4_code 7 = .ok (.ireturn, 1) := by decide +kernel
theorem ef_lct (m : MethodId) (a0 : Addr) : entryFrame m #[(.ref a0)] 1 = mkF m 0 #[.val (.ref a0)] [] := by first | (simp [entryFrame, mkF, argsToLocals, Value.category]; done) | rfl
def F_lct (w : Int32) : Int32 := (w &&& (2147483647 : Int32))
def Q_lct (Z : State) (a0 : Addr) (w : Int32) (h0 : Heap) (n0 : Nat) (v : Option Value) (h : Heap) (L : List Loc) : Prop := v = some (.int (F_lct w)) ∧ Fr n0 L ∧ h = h0
set_option maxRecDepth 65536 in
set_option maxHeartbeats 40000000 in
theorem rm_lct (l : Launch) (Z : State) (aT : Array Value) (hw : ∀ d ∈ tables_1, d.before aT Z = true) (ws : List Jvm.Cond) (a0 : Addr) (w : Int32) (h0 : Heap) (n0 : Nat) (Z0 : n0 ≤ h0.size) (hp0 : Fld Z h0 a0 "com/example/leanbough/leanbough/LlrbTreeMap$Node" "colourAndLeftCount" "I" (.int w)) :
    MetFree l (⟨"com/example/leanbough/leanbough/LlrbTreeMap$Node", "leftCount", "()I"⟩ : MethodName) (head1 (Jvm.Cond.code (⟨"com/example/leanbough/leanbough/LlrbTreeMap$Node", "leftCount", "()I"⟩ : MethodName) prog_4_method_4_code 1 (some .int) :: ws) ({ frames := 0, cells := 0, slots := 0, locals := 0 } : Room)) (fun a U => a = #[(.ref a0)] ∧ Z.Warmed39 U.vm ∧ U.heap = h0) (fun _ _ _ _ _ => True) (fun _ U o U' => ∃ v L, o = .returned v ∧ Q_lct Z a0 w h0 n0 v U'.heap L ∧ FrameEnd U o U' L ({ frames := 0, cells := 0, slots := 0, locals := 0 } : Room).cells ({ frames := 0, cells := 0, slots := 0, locals := 0 } : Room).slots) := by
  refine MetFree.of_bodySF (plainFor_of_name pn2) hisR ?_
  intro p e s m args below meth c s₁ Bd hml0 hP hK
  obtain ⟨rfl, hZ, hh⟩ := hP
  have hx := Bd.exec
  have hby := Bd.bytes
  have hml : c.maxLocals = 1 := hml0
  have hown : s.vm.findClass "com/example/leanbough/leanbough/LlrbTreeMap$Node" = some m.cls := findClass_of_methodNamed Bd.named
  have hnm := (name_of_methodNamed Bd.named Bd.method).1
  have hlk := Bd.notSynchronized
  have hrt := Bd.returns
  have X0 : Stand p l e ({ frames := 0, cells := 0, slots := 0, locals := 0 } : Room) s m #[(.ref a0)] below meth c s₁ [] 0 0 := Stand.of_body Bd
  have e0 : s₁.heap = h0 := by rw [← hh, Bd.state]; rfl
  have N0 := Fr.nil n0
  refine own_cast (P := own_End s (Q_lct Z a0 w h0 n0) ({ frames := 0, cells := 0, slots := 0, locals := 0 } : Room).cells ({ frames := 0, cells := 0, slots := 0, locals := 0 } : Room).slots) (ef_lct m a0) ?_
  refine g_aloadN X0 hx hby d_lct_0 rfl rfl (rfl : 0 + 1 = 1) ?_
  obtain ⟨T36, X36, e36, st36⟩ := getF X0 hx hZ hown (host := "") (Or.inl (hw _ (List.mem_of_getElem? (i := 22) rfl))) Via.refl e0 hp0 (g := (mkF m 1 #[.val (.ref a0)] [(.ref a0)])) rfl rfl (hb hby d_lct_1)
  refine own_go st36 ?_
  show own_Got p e below _ T36 (mkF m 4 #[.val (.ref a0)] [(.int w)])
  refine g_ldcI X36 hx hby hZ hown (hw _ (List.mem_of_getElem? (i := 44) rfl)) d_lct_4 (rfl : 4 + 2 = 6) ?_
  refine g_iand X36 hx hby d_lct_6 (rfl : 6 + 1 = 7) ?_
  refine own_retI X36 hx hby hlk hrt d_lct_7 (by decide) (by decide) ?_
  show Q_lct Z a0 w h0 n0 _ T36.heap _
  exact ⟨rfl, N0, e36⟩
theorem d_red_0 : decode prog_4_method_2_code 0 = .ok (.aload_n 0, 1) := by decide +kernel
theorem d_red_1 : decode prog_4_method_2_code 1 = .ok (.getfield 19, 3) := by decide +kernel
theorem d_red_4 : decode prog_4_method_2_code 4 = .ok (.ifCond .ge 7, 3) := by decide +kernel
theorem d_red_7 : decode prog_4_method_2_code 7 = .ok (.iconst 1, 1) := by decide +kernel
theorem d_red_8 : decode prog_4_method_2_code 8 = .ok (.goto 4, 3) := by decide +kernel
theorem d_red_11 : decode prog_4_method_2_code 11 = .ok (.iconst 0, 1) := by decide +kernel
theorem d_red_12 : decode prog_4_method_2_code 12 = .ok (.ireturn, 1) := by decide +kernel
theorem ef_red (m : MethodId) (a0 : Addr) : entryFrame m #[(.ref a0)] 1 = mkF m 0 #[.val (.ref a0)] [] := by first | (simp [entryFrame, mkF, argsToLocals, Value.category]; done) | rfl
def F_red (w : Int32) : Int32 := if w < (0 : Int32) then ((1 : Int32)) else ((0 : Int32))
def Q_red (Z : State) (a0 : Addr) (w : Int32) (h0 : Heap) (n0 : Nat) (v : Option Value) (h : Heap) (L : List Loc) : Prop := v = some (.int (F_red w)) ∧ Fr n0 L ∧ h = h0
set_option maxRecDepth 65536 in
set_option maxHeartbeats 40000000 in
theorem rm_red (l : Launch) (Z : State) (aT : Array Value) (hw : ∀ d ∈ tables_1, d.before aT Z = true) (ws : List Jvm.Cond) (a0 : Addr) (w : Int32) (h0 : Heap) (n0 : Nat) (Z0 : n0 ≤ h0.size) (hp0 : Fld Z h0 a0 "com/example/leanbough/leanbough/LlrbTreeMap$Node" "colourAndLeftCount" "I" (.int w)) :
    MetFree l (⟨"com/example/leanbough/leanbough/LlrbTreeMap$Node", "red", "()Z"⟩ : MethodName) (head1 (Jvm.Cond.code (⟨"com/example/leanbough/leanbough/LlrbTreeMap$Node", "red", "()Z"⟩ : MethodName) prog_4_method_2_code 1 (some .boolean) :: ws) ({ frames := 0, cells := 0, slots := 0, locals := 0 } : Room)) (fun a U => a = #[(.ref a0)] ∧ Z.Warmed39 U.vm ∧ U.heap = h0) (fun _ _ _ _ _ => True) (fun _ U o U' => ∃ v L, o = .returned v ∧ Q_red Z a0 w h0 n0 v U'.heap L ∧ FrameEnd U o U' L ({ frames := 0, cells := 0, slots := 0, locals := 0 } : Room).cells ({ frames := 0, cells := 0, slots := 0, locals := 0 } : Room).slots) := by
  refine MetFree.of_bodySF (plainFor_of_name pn2) hisR ?_
  intro p e s m args below meth c s₁ Bd hml0 hP hK
  obtain ⟨rfl, hZ, hh⟩ := hP
  have hx := Bd.exec
  have hby := Bd.bytes
  have hml : c.maxLocals = 1 := hml0
  have hown : s.vm.findClass "com/example/leanbough/leanbough/LlrbTreeMap$Node" = some m.cls := findClass_of_methodNamed Bd.named
  have hnm := (name_of_methodNamed Bd.named Bd.method).1
  have hlk := Bd.notSynchronized
  have hrt := Bd.returns
  have X0 : Stand p l e ({ frames := 0, cells := 0, slots := 0, locals := 0 } : Room) s m #[(.ref a0)] below meth c s₁ [] 0 0 := Stand.of_body Bd
  have e0 : s₁.heap = h0 := by rw [← hh, Bd.state]; rfl
  have N0 := Fr.nil n0
  refine own_cast (P := own_End s (Q_red Z a0 w h0 n0) ({ frames := 0, cells := 0, slots := 0, locals := 0 } : Room).cells ({ frames := 0, cells := 0, slots := 0, locals := 0 } : Room).slots) (ef_red m a0) ?_
  refine g_aloadN X0 hx hby d_red_0 rfl rfl (rfl : 0 + 1 = 1) ?_
  obtain ⟨T37, X37, e37, st37⟩ := getF X0 hx hZ hown (host := "") (Or.inl (hw _ (List.mem_of_getElem? (i := 22) rfl))) Via.refl e0 hp0 (g := (mkF m 1 #[.val (.ref a0)] [(.ref a0)])) rfl rfl (hb hby d_red_1)
  refine own_go st37 ?_
  show own_Got p e below _ T37 (mkF m 4 #[.val (.ref a0)] [(.int w)])
  by_cases c38 : w < (0 : Int32)
  · refine g_ifF X37 hx hby d_red_4 ((if0 _ _).trans (tlt c38).2.1) (rfl : 4 + 3 = 7) ?_
    refine g_iconst X37 hx hby (1 : Int32) d_red_7 (by decide) (rfl : 7 + 1 = 8) ?_
    refine g_goto X37 hx hby d_red_8 (by decide) (pc' := 12) (by decide) ?_
    refine own_retN X37 hx hby hlk (t := .boolean) hrt (by simp) d_red_12 (by decide) (by decide) ?_
    show Q_red Z a0 w h0 n0 _ T37.heap _
    exact ⟨(congrArg (fun z => some (Value.int z)) (by rw [F_red, if_pos c38] <;> rfl)), N0, e37⟩
  · refine g_ifT X37 hx hby d_red_4 ((if0 _ _).trans (flt c38).2.1) (by decide) (pc' := 11) (by decide) ?_
    refine g_iconst X37 hx hby (0 : Int32) d_red_11 (by decide) (rfl : 11 + 1 = 12) ?_
    refine own_retN X37 hx hby hlk (t := .boolean) hrt (by simp) d_red_12 (by decide) (by decide) ?_
    show Q_red Z a0 w h0 n0 _ T37.heap _
    exact ⟨(congrArg (fun z => some (Value.int z)) (by rw [F_red, if_neg c38] <;> rfl)), N0, e37⟩
theorem d_slc_0 : decode prog_4_method_5_code 0 = .ok (.aload_n 0, 1) := by decide +kernel
theorem d_slc_1 : decode prog_4_method_5_code 1 = .ok (.aload_n 0, 1) := by decide +kernel
theorem d_slc_2 : decode prog_4_method_5_code 2 = .ok (.getfield 19, 3) := by decide +kernel
theorem d_slc_5 : decode prog_4_method_5_code 5 = .ok (.ldc 18, 2) := by decide +kernel
theorem d_slc_7 : decode prog_4_method_5_code 7 = .ok (.iand, 1) := by decide +kernel
theorem d_slc_8 : decode prog_4_method_5_code 8 = .ok (.iload_n 1, 1) := by decide +kernel
theorem d_slc_9 : decode prog_4_method_5_code 9 = .ok (.ior, 1) := by decide +kernel
theorem d_slc_10 : decode prog_4_method_5_code 10 = .ok (.putfield 19, 3) := by decide +kernel
theorem d_slc_13 : decode prog_4_method_5_code 13 = .ok (.return_, 1) := by decide +kernel
theorem ef_slc (m : MethodId) (a0 : Addr) (x1 : Int32) : entryFrame m #[(.ref a0), (.int x1)] 2 = mkF m 0 #[.val (.ref a0), .val (.int x1)] [] := by first | (simp [entryFrame, mkF, argsToLocals, Value.category]; done) | rfl
def Q_slc (Z : State) (a0 : Addr) (x1 : Int32) (w : Int32) (h0 : Heap) (n0 : Nat) (v : Option Value) (h : Heap) (L : List Loc) : Prop := v = none ∧ Fr n0 L ∧ Keep h0 h [a0] ∧ Exa Z h a0 "com/example/leanbough/leanbough/LlrbTreeMap$Node" ∧ Fld Z h a0 "com/example/leanbough/leanbough/LlrbTreeMap$Node" "colourAndLeftCount" "I" (.int ((w &&& (-2147483648 : Int32)) ||| x1))
set_option maxRecDepth 65536 in
set_option maxHeartbeats 40000000 in
theorem rm_slc (l : Launch) (Z : State) (aT : Array Value) (hw : ∀ d ∈ tables_1, d.before aT Z = true) (ws : List Jvm.Cond) (a0 : Addr) (x1 : Int32) (w : Int32) (h0 : Heap) (n0 : Nat) (Z0 : n0 ≤ h0.size) (hp0 : Exa Z h0 a0 "com/example/leanbough/leanbough/LlrbTreeMap$Node") (hp1 : Fld Z h0 a0 "com/example/leanbough/leanbough/LlrbTreeMap$Node" "colourAndLeftCount" "I" (.int w)) (hp2 : n0 ≤ a0) :
    MetFree l (⟨"com/example/leanbough/leanbough/LlrbTreeMap$Node", "setLeftCount", "(I)V"⟩ : MethodName) (head1 (Jvm.Cond.code (⟨"com/example/leanbough/leanbough/LlrbTreeMap$Node", "setLeftCount", "(I)V"⟩ : MethodName) prog_4_method_5_code 2 none :: ws) ({ frames := 0, cells := 0, slots := 0, locals := 0 } : Room)) (fun a U => a = #[(.ref a0), (.int x1)] ∧ Z.Warmed39 U.vm ∧ U.heap = h0) (fun _ _ _ _ _ => True) (fun _ U o U' => ∃ v L, o = .returned v ∧ Q_slc Z a0 x1 w h0 n0 v U'.heap L ∧ FrameEnd U o U' L ({ frames := 0, cells := 0, slots := 0, locals := 0 } : Room).cells ({ frames := 0, cells := 0, slots := 0, locals := 0 } : Room).slots) := by
  refine MetFree.of_bodySF (plainFor_of_name pn2) hisR ?_
  intro p e s m args below meth c s₁ Bd hml0 hP hK
  obtain ⟨rfl, hZ, hh⟩ := hP
  have hx := Bd.exec
  have hby := Bd.bytes
  have hml : c.maxLocals = 2 := hml0
  have hown : s.vm.findClass "com/example/leanbough/leanbough/LlrbTreeMap$Node" = some m.cls := findClass_of_methodNamed Bd.named
  have hnm := (name_of_methodNamed Bd.named Bd.method).1
  have hlk := Bd.notSynchronized
  have hrt := Bd.returns
  have X0 : Stand p l e ({ frames := 0, cells := 0, slots := 0, locals := 0 } : Room) s m #[(.ref a0), (.int x1)] below meth c s₁ [] 0 0 := Stand.of_body Bd
  have e0 : s₁.heap = h0 := by rw [← hh, Bd.state]; rfl
  have N0 := Fr.nil n0
  refine own_cast (P := own_End s (Q_slc Z a0 x1 w h0 n0) ({ frames := 0, cells := 0, slots := 0, locals := 0 } : Room).cells ({ frames := 0, cells := 0, slots := 0, locals := 0 } : Room).slots) (ef_slc m a0 x1) ?_
  refine g_aloadN X0 hx hby d_slc_0 rfl rfl (rfl : 0 + 1 = 1) ?_
  refine g_aloadN X0 hx hby d_slc_1 rfl rfl (rfl : 1 + 1 = 2) ?_
  obtain ⟨T39, X39, e39, st39⟩ := getF X0 hx hZ hown (host := "") (Or.inl (hw _ (List.mem_of_getElem? (i := 22) rfl))) Via.refl e0 hp1 (g := (mkF m 2 #[.val (.ref a0), .val (.int x1)] [(.ref a0), (.ref a0)])) rfl rfl (hb hby d_slc_2)
  refine own_go st39 ?_
  show own_Got p e below _ T39 (mkF m 5 #[.val (.ref a0), .val (.int x1)] [(.int w), (.ref a0)])
  refine g_ldcI X39 hx hby hZ hown (hw _ (List.mem_of_getElem? (i := 21) rfl)) d_slc_5 (rfl : 5 + 2 = 7) ?_
  refine g_iand X39 hx hby d_slc_7 (rfl : 7 + 1 = 8) ?_
  refine g_iloadN X39 hx hby d_slc_8 rfl (rfl : 8 + 1 = 9) ?_
  refine g_ior X39 hx hby d_slc_9 (rfl : 9 + 1 = 10) ?_
  obtain ⟨T40, h40, X40, e40, W40, st40⟩ := putF X39 hx hZ hown (host := "") (Or.inl (hw _ (List.mem_of_getElem? (i := 22) rfl))) Via.refl e39 hp1 hp0 (Or.inl (hw _ (List.mem_of_getElem? (i := 23) rfl))) (hw _ (List.mem_of_getElem? (i := 2) rfl)) (ty := .int) (by decide) rfl rfl (g := (mkF m 10 #[.val (.ref a0), .val (.int x1)] [(.int ((w &&& (-2147483648 : Int32)) ||| x1)), (.ref a0)])) rfl rfl (hb hby d_slc_10)
  have Z40 : n0 ≤ h40.size := Nat.le_trans Z0 (Keep.of_wr W40).1
  have N40 := Fr.snoc X40 N0 hp2
  have K40 : Keep h0 h40 [a0] := (Keep.refl h0 [a0]).wr W40 (Or.inl (List.mem_of_getElem? (i := 0) rfl))
  have f40 : Fld Z h40 a0 "com/example/leanbough/leanbough/LlrbTreeMap$Node" "colourAndLeftCount" "I" (.int ((w &&& (-2147483648 : Int32)) ||| x1)) := Fld.same W40 hp1
  refine own_go st40 ?_
  show own_Got p e below _ T40 (mkF m 13 #[.val (.ref a0), .val (.int x1)] [])
  have f41 : Exa Z h40 a0 "com/example/leanbough/leanbough/LlrbTreeMap$Node" := (Exa.wr W40 hp0)
  refine own_retV X40 hx hby hlk hrt d_slc_13 (by decide) (by decide) ?_
  show Q_slc Z a0 x1 w h0 n0 _ T40.heap _
  rw [e40]
  exact ⟨rfl, N40, K40, f41, f40⟩
theorem pn3 : plainName "com/example/leanbough/leanbough/NodeSetRedPinLaw" = true := by first | (simp [plainName, overriddenIn]; done) | decide +kernel
theorem pd2 : parseMethodDescriptor "(I)Ljava/lang/Integer;" = some ⟨[.int], some (.object "java/lang/Integer")⟩ := by decide +kernel
theorem pd3 : parseMethodDescriptor "(Ljava/lang/Object;Ljava/lang/Object;)V" = some ⟨[(.object "java/lang/Object"), (.object "java/lang/Object")], none⟩ := by decide +kernel
theorem pd4 : parseMethodDescriptor "(Z)V" = some ⟨[.boolean], none⟩ := by decide +kernel
theorem pd5 : parseMethodDescriptor "()Z" = some ⟨[], some .boolean⟩ := by decide +kernel
theorem pd6 : parseMethodDescriptor "()I" = some ⟨[], some .int⟩ := by decide +kernel
theorem ef_law (m : MethodId) (x0 : Int32) (x1 : Int32) (x2 : Int32) : entryFrame m #[(.int x0), (.int x1), (.int x2)] maxLocals = mkF m 0 #[.val (.int x0), .val (.int x1), .val (.int x2), .unset, .unset, .unset, .unset, .unset, .unset] [] := by first | (simp [entryFrame, mkF, argsToLocals, Value.category, maxLocals]; done) | rfl
def F_law (x0 : Int32) (x1 : Int32) (x2 : Int32) : Int32 := if (x1 &&& (1 : Int32)) = (0 : Int32) then (if (x1 &&& (2 : Int32)) = (0 : Int32) then (if (F_red (S_red (S_red (((-2147483648 : Int32) &&& (-2147483648 : Int32)) ||| (x0 &&& (2147483647 : Int32))) (0 : Int32)) (0 : Int32))) = (0 : Int32) then (if (F_lct (S_red (S_red (((-2147483648 : Int32) &&& (-2147483648 : Int32)) ||| (x0 &&& (2147483647 : Int32))) (0 : Int32)) (0 : Int32))) = (x0 &&& (2147483647 : Int32)) then ((1 : Int32)) else ((0 : Int32))) else (if (F_lct (S_red (S_red (((-2147483648 : Int32) &&& (-2147483648 : Int32)) ||| (x0 &&& (2147483647 : Int32))) (0 : Int32)) (0 : Int32))) = (x0 &&& (2147483647 : Int32)) then ((0 : Int32)) else ((0 : Int32)))) else (if (F_red (S_red (S_red (((-2147483648 : Int32) &&& (-2147483648 : Int32)) ||| (x0 &&& (2147483647 : Int32))) (0 : Int32)) (1 : Int32))) = (1 : Int32) then (if (F_lct (S_red (S_red (((-2147483648 : Int32) &&& (-2147483648 : Int32)) ||| (x0 &&& (2147483647 : Int32))) (0 : Int32)) (1 : Int32))) = (x0 &&& (2147483647 : Int32)) then ((1 : Int32)) else ((0 : Int32))) else (if (F_lct (S_red (S_red (((-2147483648 : Int32) &&& (-2147483648 : Int32)) ||| (x0 &&& (2147483647 : Int32))) (0 : Int32)) (1 : Int32))) = (x0 &&& (2147483647 : Int32)) then ((0 : Int32)) else ((0 : Int32))))) else (if (x1 &&& (2 : Int32)) = (0 : Int32) then (if (F_red (S_red (S_red (((-2147483648 : Int32) &&& (-2147483648 : Int32)) ||| (x0 &&& (2147483647 : Int32))) (1 : Int32)) (0 : Int32))) = (0 : Int32) then (if (F_lct (S_red (S_red (((-2147483648 : Int32) &&& (-2147483648 : Int32)) ||| (x0 &&& (2147483647 : Int32))) (1 : Int32)) (0 : Int32))) = (x0 &&& (2147483647 : Int32)) then ((1 : Int32)) else ((0 : Int32))) else (if (F_lct (S_red (S_red (((-2147483648 : Int32) &&& (-2147483648 : Int32)) ||| (x0 &&& (2147483647 : Int32))) (1 : Int32)) (0 : Int32))) = (x0 &&& (2147483647 : Int32)) then ((0 : Int32)) else ((0 : Int32)))) else (if (F_red (S_red (S_red (((-2147483648 : Int32) &&& (-2147483648 : Int32)) ||| (x0 &&& (2147483647 : Int32))) (1 : Int32)) (1 : Int32))) = (1 : Int32) then (if (F_lct (S_red (S_red (((-2147483648 : Int32) &&& (-2147483648 : Int32)) ||| (x0 &&& (2147483647 : Int32))) (1 : Int32)) (1 : Int32))) = (x0 &&& (2147483647 : Int32)) then ((1 : Int32)) else ((0 : Int32))) else (if (F_lct (S_red (S_red (((-2147483648 : Int32) &&& (-2147483648 : Int32)) ||| (x0 &&& (2147483647 : Int32))) (1 : Int32)) (1 : Int32))) = (x0 &&& (2147483647 : Int32)) then ((0 : Int32)) else ((0 : Int32)))))
def Q_law (Z : State) (x0 : Int32) (x1 : Int32) (x2 : Int32) (wc : Addr) (h0 : Heap) (n0 : Nat) (v : Option Value) (h : Heap) (L : List Loc) : Prop := v = some (.int (F_law x0 x1 x2)) ∧ Fr n0 L
set_option maxRecDepth 65536 in
set_option maxHeartbeats 40000000 in
theorem rm_law (l : Launch) (Z : State) (aT : Array Value) (hw : ∀ d ∈ tables_1, d.before aT Z = true) (ws : List Jvm.Cond) (x0 : Int32) (x1 : Int32) (x2 : Int32) (wc : Addr) (h0 : Heap) (n0 : Nat) (Z0 : n0 ≤ h0.size) (hp0 : Sta Z h0 "java/lang/Integer$IntegerCache" "high" "I" (.int (127 : Int32))) (hp1 : Sta Z h0 "java/lang/Integer$IntegerCache" "cache" "[Ljava/lang/Integer;" (.ref wc)) (hp2 : Exa Z h0 wc "[Ljava/lang/Integer;") (hp3 : own_IC Z h0 wc) :
    MetFree l x (head1 (Jvm.Cond.code x code maxLocals ret :: ws) room_1) (fun a U => a = #[(.int x0), (.int x1), (.int x2)] ∧ Z.Warmed39 U.vm ∧ U.heap = h0) (fun _ _ _ _ _ => True) (fun _ U o U' => ∃ v L, o = .returned v ∧ Q_law Z x0 x1 x2 wc h0 n0 v U'.heap L ∧ FrameEnd U o U' L 16 128) := by
  refine MetFree.of_bodySF (plainFor_of_name pn3) hisR ?_
  intro p e s m args below meth c s₁ Bd hml0 hP hK
  obtain ⟨rfl, hZ, hh⟩ := hP
  have hx := Bd.exec
  have hby := Bd.bytes
  have hml : c.maxLocals = 9 := hml0
  have hown : s.vm.findClass "com/example/leanbough/leanbough/NodeSetRedPinLaw" = some m.cls := findClass_of_methodNamed Bd.named
  have hnm := (name_of_methodNamed Bd.named Bd.method).1
  have hlk := Bd.notSynchronized
  have hrt := Bd.returns
  have X0 : Stand p l e room_1 s m #[(.int x0), (.int x1), (.int x2)] below meth c s₁ [] 0 0 := Stand.of_body Bd
  have e0 : s₁.heap = h0 := by rw [← hh, Bd.state]; rfl
  have N0 := Fr.nil n0
  refine own_cast (P := own_End s (Q_law Z x0 x1 x2 wc h0 n0) 16 128) (ef_law m x0 x1 x2) ?_
  refine g_iloadN X0 hx hby at_0 rfl (rfl : 0 + 1 = 1) ?_
  refine g_ldcI X0 hx hby hZ hown (hw _ (List.mem_of_getElem? (i := 0) rfl)) at_1 (rfl : 1 + 2 = 3) ?_
  refine g_iand X0 hx hby at_3 (rfl : 3 + 1 = 4) ?_
  refine g_istoreN X0 hx hby #[.val (.int x0), .val (.int x1), .val (.int x2), .val (.int (x0 &&& (2147483647 : Int32))), .unset, .unset, .unset, .unset, .unset] at_4 rfl (rfl : 4 + 1 = 5) ?_
  refine g_iloadN X0 hx hby at_5 rfl (rfl : 5 + 1 = 6) ?_
  refine g_iconst X0 hx hby (1 : Int32) at_6 (by decide) (rfl : 6 + 1 = 7) ?_
  refine g_iand X0 hx hby at_7 (rfl : 7 + 1 = 8) ?_
  by_cases c42 : (x1 &&& (1 : Int32)) = (0 : Int32)
  · refine g_ifT X0 hx hby at_8 ((if0 _ _).trans (teq c42).1) (by decide) (pc' := 15) (by decide) ?_
    refine g_iconst X0 hx hby (0 : Int32) at_15 (by decide) (rfl : 15 + 1 = 16) ?_
    refine g_istore X0 hx hby #[.val (.int x0), .val (.int x1), .val (.int x2), .val (.int (x0 &&& (2147483647 : Int32))), .val (.int (0 : Int32)), .unset, .unset, .unset, .unset] at_16 rfl (rfl : 16 + 2 = 18) ?_
    refine g_iloadN X0 hx hby at_18 rfl (rfl : 18 + 1 = 19) ?_
    refine g_iconst X0 hx hby (2 : Int32) at_19 (by decide) (rfl : 19 + 1 = 20) ?_
    refine g_iand X0 hx hby at_20 (rfl : 20 + 1 = 21) ?_
    by_cases c43 : (x1 &&& (2 : Int32)) = (0 : Int32)
    · refine g_ifT X0 hx hby at_21 ((if0 _ _).trans (teq c43).1) (by decide) (pc' := 28) (by decide) ?_
      refine g_iconst X0 hx hby (0 : Int32) at_28 (by decide) (rfl : 28 + 1 = 29) ?_
      refine g_istore X0 hx hby #[.val (.int x0), .val (.int x1), .val (.int x2), .val (.int (x0 &&& (2147483647 : Int32))), .val (.int (0 : Int32)), .val (.int (0 : Int32)), .unset, .unset, .unset] at_29 rfl (rfl : 29 + 2 = 31) ?_
      obtain ⟨T44, h44, X44, e44, E44, A44, D44, -, st44⟩ := newO X0 hx hZ hown (hw _ (List.mem_of_getElem? (i := 1) rfl)) (hw _ (List.mem_of_getElem? (i := 2) rfl)) (hw _ (List.mem_of_getElem? (i := 3) rfl)) e0 (g := (mkF m 31 #[.val (.int x0), .val (.int x1), .val (.int x2), .val (.int (x0 &&& (2147483647 : Int32))), .val (.int (0 : Int32)), .val (.int (0 : Int32)), .unset, .unset, .unset] [])) rfl (hb hby at_31) (by decide) (by decide)
      obtain ⟨b44, g44⟩ : ∃ z, z = h0.size := ⟨_, rfl⟩
      rw [← g44] at A44 D44 st44
      have ne45 : wc ≠ b44 := Nat.ne_of_lt (Nat.lt_of_lt_of_le (hp2).lt (Nat.le_of_eq g44.symm))
      have Z44 : n0 ≤ h44.size := Nat.le_trans Z0 E44.1
      have ge44 : n0 ≤ b44 := Nat.le_trans Z0 (Nat.le_of_eq g44.symm)
      have f46 : Fld Z h44 b44 "com/example/leanbough/leanbough/LlrbTreeMap$Node" "key" "Ljava/lang/Object;" .null := D44 (Or.inr (hw _ (List.mem_of_getElem? (i := 18) rfl))) (ty := (.object "java/lang/Object")) (by decide)
      have f47 : Fld Z h44 b44 "com/example/leanbough/leanbough/LlrbTreeMap$Node" "value" "Ljava/lang/Object;" .null := D44 (Or.inl (hw _ (List.mem_of_getElem? (i := 20) rfl))) (ty := (.object "java/lang/Object")) (by decide)
      have f48 : Fld Z h44 b44 "com/example/leanbough/leanbough/LlrbTreeMap$Node" "colourAndLeftCount" "I" (.int (0 : Int32)) := D44 (Or.inl (hw _ (List.mem_of_getElem? (i := 23) rfl))) (ty := .int) (by decide)
      refine own_go st44 ?_
      show own_Got p e below _ T44 (mkF m 34 #[.val (.int x0), .val (.int x1), .val (.int x2), .val (.int (x0 &&& (2147483647 : Int32))), .val (.int (0 : Int32)), .val (.int (0 : Int32)), .unset, .unset, .unset] [(.ref b44)])
      refine g_dup X44 hx hby at_34 rfl (rfl : 34 + 1 = 35) ?_
      refine g_iloadN X44 hx hby at_35 rfl (rfl : 35 + 1 = 36) ?_
      have f50 : Sta Z h44 "java/lang/Integer$IntegerCache" "high" "I" (.int (127 : Int32)) := (Sta.ext E44 hp0)
      have f51 : Sta Z h44 "java/lang/Integer$IntegerCache" "cache" "[Ljava/lang/Integer;" (.ref wc) := (Sta.ext E44 hp1)
      have f52 : Exa Z h44 wc "[Ljava/lang/Integer;" := (Exa.ext E44 hp2)
      have f53 : own_IC Z h44 wc := (own_IC_ext hp3 E44)
      obtain ⟨_, _, ⟨T49, L49, k49, n49⟩, -, X49, ⟨Lc49, hQ49, l49, y49, z49⟩, st49⟩ := Jvm.LawKit.callS X44 hx (y := (⟨"java/lang/Integer", "valueOf", "(I)Ljava/lang/Integer;"⟩ : MethodName)) hown (mvT hZ (hw _ (List.mem_of_getElem? (i := 4) rfl))) (mvT hZ (hw _ (List.mem_of_getElem? (i := 5) rfl))) (mvT hZ (hw _ (List.mem_of_getElem? (i := 6) rfl))) (mvT hZ (hw _ (List.mem_of_getElem? (i := 7) rfl))) (by decide) (backOf (W := 2) (rm_vof l Z aT hw [] x2 wc h44 n0 Z44 f50 f51 f52 f53) hZ (hw _ (List.mem_of_getElem? (i := 7) rfl)) (hw _ (List.mem_of_getElem? (i := 6) rfl)) (by decide) (by decide)) (g := (mkF m 36 #[.val (.int x0), .val (.int x1), .val (.int x2), .val (.int (x0 &&& (2147483647 : Int32))), .val (.int (0 : Int32)), .val (.int (0 : Int32)), .unset, .unset, .unset] [(.int x2), (.ref b44), (.ref b44)])) rfl (by rw [hml]; rfl) (argsL := [(.int x2)]) (rest := [(.ref b44), (.ref b44)]) (lenOf pd2 rfl) rfl (by show 2 * 0 + _ ≤ _; exact Nat.le_of_eq rfl) (hb hby at_36) (fun _ _ => ⟨rfl, e44, (by decide : 1 + 1 ≤ _), (by decide : 5 + 1 ≤ _)⟩)
      dsimp only [Pt.U, Pt.locs, Pt.cells, Pt.slots] at X49 l49 y49 z49 st49 hQ49
      subst l49 y49 z49
      obtain ⟨r_49, rfl, N49q, K49⟩ := hQ49
      have N49 := Fr.app N0 N49q
      have Z49 : n0 ≤ T49.heap.size := Nat.le_trans Z44 K49.1
      refine own_go st49 ?_
      show own_Got p e below _ T49 (mkF m 39 #[.val (.int x0), .val (.int x1), .val (.int x2), .val (.int (x0 &&& (2147483647 : Int32))), .val (.int (0 : Int32)), .val (.int (0 : Int32)), .unset, .unset, .unset] [(.ref r_49), (.ref b44), (.ref b44)])
      refine g_anull X49 hx hby at_39 (rfl : 39 + 1 = 40) ?_
      have f55 : Exa Z T49.heap b44 "com/example/leanbough/leanbough/LlrbTreeMap$Node" := (Exa.keep A44 K49)
      have f56 : Fld Z T49.heap b44 "com/example/leanbough/leanbough/LlrbTreeMap$Node" "key" "Ljava/lang/Object;" .null := (Fld.keep f46 K49 nin0)
      have f57 : Fld Z T49.heap b44 "com/example/leanbough/leanbough/LlrbTreeMap$Node" "value" "Ljava/lang/Object;" .null := (Fld.keep f47 K49 nin0)
      have f58 : Fld Z T49.heap b44 "com/example/leanbough/leanbough/LlrbTreeMap$Node" "colourAndLeftCount" "I" (.int (0 : Int32)) := (Fld.keep f48 K49 nin0)
      have f59 : Exa Z T49.heap wc "[Ljava/lang/Integer;" := (Exa.keep f52 K49)
      obtain ⟨_, _, ⟨T54, L54, k54, n54⟩, -, X54, ⟨Lc54, hQ54, l54, y54, z54⟩, st54⟩ := X49.specialBack hx (y := (⟨"com/example/leanbough/leanbough/LlrbTreeMap$Node", "<init>", "(Ljava/lang/Object;Ljava/lang/Object;)V"⟩ : MethodName)) rfl hown (mvT hZ (hw _ (List.mem_of_getElem? (i := 11) rfl))) (mvT hZ (hw _ (List.mem_of_getElem? (i := 12) rfl))) (mvT hZ (hw _ (List.mem_of_getElem? (i := 13) rfl))) (by decide) (backOf (W := 1) (rm_ini l Z aT hw [] b44 r_49 T49.heap n0 Z49 f55 f56 f57 f58 ge44) hZ (hw _ (List.mem_of_getElem? (i := 13) rfl)) (hw _ (List.mem_of_getElem? (i := 3) rfl)) (by decide) (by decide)) (g := (mkF m 40 #[.val (.int x0), .val (.int x1), .val (.int x2), .val (.int (x0 &&& (2147483647 : Int32))), .val (.int (0 : Int32)), .val (.int (0 : Int32)), .unset, .unset, .unset] [.null, (.ref r_49), (.ref b44), (.ref b44)])) rfl (by rw [hml]; rfl) (Steps.refl _) (a := b44) (argsL := [(.ref r_49), .null]) (rest := [(.ref b44)]) (lenOf pd3 rfl) rfl (by show 2 * 0 + _ ≤ _; exact Nat.le_of_eq rfl) (hb hby at_40) (fun _ _ => ⟨rfl, rfl, (by decide : 2 + 0 ≤ _), (by decide : 6 + 0 ≤ _)⟩)
      dsimp only [Pt.U, Pt.locs, Pt.cells, Pt.slots] at X54 l54 y54 z54 st54 hQ54
      subst l54 y54 z54
      obtain ⟨rfl, N54q, K54, q54_0, q54_1⟩ := hQ54
      have N54 := Fr.app N49 N54q
      have Z54 : n0 ≤ T54.heap.size := Nat.le_trans Z49 K54.1
      refine own_tr st54 ?_
      show own_Got p e below _ T54 (mkF m 43 #[.val (.int x0), .val (.int x1), .val (.int x2), .val (.int (x0 &&& (2147483647 : Int32))), .val (.int (0 : Int32)), .val (.int (0 : Int32)), .unset, .unset, .unset] [(.ref b44)])
      refine g_astore X54 hx hby #[.val (.int x0), .val (.int x1), .val (.int x2), .val (.int (x0 &&& (2147483647 : Int32))), .val (.int (0 : Int32)), .val (.int (0 : Int32)), .val (.ref b44), .unset, .unset] at_43 rfl rfl (rfl : 43 + 2 = 45) ?_
      refine g_aload X54 hx hby at_45 rfl rfl (rfl : 45 + 2 = 47) ?_
      refine g_iloadN X54 hx hby at_47 rfl (rfl : 47 + 1 = 48) ?_
      have f61 : Exa Z T54.heap wc "[Ljava/lang/Integer;" := (Exa.keep f59 K54)
      obtain ⟨cq60, kq60, q60a, q60b, q60c⟩ := isOf hZ rfl q54_0
      obtain ⟨_, _, ⟨T60, L60, k60, n60⟩, -, X60, ⟨Lc60, hQ60, l60, y60, z60⟩, st60⟩ := X54.virtualBack hx (y := (⟨"com/example/leanbough/leanbough/LlrbTreeMap$Node", "setLeftCount", "(I)V"⟩ : MethodName)) (z := (⟨"com/example/leanbough/leanbough/LlrbTreeMap$Node", "setLeftCount", "(I)V"⟩ : MethodName)) hown (mvT hZ (hw _ (List.mem_of_getElem? (i := 24) rfl))) (mvT hZ (hw _ (List.mem_of_getElem? (i := 25) rfl))) (notFace_of_selects (args := #[]) (mvT hZ (hw _ (List.mem_of_getElem? (i := 27) rfl)))) (mvT hZ (hw _ (List.mem_of_getElem? (i := 27) rfl))) (mvT hZ (hw _ (List.mem_of_getElem? (i := 26) rfl))) (by decide) (backOf (W := 0) (rm_slc l Z aT hw [] b44 (x0 &&& (2147483647 : Int32)) (-2147483648 : Int32) T54.heap n0 Z54 q54_0 q54_1 ge44) hZ (hw _ (List.mem_of_getElem? (i := 28) rfl)) (hw _ (List.mem_of_getElem? (i := 3) rfl)) (by decide) (by decide)) q60a q60c (g := (mkF m 48 #[.val (.int x0), .val (.int x1), .val (.int x2), .val (.int (x0 &&& (2147483647 : Int32))), .val (.int (0 : Int32)), .val (.int (0 : Int32)), .val (.ref b44), .unset, .unset] [(.int (x0 &&& (2147483647 : Int32))), (.ref b44)])) rfl (by rw [hml]; rfl) (Steps.refl _) (argsL := [(.int (x0 &&& (2147483647 : Int32)))]) (rest := []) (lenOf pd1 rfl) rfl (by show 2 * 0 + _ ≤ _; exact Nat.le_of_eq rfl) (hb hby at_48) (fun _ _ => ⟨rfl, rfl, (by decide : 2 + 0 ≤ _), (by decide : 6 + 0 ≤ _)⟩)
      dsimp only [Pt.U, Pt.locs, Pt.cells, Pt.slots] at X60 l60 y60 z60 st60 hQ60
      subst l60 y60 z60
      obtain ⟨rfl, N60q, K60, q60_0, q60_1⟩ := hQ60
      have N60 := Fr.app N54 N60q
      have Z60 : n0 ≤ T60.heap.size := Nat.le_trans Z54 K60.1
      refine own_tr st60 ?_
      show own_Got p e below _ T60 (mkF m 51 #[.val (.int x0), .val (.int x1), .val (.int x2), .val (.int (x0 &&& (2147483647 : Int32))), .val (.int (0 : Int32)), .val (.int (0 : Int32)), .val (.ref b44), .unset, .unset] [])
      refine g_aload X60 hx hby at_51 rfl rfl (rfl : 51 + 2 = 53) ?_
      refine g_iload X60 hx hby at_53 rfl (rfl : 53 + 2 = 55) ?_
      have f63 : Exa Z T60.heap wc "[Ljava/lang/Integer;" := (Exa.keep f61 K60)
      obtain ⟨cq62, kq62, q62a, q62b, q62c⟩ := isOf hZ rfl q60_0
      obtain ⟨_, _, ⟨T62, L62, k62, n62⟩, -, X62, ⟨Lc62, hQ62, l62, y62, z62⟩, st62⟩ := X60.virtualBack hx (y := (⟨"com/example/leanbough/leanbough/LlrbTreeMap$Node", "setRed", "(Z)V"⟩ : MethodName)) (z := (⟨"com/example/leanbough/leanbough/LlrbTreeMap$Node", "setRed", "(Z)V"⟩ : MethodName)) hown (mvT hZ (hw _ (List.mem_of_getElem? (i := 29) rfl))) (mvT hZ (hw _ (List.mem_of_getElem? (i := 30) rfl))) (notFace_of_selects (args := #[]) (mvT hZ (hw _ (List.mem_of_getElem? (i := 32) rfl)))) (mvT hZ (hw _ (List.mem_of_getElem? (i := 32) rfl))) (mvT hZ (hw _ (List.mem_of_getElem? (i := 31) rfl))) (by decide) (backOf (W := 0) (rm_srd l Z aT hw [] b44 (0 : Int32) (((-2147483648 : Int32) &&& (-2147483648 : Int32)) ||| (x0 &&& (2147483647 : Int32))) T60.heap n0 Z60 q60_0 q60_1 ge44) hZ (hw _ (List.mem_of_getElem? (i := 33) rfl)) (hw _ (List.mem_of_getElem? (i := 3) rfl)) (by decide) (by decide)) q62a q62c (g := (mkF m 55 #[.val (.int x0), .val (.int x1), .val (.int x2), .val (.int (x0 &&& (2147483647 : Int32))), .val (.int (0 : Int32)), .val (.int (0 : Int32)), .val (.ref b44), .unset, .unset] [(.int (0 : Int32)), (.ref b44)])) rfl (by rw [hml]; rfl) (Steps.refl _) (argsL := [(.int (0 : Int32))]) (rest := []) (lenOf pd4 rfl) rfl (by show 2 * 0 + _ ≤ _; exact Nat.le_of_eq rfl) (hb hby at_55) (fun _ _ => ⟨rfl, rfl, (by decide : 2 + 0 ≤ _), (by decide : 6 + 0 ≤ _)⟩)
      dsimp only [Pt.U, Pt.locs, Pt.cells, Pt.slots] at X62 l62 y62 z62 st62 hQ62
      subst l62 y62 z62
      obtain ⟨rfl, N62q, K62, q62_0, q62_1⟩ := hQ62
      have N62 := Fr.app N60 N62q
      have Z62 : n0 ≤ T62.heap.size := Nat.le_trans Z60 K62.1
      refine own_tr st62 ?_
      show own_Got p e below _ T62 (mkF m 58 #[.val (.int x0), .val (.int x1), .val (.int x2), .val (.int (x0 &&& (2147483647 : Int32))), .val (.int (0 : Int32)), .val (.int (0 : Int32)), .val (.ref b44), .unset, .unset] [])
      refine g_aload X62 hx hby at_58 rfl rfl (rfl : 58 + 2 = 60) ?_
      refine g_iload X62 hx hby at_60 rfl (rfl : 60 + 2 = 62) ?_
      have f65 : Exa Z T62.heap wc "[Ljava/lang/Integer;" := (Exa.keep f63 K62)
      obtain ⟨cq64, kq64, q64a, q64b, q64c⟩ := isOf hZ rfl q62_0
      obtain ⟨_, _, ⟨T64, L64, k64, n64⟩, -, X64, ⟨Lc64, hQ64, l64, y64, z64⟩, st64⟩ := X62.virtualBack hx (y := (⟨"com/example/leanbough/leanbough/LlrbTreeMap$Node", "setRed", "(Z)V"⟩ : MethodName)) (z := (⟨"com/example/leanbough/leanbough/LlrbTreeMap$Node", "setRed", "(Z)V"⟩ : MethodName)) hown (mvT hZ (hw _ (List.mem_of_getElem? (i := 29) rfl))) (mvT hZ (hw _ (List.mem_of_getElem? (i := 30) rfl))) (notFace_of_selects (args := #[]) (mvT hZ (hw _ (List.mem_of_getElem? (i := 32) rfl)))) (mvT hZ (hw _ (List.mem_of_getElem? (i := 32) rfl))) (mvT hZ (hw _ (List.mem_of_getElem? (i := 31) rfl))) (by decide) (backOf (W := 0) (rm_srd l Z aT hw [] b44 (0 : Int32) (S_red (((-2147483648 : Int32) &&& (-2147483648 : Int32)) ||| (x0 &&& (2147483647 : Int32))) (0 : Int32)) T62.heap n0 Z62 q62_0 q62_1 ge44) hZ (hw _ (List.mem_of_getElem? (i := 33) rfl)) (hw _ (List.mem_of_getElem? (i := 3) rfl)) (by decide) (by decide)) q64a q64c (g := (mkF m 62 #[.val (.int x0), .val (.int x1), .val (.int x2), .val (.int (x0 &&& (2147483647 : Int32))), .val (.int (0 : Int32)), .val (.int (0 : Int32)), .val (.ref b44), .unset, .unset] [(.int (0 : Int32)), (.ref b44)])) rfl (by rw [hml]; rfl) (Steps.refl _) (argsL := [(.int (0 : Int32))]) (rest := []) (lenOf pd4 rfl) rfl (by show 2 * 0 + _ ≤ _; exact Nat.le_of_eq rfl) (hb hby at_62) (fun _ _ => ⟨rfl, rfl, (by decide : 2 + 0 ≤ _), (by decide : 6 + 0 ≤ _)⟩)
      dsimp only [Pt.U, Pt.locs, Pt.cells, Pt.slots] at X64 l64 y64 z64 st64 hQ64
      subst l64 y64 z64
      obtain ⟨rfl, N64q, K64, q64_0, q64_1⟩ := hQ64
      have N64 := Fr.app N62 N64q
      have Z64 : n0 ≤ T64.heap.size := Nat.le_trans Z62 K64.1
      refine own_tr st64 ?_
      show own_Got p e below _ T64 (mkF m 65 #[.val (.int x0), .val (.int x1), .val (.int x2), .val (.int (x0 &&& (2147483647 : Int32))), .val (.int (0 : Int32)), .val (.int (0 : Int32)), .val (.ref b44), .unset, .unset] [])
      refine g_aload X64 hx hby at_65 rfl rfl (rfl : 65 + 2 = 67) ?_
      obtain ⟨cq66, kq66, q66a, q66b, q66c⟩ := isOf hZ rfl q64_0
      obtain ⟨_, _, ⟨T66, L66, k66, n66⟩, -, X66, ⟨Lc66, hQ66, l66, y66, z66⟩, st66⟩ := X64.virtualBack hx (y := (⟨"com/example/leanbough/leanbough/LlrbTreeMap$Node", "red", "()Z"⟩ : MethodName)) (z := (⟨"com/example/leanbough/leanbough/LlrbTreeMap$Node", "red", "()Z"⟩ : MethodName)) hown (mvT hZ (hw _ (List.mem_of_getElem? (i := 34) rfl))) (mvT hZ (hw _ (List.mem_of_getElem? (i := 35) rfl))) (notFace_of_selects (args := #[]) (mvT hZ (hw _ (List.mem_of_getElem? (i := 37) rfl)))) (mvT hZ (hw _ (List.mem_of_getElem? (i := 37) rfl))) (mvT hZ (hw _ (List.mem_of_getElem? (i := 36) rfl))) (by decide) (backOf (W := 0) (rm_red l Z aT hw [] b44 (S_red (S_red (((-2147483648 : Int32) &&& (-2147483648 : Int32)) ||| (x0 &&& (2147483647 : Int32))) (0 : Int32)) (0 : Int32)) T64.heap n0 Z64 q64_1) hZ (hw _ (List.mem_of_getElem? (i := 38) rfl)) (hw _ (List.mem_of_getElem? (i := 3) rfl)) (by decide) (by decide)) q66a q66c (g := (mkF m 67 #[.val (.int x0), .val (.int x1), .val (.int x2), .val (.int (x0 &&& (2147483647 : Int32))), .val (.int (0 : Int32)), .val (.int (0 : Int32)), .val (.ref b44), .unset, .unset] [(.ref b44)])) rfl (by rw [hml]; rfl) (Steps.refl _) (argsL := []) (rest := []) (lenOf pd5 rfl) rfl (by show 2 * 0 + _ ≤ _; exact Nat.le_of_eq rfl) (hb hby at_67) (fun _ _ => ⟨rfl, rfl, (by decide : 2 + 0 ≤ _), (by decide : 6 + 0 ≤ _)⟩)
      dsimp only [Pt.U, Pt.locs, Pt.cells, Pt.slots] at X66 l66 y66 z66 st66 hQ66
      subst l66 y66 z66
      obtain ⟨rfl, N66q, eq66⟩ := hQ66
      have N66 := Fr.app N64 N66q
      refine own_tr st66 ?_
      show own_Got p e below _ T66 (mkF m 70 #[.val (.int x0), .val (.int x1), .val (.int x2), .val (.int (x0 &&& (2147483647 : Int32))), .val (.int (0 : Int32)), .val (.int (0 : Int32)), .val (.ref b44), .unset, .unset] [(.int (F_red (S_red (S_red (((-2147483648 : Int32) &&& (-2147483648 : Int32)) ||| (x0 &&& (2147483647 : Int32))) (0 : Int32)) (0 : Int32))))])
      refine g_iload X66 hx hby at_70 rfl (rfl : 70 + 2 = 72) ?_
      by_cases c67 : (F_red (S_red (S_red (((-2147483648 : Int32) &&& (-2147483648 : Int32)) ||| (x0 &&& (2147483647 : Int32))) (0 : Int32)) (0 : Int32))) = (0 : Int32)
      · refine g_icF X66 hx hby at_72 (teq c67).2 (rfl : 72 + 3 = 75) ?_
        refine g_iconst X66 hx hby (1 : Int32) at_75 (by decide) (rfl : 75 + 1 = 76) ?_
        refine g_goto X66 hx hby at_76 (by decide) (pc' := 80) (by decide) ?_
        refine g_istore X66 hx hby #[.val (.int x0), .val (.int x1), .val (.int x2), .val (.int (x0 &&& (2147483647 : Int32))), .val (.int (0 : Int32)), .val (.int (0 : Int32)), .val (.ref b44), .val (.int (1 : Int32)), .unset] at_80 rfl (rfl : 80 + 2 = 82) ?_
        refine g_aload X66 hx hby at_82 rfl rfl (rfl : 82 + 2 = 84) ?_
        obtain ⟨cq68, kq68, q68a, q68b, q68c⟩ := isOf hZ eq66 q64_0
        obtain ⟨_, _, ⟨T68, L68, k68, n68⟩, -, X68, ⟨Lc68, hQ68, l68, y68, z68⟩, st68⟩ := X66.virtualBack hx (y := (⟨"com/example/leanbough/leanbough/LlrbTreeMap$Node", "leftCount", "()I"⟩ : MethodName)) (z := (⟨"com/example/leanbough/leanbough/LlrbTreeMap$Node", "leftCount", "()I"⟩ : MethodName)) hown (mvT hZ (hw _ (List.mem_of_getElem? (i := 39) rfl))) (mvT hZ (hw _ (List.mem_of_getElem? (i := 40) rfl))) (notFace_of_selects (args := #[]) (mvT hZ (hw _ (List.mem_of_getElem? (i := 42) rfl)))) (mvT hZ (hw _ (List.mem_of_getElem? (i := 42) rfl))) (mvT hZ (hw _ (List.mem_of_getElem? (i := 41) rfl))) (by decide) (backOf (W := 0) (rm_lct l Z aT hw [] b44 (S_red (S_red (((-2147483648 : Int32) &&& (-2147483648 : Int32)) ||| (x0 &&& (2147483647 : Int32))) (0 : Int32)) (0 : Int32)) T64.heap n0 Z64 q64_1) hZ (hw _ (List.mem_of_getElem? (i := 43) rfl)) (hw _ (List.mem_of_getElem? (i := 3) rfl)) (by decide) (by decide)) q68a q68c (g := (mkF m 84 #[.val (.int x0), .val (.int x1), .val (.int x2), .val (.int (x0 &&& (2147483647 : Int32))), .val (.int (0 : Int32)), .val (.int (0 : Int32)), .val (.ref b44), .val (.int (1 : Int32)), .unset] [(.ref b44)])) rfl (by rw [hml]; rfl) (Steps.refl _) (argsL := []) (rest := []) (lenOf pd6 rfl) rfl (by show 2 * 0 + _ ≤ _; exact Nat.le_of_eq rfl) (hb hby at_84) (fun _ _ => ⟨rfl, eq66, (by decide : 2 + 0 ≤ _), (by decide : 6 + 0 ≤ _)⟩)
        dsimp only [Pt.U, Pt.locs, Pt.cells, Pt.slots] at X68 l68 y68 z68 st68 hQ68
        subst l68 y68 z68
        obtain ⟨rfl, N68q, eq68⟩ := hQ68
        have N68 := Fr.app N66 N68q
        refine own_tr st68 ?_
        show own_Got p e below _ T68 (mkF m 87 #[.val (.int x0), .val (.int x1), .val (.int x2), .val (.int (x0 &&& (2147483647 : Int32))), .val (.int (0 : Int32)), .val (.int (0 : Int32)), .val (.ref b44), .val (.int (1 : Int32)), .unset] [(.int (F_lct (S_red (S_red (((-2147483648 : Int32) &&& (-2147483648 : Int32)) ||| (x0 &&& (2147483647 : Int32))) (0 : Int32)) (0 : Int32))))])
        refine g_iloadN X68 hx hby at_87 rfl (rfl : 87 + 1 = 88) ?_
        by_cases c69 : (F_lct (S_red (S_red (((-2147483648 : Int32) &&& (-2147483648 : Int32)) ||| (x0 &&& (2147483647 : Int32))) (0 : Int32)) (0 : Int32))) = (x0 &&& (2147483647 : Int32))
        · refine g_icF X68 hx hby at_88 (teq c69).2 (rfl : 88 + 3 = 91) ?_
          refine g_iconst X68 hx hby (1 : Int32) at_91 (by decide) (rfl : 91 + 1 = 92) ?_
          refine g_goto X68 hx hby at_92 (by decide) (pc' := 96) (by decide) ?_
          refine g_istore X68 hx hby #[.val (.int x0), .val (.int x1), .val (.int x2), .val (.int (x0 &&& (2147483647 : Int32))), .val (.int (0 : Int32)), .val (.int (0 : Int32)), .val (.ref b44), .val (.int (1 : Int32)), .val (.int (1 : Int32))] at_96 rfl (rfl : 96 + 2 = 98) ?_
          refine g_iload X68 hx hby at_98 rfl (rfl : 98 + 2 = 100) ?_
          refine g_ifF X68 hx hby at_100 ((if0 _ _).trans (feq (by decide : ¬ ((1 : Int32) = (0 : Int32)))).1) (rfl : 100 + 3 = 103) ?_
          refine g_iload X68 hx hby at_103 rfl (rfl : 103 + 2 = 105) ?_
          refine g_ifF X68 hx hby at_105 ((if0 _ _).trans (feq (by decide : ¬ ((1 : Int32) = (0 : Int32)))).1) (rfl : 105 + 3 = 108) ?_
          refine g_iconst X68 hx hby (1 : Int32) at_108 (by decide) (rfl : 108 + 1 = 109) ?_
          refine g_goto X68 hx hby at_109 (by decide) (pc' := 113) (by decide) ?_
          refine own_retN X68 hx hby hlk (t := .boolean) hrt (by simp) at_113 (by decide) (by decide) ?_
          show Q_law Z x0 x1 x2 wc h0 n0 _ T68.heap _
          exact ⟨(congrArg (fun z => some (Value.int z)) (by rw [F_law, if_pos c42, if_pos c43, if_pos c67, if_pos c69] <;> rfl)), N68⟩
        · refine g_icT X68 hx hby at_88 (feq c69).2 (by decide) (pc' := 95) (by decide) ?_
          refine g_iconst X68 hx hby (0 : Int32) at_95 (by decide) (rfl : 95 + 1 = 96) ?_
          refine g_istore X68 hx hby #[.val (.int x0), .val (.int x1), .val (.int x2), .val (.int (x0 &&& (2147483647 : Int32))), .val (.int (0 : Int32)), .val (.int (0 : Int32)), .val (.ref b44), .val (.int (1 : Int32)), .val (.int (0 : Int32))] at_96 rfl (rfl : 96 + 2 = 98) ?_
          refine g_iload X68 hx hby at_98 rfl (rfl : 98 + 2 = 100) ?_
          refine g_ifF X68 hx hby at_100 ((if0 _ _).trans (feq (by decide : ¬ ((1 : Int32) = (0 : Int32)))).1) (rfl : 100 + 3 = 103) ?_
          refine g_iload X68 hx hby at_103 rfl (rfl : 103 + 2 = 105) ?_
          refine g_ifT X68 hx hby at_105 ((if0 _ _).trans (teq (by decide : (0 : Int32) = (0 : Int32))).1) (by decide) (pc' := 112) (by decide) ?_
          refine g_iconst X68 hx hby (0 : Int32) at_112 (by decide) (rfl : 112 + 1 = 113) ?_
          refine own_retN X68 hx hby hlk (t := .boolean) hrt (by simp) at_113 (by decide) (by decide) ?_
          show Q_law Z x0 x1 x2 wc h0 n0 _ T68.heap _
          exact ⟨(congrArg (fun z => some (Value.int z)) (by rw [F_law, if_pos c42, if_pos c43, if_pos c67, if_neg c69] <;> rfl)), N68⟩
      · refine g_icT X66 hx hby at_72 (feq c67).2 (by decide) (pc' := 79) (by decide) ?_
        refine g_iconst X66 hx hby (0 : Int32) at_79 (by decide) (rfl : 79 + 1 = 80) ?_
        refine g_istore X66 hx hby #[.val (.int x0), .val (.int x1), .val (.int x2), .val (.int (x0 &&& (2147483647 : Int32))), .val (.int (0 : Int32)), .val (.int (0 : Int32)), .val (.ref b44), .val (.int (0 : Int32)), .unset] at_80 rfl (rfl : 80 + 2 = 82) ?_
        refine g_aload X66 hx hby at_82 rfl rfl (rfl : 82 + 2 = 84) ?_
        obtain ⟨cq70, kq70, q70a, q70b, q70c⟩ := isOf hZ eq66 q64_0
        obtain ⟨_, _, ⟨T70, L70, k70, n70⟩, -, X70, ⟨Lc70, hQ70, l70, y70, z70⟩, st70⟩ := X66.virtualBack hx (y := (⟨"com/example/leanbough/leanbough/LlrbTreeMap$Node", "leftCount", "()I"⟩ : MethodName)) (z := (⟨"com/example/leanbough/leanbough/LlrbTreeMap$Node", "leftCount", "()I"⟩ : MethodName)) hown (mvT hZ (hw _ (List.mem_of_getElem? (i := 39) rfl))) (mvT hZ (hw _ (List.mem_of_getElem? (i := 40) rfl))) (notFace_of_selects (args := #[]) (mvT hZ (hw _ (List.mem_of_getElem? (i := 42) rfl)))) (mvT hZ (hw _ (List.mem_of_getElem? (i := 42) rfl))) (mvT hZ (hw _ (List.mem_of_getElem? (i := 41) rfl))) (by decide) (backOf (W := 0) (rm_lct l Z aT hw [] b44 (S_red (S_red (((-2147483648 : Int32) &&& (-2147483648 : Int32)) ||| (x0 &&& (2147483647 : Int32))) (0 : Int32)) (0 : Int32)) T64.heap n0 Z64 q64_1) hZ (hw _ (List.mem_of_getElem? (i := 43) rfl)) (hw _ (List.mem_of_getElem? (i := 3) rfl)) (by decide) (by decide)) q70a q70c (g := (mkF m 84 #[.val (.int x0), .val (.int x1), .val (.int x2), .val (.int (x0 &&& (2147483647 : Int32))), .val (.int (0 : Int32)), .val (.int (0 : Int32)), .val (.ref b44), .val (.int (0 : Int32)), .unset] [(.ref b44)])) rfl (by rw [hml]; rfl) (Steps.refl _) (argsL := []) (rest := []) (lenOf pd6 rfl) rfl (by show 2 * 0 + _ ≤ _; exact Nat.le_of_eq rfl) (hb hby at_84) (fun _ _ => ⟨rfl, eq66, (by decide : 2 + 0 ≤ _), (by decide : 6 + 0 ≤ _)⟩)
        dsimp only [Pt.U, Pt.locs, Pt.cells, Pt.slots] at X70 l70 y70 z70 st70 hQ70
        subst l70 y70 z70
        obtain ⟨rfl, N70q, eq70⟩ := hQ70
        have N70 := Fr.app N66 N70q
        refine own_tr st70 ?_
        show own_Got p e below _ T70 (mkF m 87 #[.val (.int x0), .val (.int x1), .val (.int x2), .val (.int (x0 &&& (2147483647 : Int32))), .val (.int (0 : Int32)), .val (.int (0 : Int32)), .val (.ref b44), .val (.int (0 : Int32)), .unset] [(.int (F_lct (S_red (S_red (((-2147483648 : Int32) &&& (-2147483648 : Int32)) ||| (x0 &&& (2147483647 : Int32))) (0 : Int32)) (0 : Int32))))])
        refine g_iloadN X70 hx hby at_87 rfl (rfl : 87 + 1 = 88) ?_
        by_cases c71 : (F_lct (S_red (S_red (((-2147483648 : Int32) &&& (-2147483648 : Int32)) ||| (x0 &&& (2147483647 : Int32))) (0 : Int32)) (0 : Int32))) = (x0 &&& (2147483647 : Int32))
        · refine g_icF X70 hx hby at_88 (teq c71).2 (rfl : 88 + 3 = 91) ?_
          refine g_iconst X70 hx hby (1 : Int32) at_91 (by decide) (rfl : 91 + 1 = 92) ?_
          refine g_goto X70 hx hby at_92 (by decide) (pc' := 96) (by decide) ?_
          refine g_istore X70 hx hby #[.val (.int x0), .val (.int x1), .val (.int x2), .val (.int (x0 &&& (2147483647 : Int32))), .val (.int (0 : Int32)), .val (.int (0 : Int32)), .val (.ref b44), .val (.int (0 : Int32)), .val (.int (1 : Int32))] at_96 rfl (rfl : 96 + 2 = 98) ?_
          refine g_iload X70 hx hby at_98 rfl (rfl : 98 + 2 = 100) ?_
          refine g_ifT X70 hx hby at_100 ((if0 _ _).trans (teq (by decide : (0 : Int32) = (0 : Int32))).1) (by decide) (pc' := 112) (by decide) ?_
          refine g_iconst X70 hx hby (0 : Int32) at_112 (by decide) (rfl : 112 + 1 = 113) ?_
          refine own_retN X70 hx hby hlk (t := .boolean) hrt (by simp) at_113 (by decide) (by decide) ?_
          show Q_law Z x0 x1 x2 wc h0 n0 _ T70.heap _
          exact ⟨(congrArg (fun z => some (Value.int z)) (by rw [F_law, if_pos c42, if_pos c43, if_neg c67, if_pos c71] <;> rfl)), N70⟩
        · refine g_icT X70 hx hby at_88 (feq c71).2 (by decide) (pc' := 95) (by decide) ?_
          refine g_iconst X70 hx hby (0 : Int32) at_95 (by decide) (rfl : 95 + 1 = 96) ?_
          refine g_istore X70 hx hby #[.val (.int x0), .val (.int x1), .val (.int x2), .val (.int (x0 &&& (2147483647 : Int32))), .val (.int (0 : Int32)), .val (.int (0 : Int32)), .val (.ref b44), .val (.int (0 : Int32)), .val (.int (0 : Int32))] at_96 rfl (rfl : 96 + 2 = 98) ?_
          refine g_iload X70 hx hby at_98 rfl (rfl : 98 + 2 = 100) ?_
          refine g_ifT X70 hx hby at_100 ((if0 _ _).trans (teq (by decide : (0 : Int32) = (0 : Int32))).1) (by decide) (pc' := 112) (by decide) ?_
          refine g_iconst X70 hx hby (0 : Int32) at_112 (by decide) (rfl : 112 + 1 = 113) ?_
          refine own_retN X70 hx hby hlk (t := .boolean) hrt (by simp) at_113 (by decide) (by decide) ?_
          show Q_law Z x0 x1 x2 wc h0 n0 _ T70.heap _
          exact ⟨(congrArg (fun z => some (Value.int z)) (by rw [F_law, if_pos c42, if_pos c43, if_neg c67, if_neg c71] <;> rfl)), N70⟩
    · refine g_ifF X0 hx hby at_21 ((if0 _ _).trans (feq c43).1) (rfl : 21 + 3 = 24) ?_
      refine g_iconst X0 hx hby (1 : Int32) at_24 (by decide) (rfl : 24 + 1 = 25) ?_
      refine g_goto X0 hx hby at_25 (by decide) (pc' := 29) (by decide) ?_
      refine g_istore X0 hx hby #[.val (.int x0), .val (.int x1), .val (.int x2), .val (.int (x0 &&& (2147483647 : Int32))), .val (.int (0 : Int32)), .val (.int (1 : Int32)), .unset, .unset, .unset] at_29 rfl (rfl : 29 + 2 = 31) ?_
      obtain ⟨T72, h72, X72, e72, E72, A72, D72, -, st72⟩ := newO X0 hx hZ hown (hw _ (List.mem_of_getElem? (i := 1) rfl)) (hw _ (List.mem_of_getElem? (i := 2) rfl)) (hw _ (List.mem_of_getElem? (i := 3) rfl)) e0 (g := (mkF m 31 #[.val (.int x0), .val (.int x1), .val (.int x2), .val (.int (x0 &&& (2147483647 : Int32))), .val (.int (0 : Int32)), .val (.int (1 : Int32)), .unset, .unset, .unset] [])) rfl (hb hby at_31) (by decide) (by decide)
      obtain ⟨b72, g72⟩ : ∃ z, z = h0.size := ⟨_, rfl⟩
      rw [← g72] at A72 D72 st72
      have ne73 : wc ≠ b72 := Nat.ne_of_lt (Nat.lt_of_lt_of_le (hp2).lt (Nat.le_of_eq g72.symm))
      have Z72 : n0 ≤ h72.size := Nat.le_trans Z0 E72.1
      have ge72 : n0 ≤ b72 := Nat.le_trans Z0 (Nat.le_of_eq g72.symm)
      have f74 : Fld Z h72 b72 "com/example/leanbough/leanbough/LlrbTreeMap$Node" "key" "Ljava/lang/Object;" .null := D72 (Or.inr (hw _ (List.mem_of_getElem? (i := 18) rfl))) (ty := (.object "java/lang/Object")) (by decide)
      have f75 : Fld Z h72 b72 "com/example/leanbough/leanbough/LlrbTreeMap$Node" "value" "Ljava/lang/Object;" .null := D72 (Or.inl (hw _ (List.mem_of_getElem? (i := 20) rfl))) (ty := (.object "java/lang/Object")) (by decide)
      have f76 : Fld Z h72 b72 "com/example/leanbough/leanbough/LlrbTreeMap$Node" "colourAndLeftCount" "I" (.int (0 : Int32)) := D72 (Or.inl (hw _ (List.mem_of_getElem? (i := 23) rfl))) (ty := .int) (by decide)
      refine own_go st72 ?_
      show own_Got p e below _ T72 (mkF m 34 #[.val (.int x0), .val (.int x1), .val (.int x2), .val (.int (x0 &&& (2147483647 : Int32))), .val (.int (0 : Int32)), .val (.int (1 : Int32)), .unset, .unset, .unset] [(.ref b72)])
      refine g_dup X72 hx hby at_34 rfl (rfl : 34 + 1 = 35) ?_
      refine g_iloadN X72 hx hby at_35 rfl (rfl : 35 + 1 = 36) ?_
      have f78 : Sta Z h72 "java/lang/Integer$IntegerCache" "high" "I" (.int (127 : Int32)) := (Sta.ext E72 hp0)
      have f79 : Sta Z h72 "java/lang/Integer$IntegerCache" "cache" "[Ljava/lang/Integer;" (.ref wc) := (Sta.ext E72 hp1)
      have f80 : Exa Z h72 wc "[Ljava/lang/Integer;" := (Exa.ext E72 hp2)
      have f81 : own_IC Z h72 wc := (own_IC_ext hp3 E72)
      obtain ⟨_, _, ⟨T77, L77, k77, n77⟩, -, X77, ⟨Lc77, hQ77, l77, y77, z77⟩, st77⟩ := Jvm.LawKit.callS X72 hx (y := (⟨"java/lang/Integer", "valueOf", "(I)Ljava/lang/Integer;"⟩ : MethodName)) hown (mvT hZ (hw _ (List.mem_of_getElem? (i := 4) rfl))) (mvT hZ (hw _ (List.mem_of_getElem? (i := 5) rfl))) (mvT hZ (hw _ (List.mem_of_getElem? (i := 6) rfl))) (mvT hZ (hw _ (List.mem_of_getElem? (i := 7) rfl))) (by decide) (backOf (W := 2) (rm_vof l Z aT hw [] x2 wc h72 n0 Z72 f78 f79 f80 f81) hZ (hw _ (List.mem_of_getElem? (i := 7) rfl)) (hw _ (List.mem_of_getElem? (i := 6) rfl)) (by decide) (by decide)) (g := (mkF m 36 #[.val (.int x0), .val (.int x1), .val (.int x2), .val (.int (x0 &&& (2147483647 : Int32))), .val (.int (0 : Int32)), .val (.int (1 : Int32)), .unset, .unset, .unset] [(.int x2), (.ref b72), (.ref b72)])) rfl (by rw [hml]; rfl) (argsL := [(.int x2)]) (rest := [(.ref b72), (.ref b72)]) (lenOf pd2 rfl) rfl (by show 2 * 0 + _ ≤ _; exact Nat.le_of_eq rfl) (hb hby at_36) (fun _ _ => ⟨rfl, e72, (by decide : 1 + 1 ≤ _), (by decide : 5 + 1 ≤ _)⟩)
      dsimp only [Pt.U, Pt.locs, Pt.cells, Pt.slots] at X77 l77 y77 z77 st77 hQ77
      subst l77 y77 z77
      obtain ⟨r_77, rfl, N77q, K77⟩ := hQ77
      have N77 := Fr.app N0 N77q
      have Z77 : n0 ≤ T77.heap.size := Nat.le_trans Z72 K77.1
      refine own_go st77 ?_
      show own_Got p e below _ T77 (mkF m 39 #[.val (.int x0), .val (.int x1), .val (.int x2), .val (.int (x0 &&& (2147483647 : Int32))), .val (.int (0 : Int32)), .val (.int (1 : Int32)), .unset, .unset, .unset] [(.ref r_77), (.ref b72), (.ref b72)])
      refine g_anull X77 hx hby at_39 (rfl : 39 + 1 = 40) ?_
      have f83 : Exa Z T77.heap b72 "com/example/leanbough/leanbough/LlrbTreeMap$Node" := (Exa.keep A72 K77)
      have f84 : Fld Z T77.heap b72 "com/example/leanbough/leanbough/LlrbTreeMap$Node" "key" "Ljava/lang/Object;" .null := (Fld.keep f74 K77 nin0)
      have f85 : Fld Z T77.heap b72 "com/example/leanbough/leanbough/LlrbTreeMap$Node" "value" "Ljava/lang/Object;" .null := (Fld.keep f75 K77 nin0)
      have f86 : Fld Z T77.heap b72 "com/example/leanbough/leanbough/LlrbTreeMap$Node" "colourAndLeftCount" "I" (.int (0 : Int32)) := (Fld.keep f76 K77 nin0)
      have f87 : Exa Z T77.heap wc "[Ljava/lang/Integer;" := (Exa.keep f80 K77)
      obtain ⟨_, _, ⟨T82, L82, k82, n82⟩, -, X82, ⟨Lc82, hQ82, l82, y82, z82⟩, st82⟩ := X77.specialBack hx (y := (⟨"com/example/leanbough/leanbough/LlrbTreeMap$Node", "<init>", "(Ljava/lang/Object;Ljava/lang/Object;)V"⟩ : MethodName)) rfl hown (mvT hZ (hw _ (List.mem_of_getElem? (i := 11) rfl))) (mvT hZ (hw _ (List.mem_of_getElem? (i := 12) rfl))) (mvT hZ (hw _ (List.mem_of_getElem? (i := 13) rfl))) (by decide) (backOf (W := 1) (rm_ini l Z aT hw [] b72 r_77 T77.heap n0 Z77 f83 f84 f85 f86 ge72) hZ (hw _ (List.mem_of_getElem? (i := 13) rfl)) (hw _ (List.mem_of_getElem? (i := 3) rfl)) (by decide) (by decide)) (g := (mkF m 40 #[.val (.int x0), .val (.int x1), .val (.int x2), .val (.int (x0 &&& (2147483647 : Int32))), .val (.int (0 : Int32)), .val (.int (1 : Int32)), .unset, .unset, .unset] [.null, (.ref r_77), (.ref b72), (.ref b72)])) rfl (by rw [hml]; rfl) (Steps.refl _) (a := b72) (argsL := [(.ref r_77), .null]) (rest := [(.ref b72)]) (lenOf pd3 rfl) rfl (by show 2 * 0 + _ ≤ _; exact Nat.le_of_eq rfl) (hb hby at_40) (fun _ _ => ⟨rfl, rfl, (by decide : 2 + 0 ≤ _), (by decide : 6 + 0 ≤ _)⟩)
      dsimp only [Pt.U, Pt.locs, Pt.cells, Pt.slots] at X82 l82 y82 z82 st82 hQ82
      subst l82 y82 z82
      obtain ⟨rfl, N82q, K82, q82_0, q82_1⟩ := hQ82
      have N82 := Fr.app N77 N82q
      have Z82 : n0 ≤ T82.heap.size := Nat.le_trans Z77 K82.1
      refine own_tr st82 ?_
      show own_Got p e below _ T82 (mkF m 43 #[.val (.int x0), .val (.int x1), .val (.int x2), .val (.int (x0 &&& (2147483647 : Int32))), .val (.int (0 : Int32)), .val (.int (1 : Int32)), .unset, .unset, .unset] [(.ref b72)])
      refine g_astore X82 hx hby #[.val (.int x0), .val (.int x1), .val (.int x2), .val (.int (x0 &&& (2147483647 : Int32))), .val (.int (0 : Int32)), .val (.int (1 : Int32)), .val (.ref b72), .unset, .unset] at_43 rfl rfl (rfl : 43 + 2 = 45) ?_
      refine g_aload X82 hx hby at_45 rfl rfl (rfl : 45 + 2 = 47) ?_
      refine g_iloadN X82 hx hby at_47 rfl (rfl : 47 + 1 = 48) ?_
      have f89 : Exa Z T82.heap wc "[Ljava/lang/Integer;" := (Exa.keep f87 K82)
      obtain ⟨cq88, kq88, q88a, q88b, q88c⟩ := isOf hZ rfl q82_0
      obtain ⟨_, _, ⟨T88, L88, k88, n88⟩, -, X88, ⟨Lc88, hQ88, l88, y88, z88⟩, st88⟩ := X82.virtualBack hx (y := (⟨"com/example/leanbough/leanbough/LlrbTreeMap$Node", "setLeftCount", "(I)V"⟩ : MethodName)) (z := (⟨"com/example/leanbough/leanbough/LlrbTreeMap$Node", "setLeftCount", "(I)V"⟩ : MethodName)) hown (mvT hZ (hw _ (List.mem_of_getElem? (i := 24) rfl))) (mvT hZ (hw _ (List.mem_of_getElem? (i := 25) rfl))) (notFace_of_selects (args := #[]) (mvT hZ (hw _ (List.mem_of_getElem? (i := 27) rfl)))) (mvT hZ (hw _ (List.mem_of_getElem? (i := 27) rfl))) (mvT hZ (hw _ (List.mem_of_getElem? (i := 26) rfl))) (by decide) (backOf (W := 0) (rm_slc l Z aT hw [] b72 (x0 &&& (2147483647 : Int32)) (-2147483648 : Int32) T82.heap n0 Z82 q82_0 q82_1 ge72) hZ (hw _ (List.mem_of_getElem? (i := 28) rfl)) (hw _ (List.mem_of_getElem? (i := 3) rfl)) (by decide) (by decide)) q88a q88c (g := (mkF m 48 #[.val (.int x0), .val (.int x1), .val (.int x2), .val (.int (x0 &&& (2147483647 : Int32))), .val (.int (0 : Int32)), .val (.int (1 : Int32)), .val (.ref b72), .unset, .unset] [(.int (x0 &&& (2147483647 : Int32))), (.ref b72)])) rfl (by rw [hml]; rfl) (Steps.refl _) (argsL := [(.int (x0 &&& (2147483647 : Int32)))]) (rest := []) (lenOf pd1 rfl) rfl (by show 2 * 0 + _ ≤ _; exact Nat.le_of_eq rfl) (hb hby at_48) (fun _ _ => ⟨rfl, rfl, (by decide : 2 + 0 ≤ _), (by decide : 6 + 0 ≤ _)⟩)
      dsimp only [Pt.U, Pt.locs, Pt.cells, Pt.slots] at X88 l88 y88 z88 st88 hQ88
      subst l88 y88 z88
      obtain ⟨rfl, N88q, K88, q88_0, q88_1⟩ := hQ88
      have N88 := Fr.app N82 N88q
      have Z88 : n0 ≤ T88.heap.size := Nat.le_trans Z82 K88.1
      refine own_tr st88 ?_
      show own_Got p e below _ T88 (mkF m 51 #[.val (.int x0), .val (.int x1), .val (.int x2), .val (.int (x0 &&& (2147483647 : Int32))), .val (.int (0 : Int32)), .val (.int (1 : Int32)), .val (.ref b72), .unset, .unset] [])
      refine g_aload X88 hx hby at_51 rfl rfl (rfl : 51 + 2 = 53) ?_
      refine g_iload X88 hx hby at_53 rfl (rfl : 53 + 2 = 55) ?_
      have f91 : Exa Z T88.heap wc "[Ljava/lang/Integer;" := (Exa.keep f89 K88)
      obtain ⟨cq90, kq90, q90a, q90b, q90c⟩ := isOf hZ rfl q88_0
      obtain ⟨_, _, ⟨T90, L90, k90, n90⟩, -, X90, ⟨Lc90, hQ90, l90, y90, z90⟩, st90⟩ := X88.virtualBack hx (y := (⟨"com/example/leanbough/leanbough/LlrbTreeMap$Node", "setRed", "(Z)V"⟩ : MethodName)) (z := (⟨"com/example/leanbough/leanbough/LlrbTreeMap$Node", "setRed", "(Z)V"⟩ : MethodName)) hown (mvT hZ (hw _ (List.mem_of_getElem? (i := 29) rfl))) (mvT hZ (hw _ (List.mem_of_getElem? (i := 30) rfl))) (notFace_of_selects (args := #[]) (mvT hZ (hw _ (List.mem_of_getElem? (i := 32) rfl)))) (mvT hZ (hw _ (List.mem_of_getElem? (i := 32) rfl))) (mvT hZ (hw _ (List.mem_of_getElem? (i := 31) rfl))) (by decide) (backOf (W := 0) (rm_srd l Z aT hw [] b72 (0 : Int32) (((-2147483648 : Int32) &&& (-2147483648 : Int32)) ||| (x0 &&& (2147483647 : Int32))) T88.heap n0 Z88 q88_0 q88_1 ge72) hZ (hw _ (List.mem_of_getElem? (i := 33) rfl)) (hw _ (List.mem_of_getElem? (i := 3) rfl)) (by decide) (by decide)) q90a q90c (g := (mkF m 55 #[.val (.int x0), .val (.int x1), .val (.int x2), .val (.int (x0 &&& (2147483647 : Int32))), .val (.int (0 : Int32)), .val (.int (1 : Int32)), .val (.ref b72), .unset, .unset] [(.int (0 : Int32)), (.ref b72)])) rfl (by rw [hml]; rfl) (Steps.refl _) (argsL := [(.int (0 : Int32))]) (rest := []) (lenOf pd4 rfl) rfl (by show 2 * 0 + _ ≤ _; exact Nat.le_of_eq rfl) (hb hby at_55) (fun _ _ => ⟨rfl, rfl, (by decide : 2 + 0 ≤ _), (by decide : 6 + 0 ≤ _)⟩)
      dsimp only [Pt.U, Pt.locs, Pt.cells, Pt.slots] at X90 l90 y90 z90 st90 hQ90
      subst l90 y90 z90
      obtain ⟨rfl, N90q, K90, q90_0, q90_1⟩ := hQ90
      have N90 := Fr.app N88 N90q
      have Z90 : n0 ≤ T90.heap.size := Nat.le_trans Z88 K90.1
      refine own_tr st90 ?_
      show own_Got p e below _ T90 (mkF m 58 #[.val (.int x0), .val (.int x1), .val (.int x2), .val (.int (x0 &&& (2147483647 : Int32))), .val (.int (0 : Int32)), .val (.int (1 : Int32)), .val (.ref b72), .unset, .unset] [])
      refine g_aload X90 hx hby at_58 rfl rfl (rfl : 58 + 2 = 60) ?_
      refine g_iload X90 hx hby at_60 rfl (rfl : 60 + 2 = 62) ?_
      have f93 : Exa Z T90.heap wc "[Ljava/lang/Integer;" := (Exa.keep f91 K90)
      obtain ⟨cq92, kq92, q92a, q92b, q92c⟩ := isOf hZ rfl q90_0
      obtain ⟨_, _, ⟨T92, L92, k92, n92⟩, -, X92, ⟨Lc92, hQ92, l92, y92, z92⟩, st92⟩ := X90.virtualBack hx (y := (⟨"com/example/leanbough/leanbough/LlrbTreeMap$Node", "setRed", "(Z)V"⟩ : MethodName)) (z := (⟨"com/example/leanbough/leanbough/LlrbTreeMap$Node", "setRed", "(Z)V"⟩ : MethodName)) hown (mvT hZ (hw _ (List.mem_of_getElem? (i := 29) rfl))) (mvT hZ (hw _ (List.mem_of_getElem? (i := 30) rfl))) (notFace_of_selects (args := #[]) (mvT hZ (hw _ (List.mem_of_getElem? (i := 32) rfl)))) (mvT hZ (hw _ (List.mem_of_getElem? (i := 32) rfl))) (mvT hZ (hw _ (List.mem_of_getElem? (i := 31) rfl))) (by decide) (backOf (W := 0) (rm_srd l Z aT hw [] b72 (1 : Int32) (S_red (((-2147483648 : Int32) &&& (-2147483648 : Int32)) ||| (x0 &&& (2147483647 : Int32))) (0 : Int32)) T90.heap n0 Z90 q90_0 q90_1 ge72) hZ (hw _ (List.mem_of_getElem? (i := 33) rfl)) (hw _ (List.mem_of_getElem? (i := 3) rfl)) (by decide) (by decide)) q92a q92c (g := (mkF m 62 #[.val (.int x0), .val (.int x1), .val (.int x2), .val (.int (x0 &&& (2147483647 : Int32))), .val (.int (0 : Int32)), .val (.int (1 : Int32)), .val (.ref b72), .unset, .unset] [(.int (1 : Int32)), (.ref b72)])) rfl (by rw [hml]; rfl) (Steps.refl _) (argsL := [(.int (1 : Int32))]) (rest := []) (lenOf pd4 rfl) rfl (by show 2 * 0 + _ ≤ _; exact Nat.le_of_eq rfl) (hb hby at_62) (fun _ _ => ⟨rfl, rfl, (by decide : 2 + 0 ≤ _), (by decide : 6 + 0 ≤ _)⟩)
      dsimp only [Pt.U, Pt.locs, Pt.cells, Pt.slots] at X92 l92 y92 z92 st92 hQ92
      subst l92 y92 z92
      obtain ⟨rfl, N92q, K92, q92_0, q92_1⟩ := hQ92
      have N92 := Fr.app N90 N92q
      have Z92 : n0 ≤ T92.heap.size := Nat.le_trans Z90 K92.1
      refine own_tr st92 ?_
      show own_Got p e below _ T92 (mkF m 65 #[.val (.int x0), .val (.int x1), .val (.int x2), .val (.int (x0 &&& (2147483647 : Int32))), .val (.int (0 : Int32)), .val (.int (1 : Int32)), .val (.ref b72), .unset, .unset] [])
      refine g_aload X92 hx hby at_65 rfl rfl (rfl : 65 + 2 = 67) ?_
      obtain ⟨cq94, kq94, q94a, q94b, q94c⟩ := isOf hZ rfl q92_0
      obtain ⟨_, _, ⟨T94, L94, k94, n94⟩, -, X94, ⟨Lc94, hQ94, l94, y94, z94⟩, st94⟩ := X92.virtualBack hx (y := (⟨"com/example/leanbough/leanbough/LlrbTreeMap$Node", "red", "()Z"⟩ : MethodName)) (z := (⟨"com/example/leanbough/leanbough/LlrbTreeMap$Node", "red", "()Z"⟩ : MethodName)) hown (mvT hZ (hw _ (List.mem_of_getElem? (i := 34) rfl))) (mvT hZ (hw _ (List.mem_of_getElem? (i := 35) rfl))) (notFace_of_selects (args := #[]) (mvT hZ (hw _ (List.mem_of_getElem? (i := 37) rfl)))) (mvT hZ (hw _ (List.mem_of_getElem? (i := 37) rfl))) (mvT hZ (hw _ (List.mem_of_getElem? (i := 36) rfl))) (by decide) (backOf (W := 0) (rm_red l Z aT hw [] b72 (S_red (S_red (((-2147483648 : Int32) &&& (-2147483648 : Int32)) ||| (x0 &&& (2147483647 : Int32))) (0 : Int32)) (1 : Int32)) T92.heap n0 Z92 q92_1) hZ (hw _ (List.mem_of_getElem? (i := 38) rfl)) (hw _ (List.mem_of_getElem? (i := 3) rfl)) (by decide) (by decide)) q94a q94c (g := (mkF m 67 #[.val (.int x0), .val (.int x1), .val (.int x2), .val (.int (x0 &&& (2147483647 : Int32))), .val (.int (0 : Int32)), .val (.int (1 : Int32)), .val (.ref b72), .unset, .unset] [(.ref b72)])) rfl (by rw [hml]; rfl) (Steps.refl _) (argsL := []) (rest := []) (lenOf pd5 rfl) rfl (by show 2 * 0 + _ ≤ _; exact Nat.le_of_eq rfl) (hb hby at_67) (fun _ _ => ⟨rfl, rfl, (by decide : 2 + 0 ≤ _), (by decide : 6 + 0 ≤ _)⟩)
      dsimp only [Pt.U, Pt.locs, Pt.cells, Pt.slots] at X94 l94 y94 z94 st94 hQ94
      subst l94 y94 z94
      obtain ⟨rfl, N94q, eq94⟩ := hQ94
      have N94 := Fr.app N92 N94q
      refine own_tr st94 ?_
      show own_Got p e below _ T94 (mkF m 70 #[.val (.int x0), .val (.int x1), .val (.int x2), .val (.int (x0 &&& (2147483647 : Int32))), .val (.int (0 : Int32)), .val (.int (1 : Int32)), .val (.ref b72), .unset, .unset] [(.int (F_red (S_red (S_red (((-2147483648 : Int32) &&& (-2147483648 : Int32)) ||| (x0 &&& (2147483647 : Int32))) (0 : Int32)) (1 : Int32))))])
      refine g_iload X94 hx hby at_70 rfl (rfl : 70 + 2 = 72) ?_
      by_cases c95 : (F_red (S_red (S_red (((-2147483648 : Int32) &&& (-2147483648 : Int32)) ||| (x0 &&& (2147483647 : Int32))) (0 : Int32)) (1 : Int32))) = (1 : Int32)
      · refine g_icF X94 hx hby at_72 (teq c95).2 (rfl : 72 + 3 = 75) ?_
        refine g_iconst X94 hx hby (1 : Int32) at_75 (by decide) (rfl : 75 + 1 = 76) ?_
        refine g_goto X94 hx hby at_76 (by decide) (pc' := 80) (by decide) ?_
        refine g_istore X94 hx hby #[.val (.int x0), .val (.int x1), .val (.int x2), .val (.int (x0 &&& (2147483647 : Int32))), .val (.int (0 : Int32)), .val (.int (1 : Int32)), .val (.ref b72), .val (.int (1 : Int32)), .unset] at_80 rfl (rfl : 80 + 2 = 82) ?_
        refine g_aload X94 hx hby at_82 rfl rfl (rfl : 82 + 2 = 84) ?_
        obtain ⟨cq96, kq96, q96a, q96b, q96c⟩ := isOf hZ eq94 q92_0
        obtain ⟨_, _, ⟨T96, L96, k96, n96⟩, -, X96, ⟨Lc96, hQ96, l96, y96, z96⟩, st96⟩ := X94.virtualBack hx (y := (⟨"com/example/leanbough/leanbough/LlrbTreeMap$Node", "leftCount", "()I"⟩ : MethodName)) (z := (⟨"com/example/leanbough/leanbough/LlrbTreeMap$Node", "leftCount", "()I"⟩ : MethodName)) hown (mvT hZ (hw _ (List.mem_of_getElem? (i := 39) rfl))) (mvT hZ (hw _ (List.mem_of_getElem? (i := 40) rfl))) (notFace_of_selects (args := #[]) (mvT hZ (hw _ (List.mem_of_getElem? (i := 42) rfl)))) (mvT hZ (hw _ (List.mem_of_getElem? (i := 42) rfl))) (mvT hZ (hw _ (List.mem_of_getElem? (i := 41) rfl))) (by decide) (backOf (W := 0) (rm_lct l Z aT hw [] b72 (S_red (S_red (((-2147483648 : Int32) &&& (-2147483648 : Int32)) ||| (x0 &&& (2147483647 : Int32))) (0 : Int32)) (1 : Int32)) T92.heap n0 Z92 q92_1) hZ (hw _ (List.mem_of_getElem? (i := 43) rfl)) (hw _ (List.mem_of_getElem? (i := 3) rfl)) (by decide) (by decide)) q96a q96c (g := (mkF m 84 #[.val (.int x0), .val (.int x1), .val (.int x2), .val (.int (x0 &&& (2147483647 : Int32))), .val (.int (0 : Int32)), .val (.int (1 : Int32)), .val (.ref b72), .val (.int (1 : Int32)), .unset] [(.ref b72)])) rfl (by rw [hml]; rfl) (Steps.refl _) (argsL := []) (rest := []) (lenOf pd6 rfl) rfl (by show 2 * 0 + _ ≤ _; exact Nat.le_of_eq rfl) (hb hby at_84) (fun _ _ => ⟨rfl, eq94, (by decide : 2 + 0 ≤ _), (by decide : 6 + 0 ≤ _)⟩)
        dsimp only [Pt.U, Pt.locs, Pt.cells, Pt.slots] at X96 l96 y96 z96 st96 hQ96
        subst l96 y96 z96
        obtain ⟨rfl, N96q, eq96⟩ := hQ96
        have N96 := Fr.app N94 N96q
        refine own_tr st96 ?_
        show own_Got p e below _ T96 (mkF m 87 #[.val (.int x0), .val (.int x1), .val (.int x2), .val (.int (x0 &&& (2147483647 : Int32))), .val (.int (0 : Int32)), .val (.int (1 : Int32)), .val (.ref b72), .val (.int (1 : Int32)), .unset] [(.int (F_lct (S_red (S_red (((-2147483648 : Int32) &&& (-2147483648 : Int32)) ||| (x0 &&& (2147483647 : Int32))) (0 : Int32)) (1 : Int32))))])
        refine g_iloadN X96 hx hby at_87 rfl (rfl : 87 + 1 = 88) ?_
        by_cases c97 : (F_lct (S_red (S_red (((-2147483648 : Int32) &&& (-2147483648 : Int32)) ||| (x0 &&& (2147483647 : Int32))) (0 : Int32)) (1 : Int32))) = (x0 &&& (2147483647 : Int32))
        · refine g_icF X96 hx hby at_88 (teq c97).2 (rfl : 88 + 3 = 91) ?_
          refine g_iconst X96 hx hby (1 : Int32) at_91 (by decide) (rfl : 91 + 1 = 92) ?_
          refine g_goto X96 hx hby at_92 (by decide) (pc' := 96) (by decide) ?_
          refine g_istore X96 hx hby #[.val (.int x0), .val (.int x1), .val (.int x2), .val (.int (x0 &&& (2147483647 : Int32))), .val (.int (0 : Int32)), .val (.int (1 : Int32)), .val (.ref b72), .val (.int (1 : Int32)), .val (.int (1 : Int32))] at_96 rfl (rfl : 96 + 2 = 98) ?_
          refine g_iload X96 hx hby at_98 rfl (rfl : 98 + 2 = 100) ?_
          refine g_ifF X96 hx hby at_100 ((if0 _ _).trans (feq (by decide : ¬ ((1 : Int32) = (0 : Int32)))).1) (rfl : 100 + 3 = 103) ?_
          refine g_iload X96 hx hby at_103 rfl (rfl : 103 + 2 = 105) ?_
          refine g_ifF X96 hx hby at_105 ((if0 _ _).trans (feq (by decide : ¬ ((1 : Int32) = (0 : Int32)))).1) (rfl : 105 + 3 = 108) ?_
          refine g_iconst X96 hx hby (1 : Int32) at_108 (by decide) (rfl : 108 + 1 = 109) ?_
          refine g_goto X96 hx hby at_109 (by decide) (pc' := 113) (by decide) ?_
          refine own_retN X96 hx hby hlk (t := .boolean) hrt (by simp) at_113 (by decide) (by decide) ?_
          show Q_law Z x0 x1 x2 wc h0 n0 _ T96.heap _
          exact ⟨(congrArg (fun z => some (Value.int z)) (by rw [F_law, if_pos c42, if_neg c43, if_pos c95, if_pos c97] <;> rfl)), N96⟩
        · refine g_icT X96 hx hby at_88 (feq c97).2 (by decide) (pc' := 95) (by decide) ?_
          refine g_iconst X96 hx hby (0 : Int32) at_95 (by decide) (rfl : 95 + 1 = 96) ?_
          refine g_istore X96 hx hby #[.val (.int x0), .val (.int x1), .val (.int x2), .val (.int (x0 &&& (2147483647 : Int32))), .val (.int (0 : Int32)), .val (.int (1 : Int32)), .val (.ref b72), .val (.int (1 : Int32)), .val (.int (0 : Int32))] at_96 rfl (rfl : 96 + 2 = 98) ?_
          refine g_iload X96 hx hby at_98 rfl (rfl : 98 + 2 = 100) ?_
          refine g_ifF X96 hx hby at_100 ((if0 _ _).trans (feq (by decide : ¬ ((1 : Int32) = (0 : Int32)))).1) (rfl : 100 + 3 = 103) ?_
          refine g_iload X96 hx hby at_103 rfl (rfl : 103 + 2 = 105) ?_
          refine g_ifT X96 hx hby at_105 ((if0 _ _).trans (teq (by decide : (0 : Int32) = (0 : Int32))).1) (by decide) (pc' := 112) (by decide) ?_
          refine g_iconst X96 hx hby (0 : Int32) at_112 (by decide) (rfl : 112 + 1 = 113) ?_
          refine own_retN X96 hx hby hlk (t := .boolean) hrt (by simp) at_113 (by decide) (by decide) ?_
          show Q_law Z x0 x1 x2 wc h0 n0 _ T96.heap _
          exact ⟨(congrArg (fun z => some (Value.int z)) (by rw [F_law, if_pos c42, if_neg c43, if_pos c95, if_neg c97] <;> rfl)), N96⟩
      · refine g_icT X94 hx hby at_72 (feq c95).2 (by decide) (pc' := 79) (by decide) ?_
        refine g_iconst X94 hx hby (0 : Int32) at_79 (by decide) (rfl : 79 + 1 = 80) ?_
        refine g_istore X94 hx hby #[.val (.int x0), .val (.int x1), .val (.int x2), .val (.int (x0 &&& (2147483647 : Int32))), .val (.int (0 : Int32)), .val (.int (1 : Int32)), .val (.ref b72), .val (.int (0 : Int32)), .unset] at_80 rfl (rfl : 80 + 2 = 82) ?_
        refine g_aload X94 hx hby at_82 rfl rfl (rfl : 82 + 2 = 84) ?_
        obtain ⟨cq98, kq98, q98a, q98b, q98c⟩ := isOf hZ eq94 q92_0
        obtain ⟨_, _, ⟨T98, L98, k98, n98⟩, -, X98, ⟨Lc98, hQ98, l98, y98, z98⟩, st98⟩ := X94.virtualBack hx (y := (⟨"com/example/leanbough/leanbough/LlrbTreeMap$Node", "leftCount", "()I"⟩ : MethodName)) (z := (⟨"com/example/leanbough/leanbough/LlrbTreeMap$Node", "leftCount", "()I"⟩ : MethodName)) hown (mvT hZ (hw _ (List.mem_of_getElem? (i := 39) rfl))) (mvT hZ (hw _ (List.mem_of_getElem? (i := 40) rfl))) (notFace_of_selects (args := #[]) (mvT hZ (hw _ (List.mem_of_getElem? (i := 42) rfl)))) (mvT hZ (hw _ (List.mem_of_getElem? (i := 42) rfl))) (mvT hZ (hw _ (List.mem_of_getElem? (i := 41) rfl))) (by decide) (backOf (W := 0) (rm_lct l Z aT hw [] b72 (S_red (S_red (((-2147483648 : Int32) &&& (-2147483648 : Int32)) ||| (x0 &&& (2147483647 : Int32))) (0 : Int32)) (1 : Int32)) T92.heap n0 Z92 q92_1) hZ (hw _ (List.mem_of_getElem? (i := 43) rfl)) (hw _ (List.mem_of_getElem? (i := 3) rfl)) (by decide) (by decide)) q98a q98c (g := (mkF m 84 #[.val (.int x0), .val (.int x1), .val (.int x2), .val (.int (x0 &&& (2147483647 : Int32))), .val (.int (0 : Int32)), .val (.int (1 : Int32)), .val (.ref b72), .val (.int (0 : Int32)), .unset] [(.ref b72)])) rfl (by rw [hml]; rfl) (Steps.refl _) (argsL := []) (rest := []) (lenOf pd6 rfl) rfl (by show 2 * 0 + _ ≤ _; exact Nat.le_of_eq rfl) (hb hby at_84) (fun _ _ => ⟨rfl, eq94, (by decide : 2 + 0 ≤ _), (by decide : 6 + 0 ≤ _)⟩)
        dsimp only [Pt.U, Pt.locs, Pt.cells, Pt.slots] at X98 l98 y98 z98 st98 hQ98
        subst l98 y98 z98
        obtain ⟨rfl, N98q, eq98⟩ := hQ98
        have N98 := Fr.app N94 N98q
        refine own_tr st98 ?_
        show own_Got p e below _ T98 (mkF m 87 #[.val (.int x0), .val (.int x1), .val (.int x2), .val (.int (x0 &&& (2147483647 : Int32))), .val (.int (0 : Int32)), .val (.int (1 : Int32)), .val (.ref b72), .val (.int (0 : Int32)), .unset] [(.int (F_lct (S_red (S_red (((-2147483648 : Int32) &&& (-2147483648 : Int32)) ||| (x0 &&& (2147483647 : Int32))) (0 : Int32)) (1 : Int32))))])
        refine g_iloadN X98 hx hby at_87 rfl (rfl : 87 + 1 = 88) ?_
        by_cases c99 : (F_lct (S_red (S_red (((-2147483648 : Int32) &&& (-2147483648 : Int32)) ||| (x0 &&& (2147483647 : Int32))) (0 : Int32)) (1 : Int32))) = (x0 &&& (2147483647 : Int32))
        · refine g_icF X98 hx hby at_88 (teq c99).2 (rfl : 88 + 3 = 91) ?_
          refine g_iconst X98 hx hby (1 : Int32) at_91 (by decide) (rfl : 91 + 1 = 92) ?_
          refine g_goto X98 hx hby at_92 (by decide) (pc' := 96) (by decide) ?_
          refine g_istore X98 hx hby #[.val (.int x0), .val (.int x1), .val (.int x2), .val (.int (x0 &&& (2147483647 : Int32))), .val (.int (0 : Int32)), .val (.int (1 : Int32)), .val (.ref b72), .val (.int (0 : Int32)), .val (.int (1 : Int32))] at_96 rfl (rfl : 96 + 2 = 98) ?_
          refine g_iload X98 hx hby at_98 rfl (rfl : 98 + 2 = 100) ?_
          refine g_ifT X98 hx hby at_100 ((if0 _ _).trans (teq (by decide : (0 : Int32) = (0 : Int32))).1) (by decide) (pc' := 112) (by decide) ?_
          refine g_iconst X98 hx hby (0 : Int32) at_112 (by decide) (rfl : 112 + 1 = 113) ?_
          refine own_retN X98 hx hby hlk (t := .boolean) hrt (by simp) at_113 (by decide) (by decide) ?_
          show Q_law Z x0 x1 x2 wc h0 n0 _ T98.heap _
          exact ⟨(congrArg (fun z => some (Value.int z)) (by rw [F_law, if_pos c42, if_neg c43, if_neg c95, if_pos c99] <;> rfl)), N98⟩
        · refine g_icT X98 hx hby at_88 (feq c99).2 (by decide) (pc' := 95) (by decide) ?_
          refine g_iconst X98 hx hby (0 : Int32) at_95 (by decide) (rfl : 95 + 1 = 96) ?_
          refine g_istore X98 hx hby #[.val (.int x0), .val (.int x1), .val (.int x2), .val (.int (x0 &&& (2147483647 : Int32))), .val (.int (0 : Int32)), .val (.int (1 : Int32)), .val (.ref b72), .val (.int (0 : Int32)), .val (.int (0 : Int32))] at_96 rfl (rfl : 96 + 2 = 98) ?_
          refine g_iload X98 hx hby at_98 rfl (rfl : 98 + 2 = 100) ?_
          refine g_ifT X98 hx hby at_100 ((if0 _ _).trans (teq (by decide : (0 : Int32) = (0 : Int32))).1) (by decide) (pc' := 112) (by decide) ?_
          refine g_iconst X98 hx hby (0 : Int32) at_112 (by decide) (rfl : 112 + 1 = 113) ?_
          refine own_retN X98 hx hby hlk (t := .boolean) hrt (by simp) at_113 (by decide) (by decide) ?_
          show Q_law Z x0 x1 x2 wc h0 n0 _ T98.heap _
          exact ⟨(congrArg (fun z => some (Value.int z)) (by rw [F_law, if_pos c42, if_neg c43, if_neg c95, if_neg c99] <;> rfl)), N98⟩
  · refine g_ifF X0 hx hby at_8 ((if0 _ _).trans (feq c42).1) (rfl : 8 + 3 = 11) ?_
    refine g_iconst X0 hx hby (1 : Int32) at_11 (by decide) (rfl : 11 + 1 = 12) ?_
    refine g_goto X0 hx hby at_12 (by decide) (pc' := 16) (by decide) ?_
    refine g_istore X0 hx hby #[.val (.int x0), .val (.int x1), .val (.int x2), .val (.int (x0 &&& (2147483647 : Int32))), .val (.int (1 : Int32)), .unset, .unset, .unset, .unset] at_16 rfl (rfl : 16 + 2 = 18) ?_
    refine g_iloadN X0 hx hby at_18 rfl (rfl : 18 + 1 = 19) ?_
    refine g_iconst X0 hx hby (2 : Int32) at_19 (by decide) (rfl : 19 + 1 = 20) ?_
    refine g_iand X0 hx hby at_20 (rfl : 20 + 1 = 21) ?_
    by_cases c100 : (x1 &&& (2 : Int32)) = (0 : Int32)
    · refine g_ifT X0 hx hby at_21 ((if0 _ _).trans (teq c100).1) (by decide) (pc' := 28) (by decide) ?_
      refine g_iconst X0 hx hby (0 : Int32) at_28 (by decide) (rfl : 28 + 1 = 29) ?_
      refine g_istore X0 hx hby #[.val (.int x0), .val (.int x1), .val (.int x2), .val (.int (x0 &&& (2147483647 : Int32))), .val (.int (1 : Int32)), .val (.int (0 : Int32)), .unset, .unset, .unset] at_29 rfl (rfl : 29 + 2 = 31) ?_
      obtain ⟨T101, h101, X101, e101, E101, A101, D101, -, st101⟩ := newO X0 hx hZ hown (hw _ (List.mem_of_getElem? (i := 1) rfl)) (hw _ (List.mem_of_getElem? (i := 2) rfl)) (hw _ (List.mem_of_getElem? (i := 3) rfl)) e0 (g := (mkF m 31 #[.val (.int x0), .val (.int x1), .val (.int x2), .val (.int (x0 &&& (2147483647 : Int32))), .val (.int (1 : Int32)), .val (.int (0 : Int32)), .unset, .unset, .unset] [])) rfl (hb hby at_31) (by decide) (by decide)
      obtain ⟨b101, g101⟩ : ∃ z, z = h0.size := ⟨_, rfl⟩
      rw [← g101] at A101 D101 st101
      have ne102 : wc ≠ b101 := Nat.ne_of_lt (Nat.lt_of_lt_of_le (hp2).lt (Nat.le_of_eq g101.symm))
      have Z101 : n0 ≤ h101.size := Nat.le_trans Z0 E101.1
      have ge101 : n0 ≤ b101 := Nat.le_trans Z0 (Nat.le_of_eq g101.symm)
      have f103 : Fld Z h101 b101 "com/example/leanbough/leanbough/LlrbTreeMap$Node" "key" "Ljava/lang/Object;" .null := D101 (Or.inr (hw _ (List.mem_of_getElem? (i := 18) rfl))) (ty := (.object "java/lang/Object")) (by decide)
      have f104 : Fld Z h101 b101 "com/example/leanbough/leanbough/LlrbTreeMap$Node" "value" "Ljava/lang/Object;" .null := D101 (Or.inl (hw _ (List.mem_of_getElem? (i := 20) rfl))) (ty := (.object "java/lang/Object")) (by decide)
      have f105 : Fld Z h101 b101 "com/example/leanbough/leanbough/LlrbTreeMap$Node" "colourAndLeftCount" "I" (.int (0 : Int32)) := D101 (Or.inl (hw _ (List.mem_of_getElem? (i := 23) rfl))) (ty := .int) (by decide)
      refine own_go st101 ?_
      show own_Got p e below _ T101 (mkF m 34 #[.val (.int x0), .val (.int x1), .val (.int x2), .val (.int (x0 &&& (2147483647 : Int32))), .val (.int (1 : Int32)), .val (.int (0 : Int32)), .unset, .unset, .unset] [(.ref b101)])
      refine g_dup X101 hx hby at_34 rfl (rfl : 34 + 1 = 35) ?_
      refine g_iloadN X101 hx hby at_35 rfl (rfl : 35 + 1 = 36) ?_
      have f107 : Sta Z h101 "java/lang/Integer$IntegerCache" "high" "I" (.int (127 : Int32)) := (Sta.ext E101 hp0)
      have f108 : Sta Z h101 "java/lang/Integer$IntegerCache" "cache" "[Ljava/lang/Integer;" (.ref wc) := (Sta.ext E101 hp1)
      have f109 : Exa Z h101 wc "[Ljava/lang/Integer;" := (Exa.ext E101 hp2)
      have f110 : own_IC Z h101 wc := (own_IC_ext hp3 E101)
      obtain ⟨_, _, ⟨T106, L106, k106, n106⟩, -, X106, ⟨Lc106, hQ106, l106, y106, z106⟩, st106⟩ := Jvm.LawKit.callS X101 hx (y := (⟨"java/lang/Integer", "valueOf", "(I)Ljava/lang/Integer;"⟩ : MethodName)) hown (mvT hZ (hw _ (List.mem_of_getElem? (i := 4) rfl))) (mvT hZ (hw _ (List.mem_of_getElem? (i := 5) rfl))) (mvT hZ (hw _ (List.mem_of_getElem? (i := 6) rfl))) (mvT hZ (hw _ (List.mem_of_getElem? (i := 7) rfl))) (by decide) (backOf (W := 2) (rm_vof l Z aT hw [] x2 wc h101 n0 Z101 f107 f108 f109 f110) hZ (hw _ (List.mem_of_getElem? (i := 7) rfl)) (hw _ (List.mem_of_getElem? (i := 6) rfl)) (by decide) (by decide)) (g := (mkF m 36 #[.val (.int x0), .val (.int x1), .val (.int x2), .val (.int (x0 &&& (2147483647 : Int32))), .val (.int (1 : Int32)), .val (.int (0 : Int32)), .unset, .unset, .unset] [(.int x2), (.ref b101), (.ref b101)])) rfl (by rw [hml]; rfl) (argsL := [(.int x2)]) (rest := [(.ref b101), (.ref b101)]) (lenOf pd2 rfl) rfl (by show 2 * 0 + _ ≤ _; exact Nat.le_of_eq rfl) (hb hby at_36) (fun _ _ => ⟨rfl, e101, (by decide : 1 + 1 ≤ _), (by decide : 5 + 1 ≤ _)⟩)
      dsimp only [Pt.U, Pt.locs, Pt.cells, Pt.slots] at X106 l106 y106 z106 st106 hQ106
      subst l106 y106 z106
      obtain ⟨r_106, rfl, N106q, K106⟩ := hQ106
      have N106 := Fr.app N0 N106q
      have Z106 : n0 ≤ T106.heap.size := Nat.le_trans Z101 K106.1
      refine own_go st106 ?_
      show own_Got p e below _ T106 (mkF m 39 #[.val (.int x0), .val (.int x1), .val (.int x2), .val (.int (x0 &&& (2147483647 : Int32))), .val (.int (1 : Int32)), .val (.int (0 : Int32)), .unset, .unset, .unset] [(.ref r_106), (.ref b101), (.ref b101)])
      refine g_anull X106 hx hby at_39 (rfl : 39 + 1 = 40) ?_
      have f112 : Exa Z T106.heap b101 "com/example/leanbough/leanbough/LlrbTreeMap$Node" := (Exa.keep A101 K106)
      have f113 : Fld Z T106.heap b101 "com/example/leanbough/leanbough/LlrbTreeMap$Node" "key" "Ljava/lang/Object;" .null := (Fld.keep f103 K106 nin0)
      have f114 : Fld Z T106.heap b101 "com/example/leanbough/leanbough/LlrbTreeMap$Node" "value" "Ljava/lang/Object;" .null := (Fld.keep f104 K106 nin0)
      have f115 : Fld Z T106.heap b101 "com/example/leanbough/leanbough/LlrbTreeMap$Node" "colourAndLeftCount" "I" (.int (0 : Int32)) := (Fld.keep f105 K106 nin0)
      have f116 : Exa Z T106.heap wc "[Ljava/lang/Integer;" := (Exa.keep f109 K106)
      obtain ⟨_, _, ⟨T111, L111, k111, n111⟩, -, X111, ⟨Lc111, hQ111, l111, y111, z111⟩, st111⟩ := X106.specialBack hx (y := (⟨"com/example/leanbough/leanbough/LlrbTreeMap$Node", "<init>", "(Ljava/lang/Object;Ljava/lang/Object;)V"⟩ : MethodName)) rfl hown (mvT hZ (hw _ (List.mem_of_getElem? (i := 11) rfl))) (mvT hZ (hw _ (List.mem_of_getElem? (i := 12) rfl))) (mvT hZ (hw _ (List.mem_of_getElem? (i := 13) rfl))) (by decide) (backOf (W := 1) (rm_ini l Z aT hw [] b101 r_106 T106.heap n0 Z106 f112 f113 f114 f115 ge101) hZ (hw _ (List.mem_of_getElem? (i := 13) rfl)) (hw _ (List.mem_of_getElem? (i := 3) rfl)) (by decide) (by decide)) (g := (mkF m 40 #[.val (.int x0), .val (.int x1), .val (.int x2), .val (.int (x0 &&& (2147483647 : Int32))), .val (.int (1 : Int32)), .val (.int (0 : Int32)), .unset, .unset, .unset] [.null, (.ref r_106), (.ref b101), (.ref b101)])) rfl (by rw [hml]; rfl) (Steps.refl _) (a := b101) (argsL := [(.ref r_106), .null]) (rest := [(.ref b101)]) (lenOf pd3 rfl) rfl (by show 2 * 0 + _ ≤ _; exact Nat.le_of_eq rfl) (hb hby at_40) (fun _ _ => ⟨rfl, rfl, (by decide : 2 + 0 ≤ _), (by decide : 6 + 0 ≤ _)⟩)
      dsimp only [Pt.U, Pt.locs, Pt.cells, Pt.slots] at X111 l111 y111 z111 st111 hQ111
      subst l111 y111 z111
      obtain ⟨rfl, N111q, K111, q111_0, q111_1⟩ := hQ111
      have N111 := Fr.app N106 N111q
      have Z111 : n0 ≤ T111.heap.size := Nat.le_trans Z106 K111.1
      refine own_tr st111 ?_
      show own_Got p e below _ T111 (mkF m 43 #[.val (.int x0), .val (.int x1), .val (.int x2), .val (.int (x0 &&& (2147483647 : Int32))), .val (.int (1 : Int32)), .val (.int (0 : Int32)), .unset, .unset, .unset] [(.ref b101)])
      refine g_astore X111 hx hby #[.val (.int x0), .val (.int x1), .val (.int x2), .val (.int (x0 &&& (2147483647 : Int32))), .val (.int (1 : Int32)), .val (.int (0 : Int32)), .val (.ref b101), .unset, .unset] at_43 rfl rfl (rfl : 43 + 2 = 45) ?_
      refine g_aload X111 hx hby at_45 rfl rfl (rfl : 45 + 2 = 47) ?_
      refine g_iloadN X111 hx hby at_47 rfl (rfl : 47 + 1 = 48) ?_
      have f118 : Exa Z T111.heap wc "[Ljava/lang/Integer;" := (Exa.keep f116 K111)
      obtain ⟨cq117, kq117, q117a, q117b, q117c⟩ := isOf hZ rfl q111_0
      obtain ⟨_, _, ⟨T117, L117, k117, n117⟩, -, X117, ⟨Lc117, hQ117, l117, y117, z117⟩, st117⟩ := X111.virtualBack hx (y := (⟨"com/example/leanbough/leanbough/LlrbTreeMap$Node", "setLeftCount", "(I)V"⟩ : MethodName)) (z := (⟨"com/example/leanbough/leanbough/LlrbTreeMap$Node", "setLeftCount", "(I)V"⟩ : MethodName)) hown (mvT hZ (hw _ (List.mem_of_getElem? (i := 24) rfl))) (mvT hZ (hw _ (List.mem_of_getElem? (i := 25) rfl))) (notFace_of_selects (args := #[]) (mvT hZ (hw _ (List.mem_of_getElem? (i := 27) rfl)))) (mvT hZ (hw _ (List.mem_of_getElem? (i := 27) rfl))) (mvT hZ (hw _ (List.mem_of_getElem? (i := 26) rfl))) (by decide) (backOf (W := 0) (rm_slc l Z aT hw [] b101 (x0 &&& (2147483647 : Int32)) (-2147483648 : Int32) T111.heap n0 Z111 q111_0 q111_1 ge101) hZ (hw _ (List.mem_of_getElem? (i := 28) rfl)) (hw _ (List.mem_of_getElem? (i := 3) rfl)) (by decide) (by decide)) q117a q117c (g := (mkF m 48 #[.val (.int x0), .val (.int x1), .val (.int x2), .val (.int (x0 &&& (2147483647 : Int32))), .val (.int (1 : Int32)), .val (.int (0 : Int32)), .val (.ref b101), .unset, .unset] [(.int (x0 &&& (2147483647 : Int32))), (.ref b101)])) rfl (by rw [hml]; rfl) (Steps.refl _) (argsL := [(.int (x0 &&& (2147483647 : Int32)))]) (rest := []) (lenOf pd1 rfl) rfl (by show 2 * 0 + _ ≤ _; exact Nat.le_of_eq rfl) (hb hby at_48) (fun _ _ => ⟨rfl, rfl, (by decide : 2 + 0 ≤ _), (by decide : 6 + 0 ≤ _)⟩)
      dsimp only [Pt.U, Pt.locs, Pt.cells, Pt.slots] at X117 l117 y117 z117 st117 hQ117
      subst l117 y117 z117
      obtain ⟨rfl, N117q, K117, q117_0, q117_1⟩ := hQ117
      have N117 := Fr.app N111 N117q
      have Z117 : n0 ≤ T117.heap.size := Nat.le_trans Z111 K117.1
      refine own_tr st117 ?_
      show own_Got p e below _ T117 (mkF m 51 #[.val (.int x0), .val (.int x1), .val (.int x2), .val (.int (x0 &&& (2147483647 : Int32))), .val (.int (1 : Int32)), .val (.int (0 : Int32)), .val (.ref b101), .unset, .unset] [])
      refine g_aload X117 hx hby at_51 rfl rfl (rfl : 51 + 2 = 53) ?_
      refine g_iload X117 hx hby at_53 rfl (rfl : 53 + 2 = 55) ?_
      have f120 : Exa Z T117.heap wc "[Ljava/lang/Integer;" := (Exa.keep f118 K117)
      obtain ⟨cq119, kq119, q119a, q119b, q119c⟩ := isOf hZ rfl q117_0
      obtain ⟨_, _, ⟨T119, L119, k119, n119⟩, -, X119, ⟨Lc119, hQ119, l119, y119, z119⟩, st119⟩ := X117.virtualBack hx (y := (⟨"com/example/leanbough/leanbough/LlrbTreeMap$Node", "setRed", "(Z)V"⟩ : MethodName)) (z := (⟨"com/example/leanbough/leanbough/LlrbTreeMap$Node", "setRed", "(Z)V"⟩ : MethodName)) hown (mvT hZ (hw _ (List.mem_of_getElem? (i := 29) rfl))) (mvT hZ (hw _ (List.mem_of_getElem? (i := 30) rfl))) (notFace_of_selects (args := #[]) (mvT hZ (hw _ (List.mem_of_getElem? (i := 32) rfl)))) (mvT hZ (hw _ (List.mem_of_getElem? (i := 32) rfl))) (mvT hZ (hw _ (List.mem_of_getElem? (i := 31) rfl))) (by decide) (backOf (W := 0) (rm_srd l Z aT hw [] b101 (1 : Int32) (((-2147483648 : Int32) &&& (-2147483648 : Int32)) ||| (x0 &&& (2147483647 : Int32))) T117.heap n0 Z117 q117_0 q117_1 ge101) hZ (hw _ (List.mem_of_getElem? (i := 33) rfl)) (hw _ (List.mem_of_getElem? (i := 3) rfl)) (by decide) (by decide)) q119a q119c (g := (mkF m 55 #[.val (.int x0), .val (.int x1), .val (.int x2), .val (.int (x0 &&& (2147483647 : Int32))), .val (.int (1 : Int32)), .val (.int (0 : Int32)), .val (.ref b101), .unset, .unset] [(.int (1 : Int32)), (.ref b101)])) rfl (by rw [hml]; rfl) (Steps.refl _) (argsL := [(.int (1 : Int32))]) (rest := []) (lenOf pd4 rfl) rfl (by show 2 * 0 + _ ≤ _; exact Nat.le_of_eq rfl) (hb hby at_55) (fun _ _ => ⟨rfl, rfl, (by decide : 2 + 0 ≤ _), (by decide : 6 + 0 ≤ _)⟩)
      dsimp only [Pt.U, Pt.locs, Pt.cells, Pt.slots] at X119 l119 y119 z119 st119 hQ119
      subst l119 y119 z119
      obtain ⟨rfl, N119q, K119, q119_0, q119_1⟩ := hQ119
      have N119 := Fr.app N117 N119q
      have Z119 : n0 ≤ T119.heap.size := Nat.le_trans Z117 K119.1
      refine own_tr st119 ?_
      show own_Got p e below _ T119 (mkF m 58 #[.val (.int x0), .val (.int x1), .val (.int x2), .val (.int (x0 &&& (2147483647 : Int32))), .val (.int (1 : Int32)), .val (.int (0 : Int32)), .val (.ref b101), .unset, .unset] [])
      refine g_aload X119 hx hby at_58 rfl rfl (rfl : 58 + 2 = 60) ?_
      refine g_iload X119 hx hby at_60 rfl (rfl : 60 + 2 = 62) ?_
      have f122 : Exa Z T119.heap wc "[Ljava/lang/Integer;" := (Exa.keep f120 K119)
      obtain ⟨cq121, kq121, q121a, q121b, q121c⟩ := isOf hZ rfl q119_0
      obtain ⟨_, _, ⟨T121, L121, k121, n121⟩, -, X121, ⟨Lc121, hQ121, l121, y121, z121⟩, st121⟩ := X119.virtualBack hx (y := (⟨"com/example/leanbough/leanbough/LlrbTreeMap$Node", "setRed", "(Z)V"⟩ : MethodName)) (z := (⟨"com/example/leanbough/leanbough/LlrbTreeMap$Node", "setRed", "(Z)V"⟩ : MethodName)) hown (mvT hZ (hw _ (List.mem_of_getElem? (i := 29) rfl))) (mvT hZ (hw _ (List.mem_of_getElem? (i := 30) rfl))) (notFace_of_selects (args := #[]) (mvT hZ (hw _ (List.mem_of_getElem? (i := 32) rfl)))) (mvT hZ (hw _ (List.mem_of_getElem? (i := 32) rfl))) (mvT hZ (hw _ (List.mem_of_getElem? (i := 31) rfl))) (by decide) (backOf (W := 0) (rm_srd l Z aT hw [] b101 (0 : Int32) (S_red (((-2147483648 : Int32) &&& (-2147483648 : Int32)) ||| (x0 &&& (2147483647 : Int32))) (1 : Int32)) T119.heap n0 Z119 q119_0 q119_1 ge101) hZ (hw _ (List.mem_of_getElem? (i := 33) rfl)) (hw _ (List.mem_of_getElem? (i := 3) rfl)) (by decide) (by decide)) q121a q121c (g := (mkF m 62 #[.val (.int x0), .val (.int x1), .val (.int x2), .val (.int (x0 &&& (2147483647 : Int32))), .val (.int (1 : Int32)), .val (.int (0 : Int32)), .val (.ref b101), .unset, .unset] [(.int (0 : Int32)), (.ref b101)])) rfl (by rw [hml]; rfl) (Steps.refl _) (argsL := [(.int (0 : Int32))]) (rest := []) (lenOf pd4 rfl) rfl (by show 2 * 0 + _ ≤ _; exact Nat.le_of_eq rfl) (hb hby at_62) (fun _ _ => ⟨rfl, rfl, (by decide : 2 + 0 ≤ _), (by decide : 6 + 0 ≤ _)⟩)
      dsimp only [Pt.U, Pt.locs, Pt.cells, Pt.slots] at X121 l121 y121 z121 st121 hQ121
      subst l121 y121 z121
      obtain ⟨rfl, N121q, K121, q121_0, q121_1⟩ := hQ121
      have N121 := Fr.app N119 N121q
      have Z121 : n0 ≤ T121.heap.size := Nat.le_trans Z119 K121.1
      refine own_tr st121 ?_
      show own_Got p e below _ T121 (mkF m 65 #[.val (.int x0), .val (.int x1), .val (.int x2), .val (.int (x0 &&& (2147483647 : Int32))), .val (.int (1 : Int32)), .val (.int (0 : Int32)), .val (.ref b101), .unset, .unset] [])
      refine g_aload X121 hx hby at_65 rfl rfl (rfl : 65 + 2 = 67) ?_
      obtain ⟨cq123, kq123, q123a, q123b, q123c⟩ := isOf hZ rfl q121_0
      obtain ⟨_, _, ⟨T123, L123, k123, n123⟩, -, X123, ⟨Lc123, hQ123, l123, y123, z123⟩, st123⟩ := X121.virtualBack hx (y := (⟨"com/example/leanbough/leanbough/LlrbTreeMap$Node", "red", "()Z"⟩ : MethodName)) (z := (⟨"com/example/leanbough/leanbough/LlrbTreeMap$Node", "red", "()Z"⟩ : MethodName)) hown (mvT hZ (hw _ (List.mem_of_getElem? (i := 34) rfl))) (mvT hZ (hw _ (List.mem_of_getElem? (i := 35) rfl))) (notFace_of_selects (args := #[]) (mvT hZ (hw _ (List.mem_of_getElem? (i := 37) rfl)))) (mvT hZ (hw _ (List.mem_of_getElem? (i := 37) rfl))) (mvT hZ (hw _ (List.mem_of_getElem? (i := 36) rfl))) (by decide) (backOf (W := 0) (rm_red l Z aT hw [] b101 (S_red (S_red (((-2147483648 : Int32) &&& (-2147483648 : Int32)) ||| (x0 &&& (2147483647 : Int32))) (1 : Int32)) (0 : Int32)) T121.heap n0 Z121 q121_1) hZ (hw _ (List.mem_of_getElem? (i := 38) rfl)) (hw _ (List.mem_of_getElem? (i := 3) rfl)) (by decide) (by decide)) q123a q123c (g := (mkF m 67 #[.val (.int x0), .val (.int x1), .val (.int x2), .val (.int (x0 &&& (2147483647 : Int32))), .val (.int (1 : Int32)), .val (.int (0 : Int32)), .val (.ref b101), .unset, .unset] [(.ref b101)])) rfl (by rw [hml]; rfl) (Steps.refl _) (argsL := []) (rest := []) (lenOf pd5 rfl) rfl (by show 2 * 0 + _ ≤ _; exact Nat.le_of_eq rfl) (hb hby at_67) (fun _ _ => ⟨rfl, rfl, (by decide : 2 + 0 ≤ _), (by decide : 6 + 0 ≤ _)⟩)
      dsimp only [Pt.U, Pt.locs, Pt.cells, Pt.slots] at X123 l123 y123 z123 st123 hQ123
      subst l123 y123 z123
      obtain ⟨rfl, N123q, eq123⟩ := hQ123
      have N123 := Fr.app N121 N123q
      refine own_tr st123 ?_
      show own_Got p e below _ T123 (mkF m 70 #[.val (.int x0), .val (.int x1), .val (.int x2), .val (.int (x0 &&& (2147483647 : Int32))), .val (.int (1 : Int32)), .val (.int (0 : Int32)), .val (.ref b101), .unset, .unset] [(.int (F_red (S_red (S_red (((-2147483648 : Int32) &&& (-2147483648 : Int32)) ||| (x0 &&& (2147483647 : Int32))) (1 : Int32)) (0 : Int32))))])
      refine g_iload X123 hx hby at_70 rfl (rfl : 70 + 2 = 72) ?_
      by_cases c124 : (F_red (S_red (S_red (((-2147483648 : Int32) &&& (-2147483648 : Int32)) ||| (x0 &&& (2147483647 : Int32))) (1 : Int32)) (0 : Int32))) = (0 : Int32)
      · refine g_icF X123 hx hby at_72 (teq c124).2 (rfl : 72 + 3 = 75) ?_
        refine g_iconst X123 hx hby (1 : Int32) at_75 (by decide) (rfl : 75 + 1 = 76) ?_
        refine g_goto X123 hx hby at_76 (by decide) (pc' := 80) (by decide) ?_
        refine g_istore X123 hx hby #[.val (.int x0), .val (.int x1), .val (.int x2), .val (.int (x0 &&& (2147483647 : Int32))), .val (.int (1 : Int32)), .val (.int (0 : Int32)), .val (.ref b101), .val (.int (1 : Int32)), .unset] at_80 rfl (rfl : 80 + 2 = 82) ?_
        refine g_aload X123 hx hby at_82 rfl rfl (rfl : 82 + 2 = 84) ?_
        obtain ⟨cq125, kq125, q125a, q125b, q125c⟩ := isOf hZ eq123 q121_0
        obtain ⟨_, _, ⟨T125, L125, k125, n125⟩, -, X125, ⟨Lc125, hQ125, l125, y125, z125⟩, st125⟩ := X123.virtualBack hx (y := (⟨"com/example/leanbough/leanbough/LlrbTreeMap$Node", "leftCount", "()I"⟩ : MethodName)) (z := (⟨"com/example/leanbough/leanbough/LlrbTreeMap$Node", "leftCount", "()I"⟩ : MethodName)) hown (mvT hZ (hw _ (List.mem_of_getElem? (i := 39) rfl))) (mvT hZ (hw _ (List.mem_of_getElem? (i := 40) rfl))) (notFace_of_selects (args := #[]) (mvT hZ (hw _ (List.mem_of_getElem? (i := 42) rfl)))) (mvT hZ (hw _ (List.mem_of_getElem? (i := 42) rfl))) (mvT hZ (hw _ (List.mem_of_getElem? (i := 41) rfl))) (by decide) (backOf (W := 0) (rm_lct l Z aT hw [] b101 (S_red (S_red (((-2147483648 : Int32) &&& (-2147483648 : Int32)) ||| (x0 &&& (2147483647 : Int32))) (1 : Int32)) (0 : Int32)) T121.heap n0 Z121 q121_1) hZ (hw _ (List.mem_of_getElem? (i := 43) rfl)) (hw _ (List.mem_of_getElem? (i := 3) rfl)) (by decide) (by decide)) q125a q125c (g := (mkF m 84 #[.val (.int x0), .val (.int x1), .val (.int x2), .val (.int (x0 &&& (2147483647 : Int32))), .val (.int (1 : Int32)), .val (.int (0 : Int32)), .val (.ref b101), .val (.int (1 : Int32)), .unset] [(.ref b101)])) rfl (by rw [hml]; rfl) (Steps.refl _) (argsL := []) (rest := []) (lenOf pd6 rfl) rfl (by show 2 * 0 + _ ≤ _; exact Nat.le_of_eq rfl) (hb hby at_84) (fun _ _ => ⟨rfl, eq123, (by decide : 2 + 0 ≤ _), (by decide : 6 + 0 ≤ _)⟩)
        dsimp only [Pt.U, Pt.locs, Pt.cells, Pt.slots] at X125 l125 y125 z125 st125 hQ125
        subst l125 y125 z125
        obtain ⟨rfl, N125q, eq125⟩ := hQ125
        have N125 := Fr.app N123 N125q
        refine own_tr st125 ?_
        show own_Got p e below _ T125 (mkF m 87 #[.val (.int x0), .val (.int x1), .val (.int x2), .val (.int (x0 &&& (2147483647 : Int32))), .val (.int (1 : Int32)), .val (.int (0 : Int32)), .val (.ref b101), .val (.int (1 : Int32)), .unset] [(.int (F_lct (S_red (S_red (((-2147483648 : Int32) &&& (-2147483648 : Int32)) ||| (x0 &&& (2147483647 : Int32))) (1 : Int32)) (0 : Int32))))])
        refine g_iloadN X125 hx hby at_87 rfl (rfl : 87 + 1 = 88) ?_
        by_cases c126 : (F_lct (S_red (S_red (((-2147483648 : Int32) &&& (-2147483648 : Int32)) ||| (x0 &&& (2147483647 : Int32))) (1 : Int32)) (0 : Int32))) = (x0 &&& (2147483647 : Int32))
        · refine g_icF X125 hx hby at_88 (teq c126).2 (rfl : 88 + 3 = 91) ?_
          refine g_iconst X125 hx hby (1 : Int32) at_91 (by decide) (rfl : 91 + 1 = 92) ?_
          refine g_goto X125 hx hby at_92 (by decide) (pc' := 96) (by decide) ?_
          refine g_istore X125 hx hby #[.val (.int x0), .val (.int x1), .val (.int x2), .val (.int (x0 &&& (2147483647 : Int32))), .val (.int (1 : Int32)), .val (.int (0 : Int32)), .val (.ref b101), .val (.int (1 : Int32)), .val (.int (1 : Int32))] at_96 rfl (rfl : 96 + 2 = 98) ?_
          refine g_iload X125 hx hby at_98 rfl (rfl : 98 + 2 = 100) ?_
          refine g_ifF X125 hx hby at_100 ((if0 _ _).trans (feq (by decide : ¬ ((1 : Int32) = (0 : Int32)))).1) (rfl : 100 + 3 = 103) ?_
          refine g_iload X125 hx hby at_103 rfl (rfl : 103 + 2 = 105) ?_
          refine g_ifF X125 hx hby at_105 ((if0 _ _).trans (feq (by decide : ¬ ((1 : Int32) = (0 : Int32)))).1) (rfl : 105 + 3 = 108) ?_
          refine g_iconst X125 hx hby (1 : Int32) at_108 (by decide) (rfl : 108 + 1 = 109) ?_
          refine g_goto X125 hx hby at_109 (by decide) (pc' := 113) (by decide) ?_
          refine own_retN X125 hx hby hlk (t := .boolean) hrt (by simp) at_113 (by decide) (by decide) ?_
          show Q_law Z x0 x1 x2 wc h0 n0 _ T125.heap _
          exact ⟨(congrArg (fun z => some (Value.int z)) (by rw [F_law, if_neg c42, if_pos c100, if_pos c124, if_pos c126] <;> rfl)), N125⟩
        · refine g_icT X125 hx hby at_88 (feq c126).2 (by decide) (pc' := 95) (by decide) ?_
          refine g_iconst X125 hx hby (0 : Int32) at_95 (by decide) (rfl : 95 + 1 = 96) ?_
          refine g_istore X125 hx hby #[.val (.int x0), .val (.int x1), .val (.int x2), .val (.int (x0 &&& (2147483647 : Int32))), .val (.int (1 : Int32)), .val (.int (0 : Int32)), .val (.ref b101), .val (.int (1 : Int32)), .val (.int (0 : Int32))] at_96 rfl (rfl : 96 + 2 = 98) ?_
          refine g_iload X125 hx hby at_98 rfl (rfl : 98 + 2 = 100) ?_
          refine g_ifF X125 hx hby at_100 ((if0 _ _).trans (feq (by decide : ¬ ((1 : Int32) = (0 : Int32)))).1) (rfl : 100 + 3 = 103) ?_
          refine g_iload X125 hx hby at_103 rfl (rfl : 103 + 2 = 105) ?_
          refine g_ifT X125 hx hby at_105 ((if0 _ _).trans (teq (by decide : (0 : Int32) = (0 : Int32))).1) (by decide) (pc' := 112) (by decide) ?_
          refine g_iconst X125 hx hby (0 : Int32) at_112 (by decide) (rfl : 112 + 1 = 113) ?_
          refine own_retN X125 hx hby hlk (t := .boolean) hrt (by simp) at_113 (by decide) (by decide) ?_
          show Q_law Z x0 x1 x2 wc h0 n0 _ T125.heap _
          exact ⟨(congrArg (fun z => some (Value.int z)) (by rw [F_law, if_neg c42, if_pos c100, if_pos c124, if_neg c126] <;> rfl)), N125⟩
      · refine g_icT X123 hx hby at_72 (feq c124).2 (by decide) (pc' := 79) (by decide) ?_
        refine g_iconst X123 hx hby (0 : Int32) at_79 (by decide) (rfl : 79 + 1 = 80) ?_
        refine g_istore X123 hx hby #[.val (.int x0), .val (.int x1), .val (.int x2), .val (.int (x0 &&& (2147483647 : Int32))), .val (.int (1 : Int32)), .val (.int (0 : Int32)), .val (.ref b101), .val (.int (0 : Int32)), .unset] at_80 rfl (rfl : 80 + 2 = 82) ?_
        refine g_aload X123 hx hby at_82 rfl rfl (rfl : 82 + 2 = 84) ?_
        obtain ⟨cq127, kq127, q127a, q127b, q127c⟩ := isOf hZ eq123 q121_0
        obtain ⟨_, _, ⟨T127, L127, k127, n127⟩, -, X127, ⟨Lc127, hQ127, l127, y127, z127⟩, st127⟩ := X123.virtualBack hx (y := (⟨"com/example/leanbough/leanbough/LlrbTreeMap$Node", "leftCount", "()I"⟩ : MethodName)) (z := (⟨"com/example/leanbough/leanbough/LlrbTreeMap$Node", "leftCount", "()I"⟩ : MethodName)) hown (mvT hZ (hw _ (List.mem_of_getElem? (i := 39) rfl))) (mvT hZ (hw _ (List.mem_of_getElem? (i := 40) rfl))) (notFace_of_selects (args := #[]) (mvT hZ (hw _ (List.mem_of_getElem? (i := 42) rfl)))) (mvT hZ (hw _ (List.mem_of_getElem? (i := 42) rfl))) (mvT hZ (hw _ (List.mem_of_getElem? (i := 41) rfl))) (by decide) (backOf (W := 0) (rm_lct l Z aT hw [] b101 (S_red (S_red (((-2147483648 : Int32) &&& (-2147483648 : Int32)) ||| (x0 &&& (2147483647 : Int32))) (1 : Int32)) (0 : Int32)) T121.heap n0 Z121 q121_1) hZ (hw _ (List.mem_of_getElem? (i := 43) rfl)) (hw _ (List.mem_of_getElem? (i := 3) rfl)) (by decide) (by decide)) q127a q127c (g := (mkF m 84 #[.val (.int x0), .val (.int x1), .val (.int x2), .val (.int (x0 &&& (2147483647 : Int32))), .val (.int (1 : Int32)), .val (.int (0 : Int32)), .val (.ref b101), .val (.int (0 : Int32)), .unset] [(.ref b101)])) rfl (by rw [hml]; rfl) (Steps.refl _) (argsL := []) (rest := []) (lenOf pd6 rfl) rfl (by show 2 * 0 + _ ≤ _; exact Nat.le_of_eq rfl) (hb hby at_84) (fun _ _ => ⟨rfl, eq123, (by decide : 2 + 0 ≤ _), (by decide : 6 + 0 ≤ _)⟩)
        dsimp only [Pt.U, Pt.locs, Pt.cells, Pt.slots] at X127 l127 y127 z127 st127 hQ127
        subst l127 y127 z127
        obtain ⟨rfl, N127q, eq127⟩ := hQ127
        have N127 := Fr.app N123 N127q
        refine own_tr st127 ?_
        show own_Got p e below _ T127 (mkF m 87 #[.val (.int x0), .val (.int x1), .val (.int x2), .val (.int (x0 &&& (2147483647 : Int32))), .val (.int (1 : Int32)), .val (.int (0 : Int32)), .val (.ref b101), .val (.int (0 : Int32)), .unset] [(.int (F_lct (S_red (S_red (((-2147483648 : Int32) &&& (-2147483648 : Int32)) ||| (x0 &&& (2147483647 : Int32))) (1 : Int32)) (0 : Int32))))])
        refine g_iloadN X127 hx hby at_87 rfl (rfl : 87 + 1 = 88) ?_
        by_cases c128 : (F_lct (S_red (S_red (((-2147483648 : Int32) &&& (-2147483648 : Int32)) ||| (x0 &&& (2147483647 : Int32))) (1 : Int32)) (0 : Int32))) = (x0 &&& (2147483647 : Int32))
        · refine g_icF X127 hx hby at_88 (teq c128).2 (rfl : 88 + 3 = 91) ?_
          refine g_iconst X127 hx hby (1 : Int32) at_91 (by decide) (rfl : 91 + 1 = 92) ?_
          refine g_goto X127 hx hby at_92 (by decide) (pc' := 96) (by decide) ?_
          refine g_istore X127 hx hby #[.val (.int x0), .val (.int x1), .val (.int x2), .val (.int (x0 &&& (2147483647 : Int32))), .val (.int (1 : Int32)), .val (.int (0 : Int32)), .val (.ref b101), .val (.int (0 : Int32)), .val (.int (1 : Int32))] at_96 rfl (rfl : 96 + 2 = 98) ?_
          refine g_iload X127 hx hby at_98 rfl (rfl : 98 + 2 = 100) ?_
          refine g_ifT X127 hx hby at_100 ((if0 _ _).trans (teq (by decide : (0 : Int32) = (0 : Int32))).1) (by decide) (pc' := 112) (by decide) ?_
          refine g_iconst X127 hx hby (0 : Int32) at_112 (by decide) (rfl : 112 + 1 = 113) ?_
          refine own_retN X127 hx hby hlk (t := .boolean) hrt (by simp) at_113 (by decide) (by decide) ?_
          show Q_law Z x0 x1 x2 wc h0 n0 _ T127.heap _
          exact ⟨(congrArg (fun z => some (Value.int z)) (by rw [F_law, if_neg c42, if_pos c100, if_neg c124, if_pos c128] <;> rfl)), N127⟩
        · refine g_icT X127 hx hby at_88 (feq c128).2 (by decide) (pc' := 95) (by decide) ?_
          refine g_iconst X127 hx hby (0 : Int32) at_95 (by decide) (rfl : 95 + 1 = 96) ?_
          refine g_istore X127 hx hby #[.val (.int x0), .val (.int x1), .val (.int x2), .val (.int (x0 &&& (2147483647 : Int32))), .val (.int (1 : Int32)), .val (.int (0 : Int32)), .val (.ref b101), .val (.int (0 : Int32)), .val (.int (0 : Int32))] at_96 rfl (rfl : 96 + 2 = 98) ?_
          refine g_iload X127 hx hby at_98 rfl (rfl : 98 + 2 = 100) ?_
          refine g_ifT X127 hx hby at_100 ((if0 _ _).trans (teq (by decide : (0 : Int32) = (0 : Int32))).1) (by decide) (pc' := 112) (by decide) ?_
          refine g_iconst X127 hx hby (0 : Int32) at_112 (by decide) (rfl : 112 + 1 = 113) ?_
          refine own_retN X127 hx hby hlk (t := .boolean) hrt (by simp) at_113 (by decide) (by decide) ?_
          show Q_law Z x0 x1 x2 wc h0 n0 _ T127.heap _
          exact ⟨(congrArg (fun z => some (Value.int z)) (by rw [F_law, if_neg c42, if_pos c100, if_neg c124, if_neg c128] <;> rfl)), N127⟩
    · refine g_ifF X0 hx hby at_21 ((if0 _ _).trans (feq c100).1) (rfl : 21 + 3 = 24) ?_
      refine g_iconst X0 hx hby (1 : Int32) at_24 (by decide) (rfl : 24 + 1 = 25) ?_
      refine g_goto X0 hx hby at_25 (by decide) (pc' := 29) (by decide) ?_
      refine g_istore X0 hx hby #[.val (.int x0), .val (.int x1), .val (.int x2), .val (.int (x0 &&& (2147483647 : Int32))), .val (.int (1 : Int32)), .val (.int (1 : Int32)), .unset, .unset, .unset] at_29 rfl (rfl : 29 + 2 = 31) ?_
      obtain ⟨T129, h129, X129, e129, E129, A129, D129, -, st129⟩ := newO X0 hx hZ hown (hw _ (List.mem_of_getElem? (i := 1) rfl)) (hw _ (List.mem_of_getElem? (i := 2) rfl)) (hw _ (List.mem_of_getElem? (i := 3) rfl)) e0 (g := (mkF m 31 #[.val (.int x0), .val (.int x1), .val (.int x2), .val (.int (x0 &&& (2147483647 : Int32))), .val (.int (1 : Int32)), .val (.int (1 : Int32)), .unset, .unset, .unset] [])) rfl (hb hby at_31) (by decide) (by decide)
      obtain ⟨b129, g129⟩ : ∃ z, z = h0.size := ⟨_, rfl⟩
      rw [← g129] at A129 D129 st129
      have ne130 : wc ≠ b129 := Nat.ne_of_lt (Nat.lt_of_lt_of_le (hp2).lt (Nat.le_of_eq g129.symm))
      have Z129 : n0 ≤ h129.size := Nat.le_trans Z0 E129.1
      have ge129 : n0 ≤ b129 := Nat.le_trans Z0 (Nat.le_of_eq g129.symm)
      have f131 : Fld Z h129 b129 "com/example/leanbough/leanbough/LlrbTreeMap$Node" "key" "Ljava/lang/Object;" .null := D129 (Or.inr (hw _ (List.mem_of_getElem? (i := 18) rfl))) (ty := (.object "java/lang/Object")) (by decide)
      have f132 : Fld Z h129 b129 "com/example/leanbough/leanbough/LlrbTreeMap$Node" "value" "Ljava/lang/Object;" .null := D129 (Or.inl (hw _ (List.mem_of_getElem? (i := 20) rfl))) (ty := (.object "java/lang/Object")) (by decide)
      have f133 : Fld Z h129 b129 "com/example/leanbough/leanbough/LlrbTreeMap$Node" "colourAndLeftCount" "I" (.int (0 : Int32)) := D129 (Or.inl (hw _ (List.mem_of_getElem? (i := 23) rfl))) (ty := .int) (by decide)
      refine own_go st129 ?_
      show own_Got p e below _ T129 (mkF m 34 #[.val (.int x0), .val (.int x1), .val (.int x2), .val (.int (x0 &&& (2147483647 : Int32))), .val (.int (1 : Int32)), .val (.int (1 : Int32)), .unset, .unset, .unset] [(.ref b129)])
      refine g_dup X129 hx hby at_34 rfl (rfl : 34 + 1 = 35) ?_
      refine g_iloadN X129 hx hby at_35 rfl (rfl : 35 + 1 = 36) ?_
      have f135 : Sta Z h129 "java/lang/Integer$IntegerCache" "high" "I" (.int (127 : Int32)) := (Sta.ext E129 hp0)
      have f136 : Sta Z h129 "java/lang/Integer$IntegerCache" "cache" "[Ljava/lang/Integer;" (.ref wc) := (Sta.ext E129 hp1)
      have f137 : Exa Z h129 wc "[Ljava/lang/Integer;" := (Exa.ext E129 hp2)
      have f138 : own_IC Z h129 wc := (own_IC_ext hp3 E129)
      obtain ⟨_, _, ⟨T134, L134, k134, n134⟩, -, X134, ⟨Lc134, hQ134, l134, y134, z134⟩, st134⟩ := Jvm.LawKit.callS X129 hx (y := (⟨"java/lang/Integer", "valueOf", "(I)Ljava/lang/Integer;"⟩ : MethodName)) hown (mvT hZ (hw _ (List.mem_of_getElem? (i := 4) rfl))) (mvT hZ (hw _ (List.mem_of_getElem? (i := 5) rfl))) (mvT hZ (hw _ (List.mem_of_getElem? (i := 6) rfl))) (mvT hZ (hw _ (List.mem_of_getElem? (i := 7) rfl))) (by decide) (backOf (W := 2) (rm_vof l Z aT hw [] x2 wc h129 n0 Z129 f135 f136 f137 f138) hZ (hw _ (List.mem_of_getElem? (i := 7) rfl)) (hw _ (List.mem_of_getElem? (i := 6) rfl)) (by decide) (by decide)) (g := (mkF m 36 #[.val (.int x0), .val (.int x1), .val (.int x2), .val (.int (x0 &&& (2147483647 : Int32))), .val (.int (1 : Int32)), .val (.int (1 : Int32)), .unset, .unset, .unset] [(.int x2), (.ref b129), (.ref b129)])) rfl (by rw [hml]; rfl) (argsL := [(.int x2)]) (rest := [(.ref b129), (.ref b129)]) (lenOf pd2 rfl) rfl (by show 2 * 0 + _ ≤ _; exact Nat.le_of_eq rfl) (hb hby at_36) (fun _ _ => ⟨rfl, e129, (by decide : 1 + 1 ≤ _), (by decide : 5 + 1 ≤ _)⟩)
      dsimp only [Pt.U, Pt.locs, Pt.cells, Pt.slots] at X134 l134 y134 z134 st134 hQ134
      subst l134 y134 z134
      obtain ⟨r_134, rfl, N134q, K134⟩ := hQ134
      have N134 := Fr.app N0 N134q
      have Z134 : n0 ≤ T134.heap.size := Nat.le_trans Z129 K134.1
      refine own_go st134 ?_
      show own_Got p e below _ T134 (mkF m 39 #[.val (.int x0), .val (.int x1), .val (.int x2), .val (.int (x0 &&& (2147483647 : Int32))), .val (.int (1 : Int32)), .val (.int (1 : Int32)), .unset, .unset, .unset] [(.ref r_134), (.ref b129), (.ref b129)])
      refine g_anull X134 hx hby at_39 (rfl : 39 + 1 = 40) ?_
      have f140 : Exa Z T134.heap b129 "com/example/leanbough/leanbough/LlrbTreeMap$Node" := (Exa.keep A129 K134)
      have f141 : Fld Z T134.heap b129 "com/example/leanbough/leanbough/LlrbTreeMap$Node" "key" "Ljava/lang/Object;" .null := (Fld.keep f131 K134 nin0)
      have f142 : Fld Z T134.heap b129 "com/example/leanbough/leanbough/LlrbTreeMap$Node" "value" "Ljava/lang/Object;" .null := (Fld.keep f132 K134 nin0)
      have f143 : Fld Z T134.heap b129 "com/example/leanbough/leanbough/LlrbTreeMap$Node" "colourAndLeftCount" "I" (.int (0 : Int32)) := (Fld.keep f133 K134 nin0)
      have f144 : Exa Z T134.heap wc "[Ljava/lang/Integer;" := (Exa.keep f137 K134)
      obtain ⟨_, _, ⟨T139, L139, k139, n139⟩, -, X139, ⟨Lc139, hQ139, l139, y139, z139⟩, st139⟩ := X134.specialBack hx (y := (⟨"com/example/leanbough/leanbough/LlrbTreeMap$Node", "<init>", "(Ljava/lang/Object;Ljava/lang/Object;)V"⟩ : MethodName)) rfl hown (mvT hZ (hw _ (List.mem_of_getElem? (i := 11) rfl))) (mvT hZ (hw _ (List.mem_of_getElem? (i := 12) rfl))) (mvT hZ (hw _ (List.mem_of_getElem? (i := 13) rfl))) (by decide) (backOf (W := 1) (rm_ini l Z aT hw [] b129 r_134 T134.heap n0 Z134 f140 f141 f142 f143 ge129) hZ (hw _ (List.mem_of_getElem? (i := 13) rfl)) (hw _ (List.mem_of_getElem? (i := 3) rfl)) (by decide) (by decide)) (g := (mkF m 40 #[.val (.int x0), .val (.int x1), .val (.int x2), .val (.int (x0 &&& (2147483647 : Int32))), .val (.int (1 : Int32)), .val (.int (1 : Int32)), .unset, .unset, .unset] [.null, (.ref r_134), (.ref b129), (.ref b129)])) rfl (by rw [hml]; rfl) (Steps.refl _) (a := b129) (argsL := [(.ref r_134), .null]) (rest := [(.ref b129)]) (lenOf pd3 rfl) rfl (by show 2 * 0 + _ ≤ _; exact Nat.le_of_eq rfl) (hb hby at_40) (fun _ _ => ⟨rfl, rfl, (by decide : 2 + 0 ≤ _), (by decide : 6 + 0 ≤ _)⟩)
      dsimp only [Pt.U, Pt.locs, Pt.cells, Pt.slots] at X139 l139 y139 z139 st139 hQ139
      subst l139 y139 z139
      obtain ⟨rfl, N139q, K139, q139_0, q139_1⟩ := hQ139
      have N139 := Fr.app N134 N139q
      have Z139 : n0 ≤ T139.heap.size := Nat.le_trans Z134 K139.1
      refine own_tr st139 ?_
      show own_Got p e below _ T139 (mkF m 43 #[.val (.int x0), .val (.int x1), .val (.int x2), .val (.int (x0 &&& (2147483647 : Int32))), .val (.int (1 : Int32)), .val (.int (1 : Int32)), .unset, .unset, .unset] [(.ref b129)])
      refine g_astore X139 hx hby #[.val (.int x0), .val (.int x1), .val (.int x2), .val (.int (x0 &&& (2147483647 : Int32))), .val (.int (1 : Int32)), .val (.int (1 : Int32)), .val (.ref b129), .unset, .unset] at_43 rfl rfl (rfl : 43 + 2 = 45) ?_
      refine g_aload X139 hx hby at_45 rfl rfl (rfl : 45 + 2 = 47) ?_
      refine g_iloadN X139 hx hby at_47 rfl (rfl : 47 + 1 = 48) ?_
      have f146 : Exa Z T139.heap wc "[Ljava/lang/Integer;" := (Exa.keep f144 K139)
      obtain ⟨cq145, kq145, q145a, q145b, q145c⟩ := isOf hZ rfl q139_0
      obtain ⟨_, _, ⟨T145, L145, k145, n145⟩, -, X145, ⟨Lc145, hQ145, l145, y145, z145⟩, st145⟩ := X139.virtualBack hx (y := (⟨"com/example/leanbough/leanbough/LlrbTreeMap$Node", "setLeftCount", "(I)V"⟩ : MethodName)) (z := (⟨"com/example/leanbough/leanbough/LlrbTreeMap$Node", "setLeftCount", "(I)V"⟩ : MethodName)) hown (mvT hZ (hw _ (List.mem_of_getElem? (i := 24) rfl))) (mvT hZ (hw _ (List.mem_of_getElem? (i := 25) rfl))) (notFace_of_selects (args := #[]) (mvT hZ (hw _ (List.mem_of_getElem? (i := 27) rfl)))) (mvT hZ (hw _ (List.mem_of_getElem? (i := 27) rfl))) (mvT hZ (hw _ (List.mem_of_getElem? (i := 26) rfl))) (by decide) (backOf (W := 0) (rm_slc l Z aT hw [] b129 (x0 &&& (2147483647 : Int32)) (-2147483648 : Int32) T139.heap n0 Z139 q139_0 q139_1 ge129) hZ (hw _ (List.mem_of_getElem? (i := 28) rfl)) (hw _ (List.mem_of_getElem? (i := 3) rfl)) (by decide) (by decide)) q145a q145c (g := (mkF m 48 #[.val (.int x0), .val (.int x1), .val (.int x2), .val (.int (x0 &&& (2147483647 : Int32))), .val (.int (1 : Int32)), .val (.int (1 : Int32)), .val (.ref b129), .unset, .unset] [(.int (x0 &&& (2147483647 : Int32))), (.ref b129)])) rfl (by rw [hml]; rfl) (Steps.refl _) (argsL := [(.int (x0 &&& (2147483647 : Int32)))]) (rest := []) (lenOf pd1 rfl) rfl (by show 2 * 0 + _ ≤ _; exact Nat.le_of_eq rfl) (hb hby at_48) (fun _ _ => ⟨rfl, rfl, (by decide : 2 + 0 ≤ _), (by decide : 6 + 0 ≤ _)⟩)
      dsimp only [Pt.U, Pt.locs, Pt.cells, Pt.slots] at X145 l145 y145 z145 st145 hQ145
      subst l145 y145 z145
      obtain ⟨rfl, N145q, K145, q145_0, q145_1⟩ := hQ145
      have N145 := Fr.app N139 N145q
      have Z145 : n0 ≤ T145.heap.size := Nat.le_trans Z139 K145.1
      refine own_tr st145 ?_
      show own_Got p e below _ T145 (mkF m 51 #[.val (.int x0), .val (.int x1), .val (.int x2), .val (.int (x0 &&& (2147483647 : Int32))), .val (.int (1 : Int32)), .val (.int (1 : Int32)), .val (.ref b129), .unset, .unset] [])
      refine g_aload X145 hx hby at_51 rfl rfl (rfl : 51 + 2 = 53) ?_
      refine g_iload X145 hx hby at_53 rfl (rfl : 53 + 2 = 55) ?_
      have f148 : Exa Z T145.heap wc "[Ljava/lang/Integer;" := (Exa.keep f146 K145)
      obtain ⟨cq147, kq147, q147a, q147b, q147c⟩ := isOf hZ rfl q145_0
      obtain ⟨_, _, ⟨T147, L147, k147, n147⟩, -, X147, ⟨Lc147, hQ147, l147, y147, z147⟩, st147⟩ := X145.virtualBack hx (y := (⟨"com/example/leanbough/leanbough/LlrbTreeMap$Node", "setRed", "(Z)V"⟩ : MethodName)) (z := (⟨"com/example/leanbough/leanbough/LlrbTreeMap$Node", "setRed", "(Z)V"⟩ : MethodName)) hown (mvT hZ (hw _ (List.mem_of_getElem? (i := 29) rfl))) (mvT hZ (hw _ (List.mem_of_getElem? (i := 30) rfl))) (notFace_of_selects (args := #[]) (mvT hZ (hw _ (List.mem_of_getElem? (i := 32) rfl)))) (mvT hZ (hw _ (List.mem_of_getElem? (i := 32) rfl))) (mvT hZ (hw _ (List.mem_of_getElem? (i := 31) rfl))) (by decide) (backOf (W := 0) (rm_srd l Z aT hw [] b129 (1 : Int32) (((-2147483648 : Int32) &&& (-2147483648 : Int32)) ||| (x0 &&& (2147483647 : Int32))) T145.heap n0 Z145 q145_0 q145_1 ge129) hZ (hw _ (List.mem_of_getElem? (i := 33) rfl)) (hw _ (List.mem_of_getElem? (i := 3) rfl)) (by decide) (by decide)) q147a q147c (g := (mkF m 55 #[.val (.int x0), .val (.int x1), .val (.int x2), .val (.int (x0 &&& (2147483647 : Int32))), .val (.int (1 : Int32)), .val (.int (1 : Int32)), .val (.ref b129), .unset, .unset] [(.int (1 : Int32)), (.ref b129)])) rfl (by rw [hml]; rfl) (Steps.refl _) (argsL := [(.int (1 : Int32))]) (rest := []) (lenOf pd4 rfl) rfl (by show 2 * 0 + _ ≤ _; exact Nat.le_of_eq rfl) (hb hby at_55) (fun _ _ => ⟨rfl, rfl, (by decide : 2 + 0 ≤ _), (by decide : 6 + 0 ≤ _)⟩)
      dsimp only [Pt.U, Pt.locs, Pt.cells, Pt.slots] at X147 l147 y147 z147 st147 hQ147
      subst l147 y147 z147
      obtain ⟨rfl, N147q, K147, q147_0, q147_1⟩ := hQ147
      have N147 := Fr.app N145 N147q
      have Z147 : n0 ≤ T147.heap.size := Nat.le_trans Z145 K147.1
      refine own_tr st147 ?_
      show own_Got p e below _ T147 (mkF m 58 #[.val (.int x0), .val (.int x1), .val (.int x2), .val (.int (x0 &&& (2147483647 : Int32))), .val (.int (1 : Int32)), .val (.int (1 : Int32)), .val (.ref b129), .unset, .unset] [])
      refine g_aload X147 hx hby at_58 rfl rfl (rfl : 58 + 2 = 60) ?_
      refine g_iload X147 hx hby at_60 rfl (rfl : 60 + 2 = 62) ?_
      have f150 : Exa Z T147.heap wc "[Ljava/lang/Integer;" := (Exa.keep f148 K147)
      obtain ⟨cq149, kq149, q149a, q149b, q149c⟩ := isOf hZ rfl q147_0
      obtain ⟨_, _, ⟨T149, L149, k149, n149⟩, -, X149, ⟨Lc149, hQ149, l149, y149, z149⟩, st149⟩ := X147.virtualBack hx (y := (⟨"com/example/leanbough/leanbough/LlrbTreeMap$Node", "setRed", "(Z)V"⟩ : MethodName)) (z := (⟨"com/example/leanbough/leanbough/LlrbTreeMap$Node", "setRed", "(Z)V"⟩ : MethodName)) hown (mvT hZ (hw _ (List.mem_of_getElem? (i := 29) rfl))) (mvT hZ (hw _ (List.mem_of_getElem? (i := 30) rfl))) (notFace_of_selects (args := #[]) (mvT hZ (hw _ (List.mem_of_getElem? (i := 32) rfl)))) (mvT hZ (hw _ (List.mem_of_getElem? (i := 32) rfl))) (mvT hZ (hw _ (List.mem_of_getElem? (i := 31) rfl))) (by decide) (backOf (W := 0) (rm_srd l Z aT hw [] b129 (1 : Int32) (S_red (((-2147483648 : Int32) &&& (-2147483648 : Int32)) ||| (x0 &&& (2147483647 : Int32))) (1 : Int32)) T147.heap n0 Z147 q147_0 q147_1 ge129) hZ (hw _ (List.mem_of_getElem? (i := 33) rfl)) (hw _ (List.mem_of_getElem? (i := 3) rfl)) (by decide) (by decide)) q149a q149c (g := (mkF m 62 #[.val (.int x0), .val (.int x1), .val (.int x2), .val (.int (x0 &&& (2147483647 : Int32))), .val (.int (1 : Int32)), .val (.int (1 : Int32)), .val (.ref b129), .unset, .unset] [(.int (1 : Int32)), (.ref b129)])) rfl (by rw [hml]; rfl) (Steps.refl _) (argsL := [(.int (1 : Int32))]) (rest := []) (lenOf pd4 rfl) rfl (by show 2 * 0 + _ ≤ _; exact Nat.le_of_eq rfl) (hb hby at_62) (fun _ _ => ⟨rfl, rfl, (by decide : 2 + 0 ≤ _), (by decide : 6 + 0 ≤ _)⟩)
      dsimp only [Pt.U, Pt.locs, Pt.cells, Pt.slots] at X149 l149 y149 z149 st149 hQ149
      subst l149 y149 z149
      obtain ⟨rfl, N149q, K149, q149_0, q149_1⟩ := hQ149
      have N149 := Fr.app N147 N149q
      have Z149 : n0 ≤ T149.heap.size := Nat.le_trans Z147 K149.1
      refine own_tr st149 ?_
      show own_Got p e below _ T149 (mkF m 65 #[.val (.int x0), .val (.int x1), .val (.int x2), .val (.int (x0 &&& (2147483647 : Int32))), .val (.int (1 : Int32)), .val (.int (1 : Int32)), .val (.ref b129), .unset, .unset] [])
      refine g_aload X149 hx hby at_65 rfl rfl (rfl : 65 + 2 = 67) ?_
      obtain ⟨cq151, kq151, q151a, q151b, q151c⟩ := isOf hZ rfl q149_0
      obtain ⟨_, _, ⟨T151, L151, k151, n151⟩, -, X151, ⟨Lc151, hQ151, l151, y151, z151⟩, st151⟩ := X149.virtualBack hx (y := (⟨"com/example/leanbough/leanbough/LlrbTreeMap$Node", "red", "()Z"⟩ : MethodName)) (z := (⟨"com/example/leanbough/leanbough/LlrbTreeMap$Node", "red", "()Z"⟩ : MethodName)) hown (mvT hZ (hw _ (List.mem_of_getElem? (i := 34) rfl))) (mvT hZ (hw _ (List.mem_of_getElem? (i := 35) rfl))) (notFace_of_selects (args := #[]) (mvT hZ (hw _ (List.mem_of_getElem? (i := 37) rfl)))) (mvT hZ (hw _ (List.mem_of_getElem? (i := 37) rfl))) (mvT hZ (hw _ (List.mem_of_getElem? (i := 36) rfl))) (by decide) (backOf (W := 0) (rm_red l Z aT hw [] b129 (S_red (S_red (((-2147483648 : Int32) &&& (-2147483648 : Int32)) ||| (x0 &&& (2147483647 : Int32))) (1 : Int32)) (1 : Int32)) T149.heap n0 Z149 q149_1) hZ (hw _ (List.mem_of_getElem? (i := 38) rfl)) (hw _ (List.mem_of_getElem? (i := 3) rfl)) (by decide) (by decide)) q151a q151c (g := (mkF m 67 #[.val (.int x0), .val (.int x1), .val (.int x2), .val (.int (x0 &&& (2147483647 : Int32))), .val (.int (1 : Int32)), .val (.int (1 : Int32)), .val (.ref b129), .unset, .unset] [(.ref b129)])) rfl (by rw [hml]; rfl) (Steps.refl _) (argsL := []) (rest := []) (lenOf pd5 rfl) rfl (by show 2 * 0 + _ ≤ _; exact Nat.le_of_eq rfl) (hb hby at_67) (fun _ _ => ⟨rfl, rfl, (by decide : 2 + 0 ≤ _), (by decide : 6 + 0 ≤ _)⟩)
      dsimp only [Pt.U, Pt.locs, Pt.cells, Pt.slots] at X151 l151 y151 z151 st151 hQ151
      subst l151 y151 z151
      obtain ⟨rfl, N151q, eq151⟩ := hQ151
      have N151 := Fr.app N149 N151q
      refine own_tr st151 ?_
      show own_Got p e below _ T151 (mkF m 70 #[.val (.int x0), .val (.int x1), .val (.int x2), .val (.int (x0 &&& (2147483647 : Int32))), .val (.int (1 : Int32)), .val (.int (1 : Int32)), .val (.ref b129), .unset, .unset] [(.int (F_red (S_red (S_red (((-2147483648 : Int32) &&& (-2147483648 : Int32)) ||| (x0 &&& (2147483647 : Int32))) (1 : Int32)) (1 : Int32))))])
      refine g_iload X151 hx hby at_70 rfl (rfl : 70 + 2 = 72) ?_
      by_cases c152 : (F_red (S_red (S_red (((-2147483648 : Int32) &&& (-2147483648 : Int32)) ||| (x0 &&& (2147483647 : Int32))) (1 : Int32)) (1 : Int32))) = (1 : Int32)
      · refine g_icF X151 hx hby at_72 (teq c152).2 (rfl : 72 + 3 = 75) ?_
        refine g_iconst X151 hx hby (1 : Int32) at_75 (by decide) (rfl : 75 + 1 = 76) ?_
        refine g_goto X151 hx hby at_76 (by decide) (pc' := 80) (by decide) ?_
        refine g_istore X151 hx hby #[.val (.int x0), .val (.int x1), .val (.int x2), .val (.int (x0 &&& (2147483647 : Int32))), .val (.int (1 : Int32)), .val (.int (1 : Int32)), .val (.ref b129), .val (.int (1 : Int32)), .unset] at_80 rfl (rfl : 80 + 2 = 82) ?_
        refine g_aload X151 hx hby at_82 rfl rfl (rfl : 82 + 2 = 84) ?_
        obtain ⟨cq153, kq153, q153a, q153b, q153c⟩ := isOf hZ eq151 q149_0
        obtain ⟨_, _, ⟨T153, L153, k153, n153⟩, -, X153, ⟨Lc153, hQ153, l153, y153, z153⟩, st153⟩ := X151.virtualBack hx (y := (⟨"com/example/leanbough/leanbough/LlrbTreeMap$Node", "leftCount", "()I"⟩ : MethodName)) (z := (⟨"com/example/leanbough/leanbough/LlrbTreeMap$Node", "leftCount", "()I"⟩ : MethodName)) hown (mvT hZ (hw _ (List.mem_of_getElem? (i := 39) rfl))) (mvT hZ (hw _ (List.mem_of_getElem? (i := 40) rfl))) (notFace_of_selects (args := #[]) (mvT hZ (hw _ (List.mem_of_getElem? (i := 42) rfl)))) (mvT hZ (hw _ (List.mem_of_getElem? (i := 42) rfl))) (mvT hZ (hw _ (List.mem_of_getElem? (i := 41) rfl))) (by decide) (backOf (W := 0) (rm_lct l Z aT hw [] b129 (S_red (S_red (((-2147483648 : Int32) &&& (-2147483648 : Int32)) ||| (x0 &&& (2147483647 : Int32))) (1 : Int32)) (1 : Int32)) T149.heap n0 Z149 q149_1) hZ (hw _ (List.mem_of_getElem? (i := 43) rfl)) (hw _ (List.mem_of_getElem? (i := 3) rfl)) (by decide) (by decide)) q153a q153c (g := (mkF m 84 #[.val (.int x0), .val (.int x1), .val (.int x2), .val (.int (x0 &&& (2147483647 : Int32))), .val (.int (1 : Int32)), .val (.int (1 : Int32)), .val (.ref b129), .val (.int (1 : Int32)), .unset] [(.ref b129)])) rfl (by rw [hml]; rfl) (Steps.refl _) (argsL := []) (rest := []) (lenOf pd6 rfl) rfl (by show 2 * 0 + _ ≤ _; exact Nat.le_of_eq rfl) (hb hby at_84) (fun _ _ => ⟨rfl, eq151, (by decide : 2 + 0 ≤ _), (by decide : 6 + 0 ≤ _)⟩)
        dsimp only [Pt.U, Pt.locs, Pt.cells, Pt.slots] at X153 l153 y153 z153 st153 hQ153
        subst l153 y153 z153
        obtain ⟨rfl, N153q, eq153⟩ := hQ153
        have N153 := Fr.app N151 N153q
        refine own_tr st153 ?_
        show own_Got p e below _ T153 (mkF m 87 #[.val (.int x0), .val (.int x1), .val (.int x2), .val (.int (x0 &&& (2147483647 : Int32))), .val (.int (1 : Int32)), .val (.int (1 : Int32)), .val (.ref b129), .val (.int (1 : Int32)), .unset] [(.int (F_lct (S_red (S_red (((-2147483648 : Int32) &&& (-2147483648 : Int32)) ||| (x0 &&& (2147483647 : Int32))) (1 : Int32)) (1 : Int32))))])
        refine g_iloadN X153 hx hby at_87 rfl (rfl : 87 + 1 = 88) ?_
        by_cases c154 : (F_lct (S_red (S_red (((-2147483648 : Int32) &&& (-2147483648 : Int32)) ||| (x0 &&& (2147483647 : Int32))) (1 : Int32)) (1 : Int32))) = (x0 &&& (2147483647 : Int32))
        · refine g_icF X153 hx hby at_88 (teq c154).2 (rfl : 88 + 3 = 91) ?_
          refine g_iconst X153 hx hby (1 : Int32) at_91 (by decide) (rfl : 91 + 1 = 92) ?_
          refine g_goto X153 hx hby at_92 (by decide) (pc' := 96) (by decide) ?_
          refine g_istore X153 hx hby #[.val (.int x0), .val (.int x1), .val (.int x2), .val (.int (x0 &&& (2147483647 : Int32))), .val (.int (1 : Int32)), .val (.int (1 : Int32)), .val (.ref b129), .val (.int (1 : Int32)), .val (.int (1 : Int32))] at_96 rfl (rfl : 96 + 2 = 98) ?_
          refine g_iload X153 hx hby at_98 rfl (rfl : 98 + 2 = 100) ?_
          refine g_ifF X153 hx hby at_100 ((if0 _ _).trans (feq (by decide : ¬ ((1 : Int32) = (0 : Int32)))).1) (rfl : 100 + 3 = 103) ?_
          refine g_iload X153 hx hby at_103 rfl (rfl : 103 + 2 = 105) ?_
          refine g_ifF X153 hx hby at_105 ((if0 _ _).trans (feq (by decide : ¬ ((1 : Int32) = (0 : Int32)))).1) (rfl : 105 + 3 = 108) ?_
          refine g_iconst X153 hx hby (1 : Int32) at_108 (by decide) (rfl : 108 + 1 = 109) ?_
          refine g_goto X153 hx hby at_109 (by decide) (pc' := 113) (by decide) ?_
          refine own_retN X153 hx hby hlk (t := .boolean) hrt (by simp) at_113 (by decide) (by decide) ?_
          show Q_law Z x0 x1 x2 wc h0 n0 _ T153.heap _
          exact ⟨(congrArg (fun z => some (Value.int z)) (by rw [F_law, if_neg c42, if_neg c100, if_pos c152, if_pos c154] <;> rfl)), N153⟩
        · refine g_icT X153 hx hby at_88 (feq c154).2 (by decide) (pc' := 95) (by decide) ?_
          refine g_iconst X153 hx hby (0 : Int32) at_95 (by decide) (rfl : 95 + 1 = 96) ?_
          refine g_istore X153 hx hby #[.val (.int x0), .val (.int x1), .val (.int x2), .val (.int (x0 &&& (2147483647 : Int32))), .val (.int (1 : Int32)), .val (.int (1 : Int32)), .val (.ref b129), .val (.int (1 : Int32)), .val (.int (0 : Int32))] at_96 rfl (rfl : 96 + 2 = 98) ?_
          refine g_iload X153 hx hby at_98 rfl (rfl : 98 + 2 = 100) ?_
          refine g_ifF X153 hx hby at_100 ((if0 _ _).trans (feq (by decide : ¬ ((1 : Int32) = (0 : Int32)))).1) (rfl : 100 + 3 = 103) ?_
          refine g_iload X153 hx hby at_103 rfl (rfl : 103 + 2 = 105) ?_
          refine g_ifT X153 hx hby at_105 ((if0 _ _).trans (teq (by decide : (0 : Int32) = (0 : Int32))).1) (by decide) (pc' := 112) (by decide) ?_
          refine g_iconst X153 hx hby (0 : Int32) at_112 (by decide) (rfl : 112 + 1 = 113) ?_
          refine own_retN X153 hx hby hlk (t := .boolean) hrt (by simp) at_113 (by decide) (by decide) ?_
          show Q_law Z x0 x1 x2 wc h0 n0 _ T153.heap _
          exact ⟨(congrArg (fun z => some (Value.int z)) (by rw [F_law, if_neg c42, if_neg c100, if_pos c152, if_neg c154] <;> rfl)), N153⟩
      · refine g_icT X151 hx hby at_72 (feq c152).2 (by decide) (pc' := 79) (by decide) ?_
        refine g_iconst X151 hx hby (0 : Int32) at_79 (by decide) (rfl : 79 + 1 = 80) ?_
        refine g_istore X151 hx hby #[.val (.int x0), .val (.int x1), .val (.int x2), .val (.int (x0 &&& (2147483647 : Int32))), .val (.int (1 : Int32)), .val (.int (1 : Int32)), .val (.ref b129), .val (.int (0 : Int32)), .unset] at_80 rfl (rfl : 80 + 2 = 82) ?_
        refine g_aload X151 hx hby at_82 rfl rfl (rfl : 82 + 2 = 84) ?_
        obtain ⟨cq155, kq155, q155a, q155b, q155c⟩ := isOf hZ eq151 q149_0
        obtain ⟨_, _, ⟨T155, L155, k155, n155⟩, -, X155, ⟨Lc155, hQ155, l155, y155, z155⟩, st155⟩ := X151.virtualBack hx (y := (⟨"com/example/leanbough/leanbough/LlrbTreeMap$Node", "leftCount", "()I"⟩ : MethodName)) (z := (⟨"com/example/leanbough/leanbough/LlrbTreeMap$Node", "leftCount", "()I"⟩ : MethodName)) hown (mvT hZ (hw _ (List.mem_of_getElem? (i := 39) rfl))) (mvT hZ (hw _ (List.mem_of_getElem? (i := 40) rfl))) (notFace_of_selects (args := #[]) (mvT hZ (hw _ (List.mem_of_getElem? (i := 42) rfl)))) (mvT hZ (hw _ (List.mem_of_getElem? (i := 42) rfl))) (mvT hZ (hw _ (List.mem_of_getElem? (i := 41) rfl))) (by decide) (backOf (W := 0) (rm_lct l Z aT hw [] b129 (S_red (S_red (((-2147483648 : Int32) &&& (-2147483648 : Int32)) ||| (x0 &&& (2147483647 : Int32))) (1 : Int32)) (1 : Int32)) T149.heap n0 Z149 q149_1) hZ (hw _ (List.mem_of_getElem? (i := 43) rfl)) (hw _ (List.mem_of_getElem? (i := 3) rfl)) (by decide) (by decide)) q155a q155c (g := (mkF m 84 #[.val (.int x0), .val (.int x1), .val (.int x2), .val (.int (x0 &&& (2147483647 : Int32))), .val (.int (1 : Int32)), .val (.int (1 : Int32)), .val (.ref b129), .val (.int (0 : Int32)), .unset] [(.ref b129)])) rfl (by rw [hml]; rfl) (Steps.refl _) (argsL := []) (rest := []) (lenOf pd6 rfl) rfl (by show 2 * 0 + _ ≤ _; exact Nat.le_of_eq rfl) (hb hby at_84) (fun _ _ => ⟨rfl, eq151, (by decide : 2 + 0 ≤ _), (by decide : 6 + 0 ≤ _)⟩)
        dsimp only [Pt.U, Pt.locs, Pt.cells, Pt.slots] at X155 l155 y155 z155 st155 hQ155
        subst l155 y155 z155
        obtain ⟨rfl, N155q, eq155⟩ := hQ155
        have N155 := Fr.app N151 N155q
        refine own_tr st155 ?_
        show own_Got p e below _ T155 (mkF m 87 #[.val (.int x0), .val (.int x1), .val (.int x2), .val (.int (x0 &&& (2147483647 : Int32))), .val (.int (1 : Int32)), .val (.int (1 : Int32)), .val (.ref b129), .val (.int (0 : Int32)), .unset] [(.int (F_lct (S_red (S_red (((-2147483648 : Int32) &&& (-2147483648 : Int32)) ||| (x0 &&& (2147483647 : Int32))) (1 : Int32)) (1 : Int32))))])
        refine g_iloadN X155 hx hby at_87 rfl (rfl : 87 + 1 = 88) ?_
        by_cases c156 : (F_lct (S_red (S_red (((-2147483648 : Int32) &&& (-2147483648 : Int32)) ||| (x0 &&& (2147483647 : Int32))) (1 : Int32)) (1 : Int32))) = (x0 &&& (2147483647 : Int32))
        · refine g_icF X155 hx hby at_88 (teq c156).2 (rfl : 88 + 3 = 91) ?_
          refine g_iconst X155 hx hby (1 : Int32) at_91 (by decide) (rfl : 91 + 1 = 92) ?_
          refine g_goto X155 hx hby at_92 (by decide) (pc' := 96) (by decide) ?_
          refine g_istore X155 hx hby #[.val (.int x0), .val (.int x1), .val (.int x2), .val (.int (x0 &&& (2147483647 : Int32))), .val (.int (1 : Int32)), .val (.int (1 : Int32)), .val (.ref b129), .val (.int (0 : Int32)), .val (.int (1 : Int32))] at_96 rfl (rfl : 96 + 2 = 98) ?_
          refine g_iload X155 hx hby at_98 rfl (rfl : 98 + 2 = 100) ?_
          refine g_ifT X155 hx hby at_100 ((if0 _ _).trans (teq (by decide : (0 : Int32) = (0 : Int32))).1) (by decide) (pc' := 112) (by decide) ?_
          refine g_iconst X155 hx hby (0 : Int32) at_112 (by decide) (rfl : 112 + 1 = 113) ?_
          refine own_retN X155 hx hby hlk (t := .boolean) hrt (by simp) at_113 (by decide) (by decide) ?_
          show Q_law Z x0 x1 x2 wc h0 n0 _ T155.heap _
          exact ⟨(congrArg (fun z => some (Value.int z)) (by rw [F_law, if_neg c42, if_neg c100, if_neg c152, if_pos c156] <;> rfl)), N155⟩
        · refine g_icT X155 hx hby at_88 (feq c156).2 (by decide) (pc' := 95) (by decide) ?_
          refine g_iconst X155 hx hby (0 : Int32) at_95 (by decide) (rfl : 95 + 1 = 96) ?_
          refine g_istore X155 hx hby #[.val (.int x0), .val (.int x1), .val (.int x2), .val (.int (x0 &&& (2147483647 : Int32))), .val (.int (1 : Int32)), .val (.int (1 : Int32)), .val (.ref b129), .val (.int (0 : Int32)), .val (.int (0 : Int32))] at_96 rfl (rfl : 96 + 2 = 98) ?_
          refine g_iload X155 hx hby at_98 rfl (rfl : 98 + 2 = 100) ?_
          refine g_ifT X155 hx hby at_100 ((if0 _ _).trans (teq (by decide : (0 : Int32) = (0 : Int32))).1) (by decide) (pc' := 112) (by decide) ?_
          refine g_iconst X155 hx hby (0 : Int32) at_112 (by decide) (rfl : 112 + 1 = 113) ?_
          refine own_retN X155 hx hby hlk (t := .boolean) hrt (by simp) at_113 (by decide) (by decide) ?_
          show Q_law Z x0 x1 x2 wc h0 n0 _ T155.heap _
          exact ⟨(congrArg (fun z => some (Value.int z)) (by rw [F_law, if_neg c42, if_neg c100, if_neg c152, if_neg c156] <;> rfl)), N155⟩
theorem own_ext {x y : Int32} (h : ∀ i : Nat, i < 32 → x.toBitVec.getLsbD i = y.toBitVec.getLsbD i) : x = y :=
  Int32.toBitVec_inj.mp (BitVec.eq_of_getLsbD_eq h)
theorem own_M (i : Nat) (h : i < 32) : (2147483647 : Int32).toBitVec.getLsbD i = decide (i < 31) := by
  have t : ∀ k : Fin 32, (2147483647 : Int32).toBitVec.getLsbD k.val = decide (k.val < 31) := by decide +kernel
  exact t ⟨i, h⟩
theorem own_N (i : Nat) (h : i < 32) : (-2147483648 : Int32).toBitVec.getLsbD i = decide (i = 31) := by
  have t : ∀ k : Fin 32, (-2147483648 : Int32).toBitVec.getLsbD k.val = decide (k.val = 31) := by decide +kernel
  exact t ⟨i, h⟩
theorem own_MM (x : Int32) : (x &&& 2147483647) &&& 2147483647 = x &&& 2147483647 := by
  apply own_ext; intro i hi; simp only [Int32.toBitVec_and, BitVec.getLsbD_and, own_M i hi]; cases x.toBitVec.getLsbD i <;> simp
theorem own_MN (x : Int32) : (x &&& 2147483647) &&& -2147483648 = 0 := by
  apply own_ext; intro i hi; simp only [Int32.toBitVec_and, BitVec.getLsbD_and, own_M i hi, own_N i hi]
  have e : (0 : Int32).toBitVec.getLsbD i = false := by
    have t : ∀ k : Fin 32, (0 : Int32).toBitVec.getLsbD k.val = false := by decide +kernel
    exact t ⟨i, hi⟩
  rw [e]
  by_cases q : i < 31
  · have : ¬ i = 31 := by omega
    simp [this]
  · simp [q]
theorem own_NM (x : Int32) : (-2147483648 ||| (x &&& 2147483647)) &&& 2147483647 = x &&& 2147483647 := by
  apply own_ext; intro i hi; simp only [Int32.toBitVec_and, Int32.toBitVec_or, BitVec.getLsbD_or, BitVec.getLsbD_and, own_M i hi, own_N i hi]
  by_cases q : i < 31
  · have : ¬ i = 31 := by omega
    simp [this, q]
  · simp [q]
theorem own_NN (y : Int32) : (-2147483648 ||| y) &&& -2147483648 = -2147483648 := by
  apply own_ext; intro i hi; simp only [Int32.toBitVec_and, Int32.toBitVec_or, BitVec.getLsbD_or, BitVec.getLsbD_and, own_N i hi]
  cases y.toBitVec.getLsbD i <;> simp
theorem own_NoN (y : Int32) : (-2147483648 ||| y) ||| -2147483648 = -2147483648 ||| y := by
  apply own_ext; intro i hi; simp only [Int32.toBitVec_or, BitVec.getLsbD_or, own_N i hi]
  cases y.toBitVec.getLsbD i <;> simp
theorem own_NNo (y : Int32) : -2147483648 ||| (-2147483648 ||| y) = -2147483648 ||| y := by
  apply own_ext; intro i hi; simp only [Int32.toBitVec_or, BitVec.getLsbD_or, own_N i hi]
  cases y.toBitVec.getLsbD i <;> simp
theorem own_oN (y : Int32) : y ||| -2147483648 = -2147483648 ||| y := Int32.or_comm _ _
theorem own_Nadd (x : Int32) : -2147483648 + (x &&& 2147483647) = -2147483648 ||| (x &&& 2147483647) := by
  apply Int32.toBitVec_inj.mp
  rw [Int32.toBitVec_add, Int32.toBitVec_or]
  apply BitVec.add_eq_or_of_and_eq_zero
  have h := congrArg Int32.toBitVec (own_MN x)
  rw [Int32.toBitVec_and] at h
  rw [BitVec.and_comm]; exact h
theorem own_nn (x : Int32) : ¬ (x &&& 2147483647) < 0 := by
  have h := c_and x 2147483647 (by decide)
  rw [Int32.lt_iff_toInt_lt]
  have e0 : (0 : Int32).toInt = 0 := by decide
  omega
theorem own_neg (y : Int32) : (-2147483648 ||| y) < 0 := by
  have h := (c_orS (-2147483648) y).2.1 (by decide)
  rw [Int32.lt_iff_toInt_lt]
  have e0 : (0 : Int32).toInt = 0 := by decide
  omega
theorem own_S0 (w : Int32) : S_red w 0 = w &&& 2147483647 := by rw [S_red, if_pos rfl]
theorem own_S1 (w : Int32) : S_red w 1 = w ||| -2147483648 := by rw [S_red, if_neg (by decide)]
theorem own_lct (w : Int32) : F_lct w = w &&& 2147483647 := rfl
theorem own_r0 {w : Int32} (h : ¬ w < 0) : F_red w = 0 := by rw [F_red, if_neg h]
theorem own_r1 {w : Int32} (h : w < 0) : F_red w = 1 := by rw [F_red, if_pos h]

theorem own_plain (a b c : Int32) : F_law a b c = 1 := by
  have n1 : (-2147483648 : Int32) &&& -2147483648 = -2147483648 := by decide
  simp [F_law, own_S0, own_S1, own_lct, n1, own_oN, own_NNo, own_NM, own_MM, own_r0 (own_nn a), own_r1 (own_neg _)]

set_option maxRecDepth 65536 in
set_option maxHeartbeats 40000000 in
theorem comes_1 {Post : Tables → Env → Array Value → State → Outcome → State → Prop} (hpost : ∀ tb e args s v u, (limb_1_1.after args s (.returned v) u = true ∧ limb_1_2.after args s (.returned v) u = true ∧ True) → FrameEnd s (.returned v) u (Jvm.fieldLocs frame_1_writes args s ++ Jvm.arrayLocs frame_1_arrays args s ++ Jvm.staticLocs frame_1_statics s) 16 128 → Post tb e args s (.returned v) u) :
    ArmFor flags0 classFile x code maxLocals ret World_1 tables_1 room_1 Calls_1 rest_1 Pre_1 Post := by
  intro l hfl _ _ p e ha hc hk s m args below hf hA hF happ hP
  obtain ⟨hcalls, hrest, hpre⟩ := hP
  obtain ⟨-, -, -, hnamed, -, -, -, hat⟩ := (Spec.applies_iff hf).mp happ
  obtain ⟨hg, hn⟩ := and_e (Cond.before_iff.mp (show (Jvm.Cond.and given_1 narrow_1).before args s = true from hpre))
  obtain ⟨hcnt, hg0⟩ := and_e hg
  obtain ⟨ha0, hg1⟩ := and_e hg0
  obtain ⟨ha1, hg2⟩ := and_e hg1
  obtain ⟨w0, w1, w2, rfl⟩ : ∃ w0 w1 w2 : Value, args = #[w0, w1, w2] := by
    have hs : args.size = 3 := by simpa [Cond.value, given_1] using hcnt
    obtain ⟨L⟩ := args
    match L, hs with
    | [w0, w1, w2], _ => exact ⟨w0, w1, w2, rfl⟩
  have hw := fun d (hd : d ∈ tables_1) => atoms_spec (ws := Jvm.Cond.code x code maxLocals ret :: tables_1) hat d (List.mem_cons_of_mem _ hd)
  have hfit : Fit s := fun {y c} hc i hi => by
    obtain ⟨ha, rfl⟩ := Array.getElem?_eq_some_iff.mp hc
    have q := List.all_eq_true.mp ((Array.all_eq_true_iff_forall_mem.mp hF) _ (Array.getElem_mem ha)) i (List.mem_range.mpr hi)
    simpa [Array.getElem?_eq_getElem hi] using q
  obtain ⟨i0, ei0⟩ := is_v ha0
  obtain rfl : w0 = (.int i0) := Option.some.inj ei0
  obtain ⟨i1, ei1⟩ := is_v ha1
  obtain rfl : w1 = (.int i1) := Option.some.inj ei1
  obtain ⟨i2, ei2⟩ := is_v hg2
  obtain rfl : w2 = (.int i2) := Option.some.inj ei2
  obtain ⟨hsets, hown0⟩ := atoms_of _ (rest_1_c_eq ▸ (show rest_1_c.before _ s = true from hrest))
  have s3 := Cond.before_iff.mp (hsets _ (List.mem_of_getElem? (i := 3) rfl))
  have SH := Sta.start (own_eqI s3) (Or.inl (hsets _ (List.mem_of_getElem? (i := 1) rfl)))
  have s5 := Cond.before_iff.mp (hsets _ (List.mem_of_getElem? (i := 5) rfl))
  obtain ⟨wc, evc⟩ := exa_v s5
  have SC := Sta.start evc (Or.inr ⟨hw _ (List.mem_of_getElem? (i := 9) rfl), hsets _ (List.mem_of_getElem? (i := 2) rfl)⟩)
  have AC := Exa.start evc s5
  have IC := own_IC_start (fun idx => evc) (Cond.before_iff.mp (hsets _ (List.mem_of_getElem? (i := 4) rfl))) (own_eqI (Cond.before_iff.mp (hsets _ (List.mem_of_getElem? (i := 6) rfl)))) (Cond.before_iff.mp (hsets _ (List.mem_of_getElem? (i := 7) rfl)))
  obtain ⟨n, o, h1, h2, h3, _, L, rfl, ⟨hv, N⟩, hq⟩ := rm_law l s _ hw tables_1 i0 i1 i2 wc s.heap s.heap.size (Nat.le_refl _) SH SC AC IC p e ha hc hk s m _ below hf ((Spec.applies_iff_loose hf).mp happ).1 ⟨rfl, State.Warmed39.refl s, rfl⟩ trivial
  rw [own_plain] at hv
  subst hv
  refine ⟨n, _, h1, h2, h3, hpost _ _ _ _ _ _ ⟨Cond.after_iff.mpr rfl, Cond.after_iff.mpr (eq_i res_at (Term.int_eval (1)) rfl), trivial⟩ ⟨hq.1, hq.2.1, (hq.2.2.sift fun y hy => Or.inr (N y hy)).mono (by decide) (by decide)⟩⟩
theorem main_1_1 : Claimed_1_1 := comes_1 fun _ _ _ _ _ _ h hF => ⟨h.1, hF⟩
theorem main_1_2 : Claimed_1_2 := comes_1 fun _ _ _ _ _ _ h hF => ⟨h.2.1, hF⟩
end Jvm.Pilot.@@N@@
namespace Jvm.Pilot.@@N@@
open Jvm Jvm.ClassFile Sem Op Lib Jvm.Free Jvm.Stand Jvm.Pilot.@@N@@.Jvm.D
/-! MADE BY PROGRAM (witnessworld.py) out of the Statement's table words and the real class files: 17 classes; the members and pool entries that the words name. The judged class is class 1, her method 1. -/
namespace start1
open Jvm.ClassFile
def u (s : String) : CpInfo := .utf8 (stringToUtf16 s)
/-- a pool by its gaps: so many unusable entries, then the entry; so many at the end -/
def gap : Nat → List CpInfo → List CpInfo
  | 0, r => r
  | n + 1, r => .unusable :: gap n r
def poolList (es : List (Nat × CpInfo)) (last : Nat) : List CpInfo := es.foldr (fun e r => gap e.1 (e.2 :: r)) (gap last [])
def pool (es : List (Nat × CpInfo)) (last : Nat) : Array CpInfo := ⟨poolList es last⟩
def fileOf (pool : Array CpInfo) (this : Nat) (attrs : Array Attribute := #[]) (ms : Array MethodInfo := #[]) (fl : Nat := 33) (sup : Nat := 0) (ifs : Array Nat := #[]) (fds : Array FieldInfo := #[]) : ClassFile where
  minorVersion := 0
  majorVersion := 65
  constantPool := pool
  accessFlags := fl
  thisClass := this
  superClass := sup
  interfaces := ifs
  fields := fds
  methods := ms
  attributes := attrs
def plain (name : String) (sup : Option ClassId) : Class where
  name := name
  kind := .ordinary
  loader := none
  accessFlags := 33
  super := sup
  interfaces := #[]
  cf := none
  fields := #[]
  methods := #[]
  instanceTypes := #[]
  staticTypes := #[]
  resolved := #[]
  callSites := []
  init := .initialized
  statics := none
  mirror := none

def pool0 : Array CpInfo := pool [(5, u "<init>"), (0, u "()V"), (1, .class_ 10), (1, u "java/lang/Object")] 113

def k0c0 : Code := { maxStack := 0, maxLocals := 1, code := object_method_1_code, exceptionTable := #[], attributes := #[] }
def k0m0 : Method := { name := "<init>", desc := "()V", sig := { parameters := [], returnType := none }, accessFlags := 1, code := some k0c0 }
/-- java/lang/Object -/
def k0 : Class := { plain "java/lang/Object" none with
  accessFlags := 33
  interfaces := #[]
  cf := some (fileOf pool0 8 #[] #[{ accessFlags := 1, nameIndex := 5, descriptorIndex := 6, attributes := #[] }] 33 0 #[] #[])
  fields := #[]
  methods := #[k0m0]
  instanceTypes := #[]
  staticTypes := #[]
  resolved := Array.replicate 124 none
  statics := none }

def pool1 : Array CpInfo := pool [(2, .class_ 4), (1, u "java/lang/Object"), (0, u "<init>"), (0, u "()V"), (0, .integer 2147483647), (0, .class_ 9), (0, u "com/example/leanbough/leanbough/LlrbTreeMap$Node"), (0, .methodref 11 12), (0, .class_ 13), (0, .nameAndType 14 15), (0, u "java/lang/Integer"), (0, u "valueOf"), (0, u "(I)Ljava/lang/Integer;"), (0, .methodref 8 17), (0, .nameAndType 5 18), (0, u "(Ljava/lang/Object;Ljava/lang/Object;)V"), (0, .methodref 8 20), (0, .nameAndType 21 22), (0, u "setLeftCount"), (0, u "(I)V"), (0, .methodref 8 24), (0, .nameAndType 25 26), (0, u "setRed"), (0, u "(Z)V"), (0, .methodref 8 28), (0, .nameAndType 29 30), (0, u "red"), (0, u "()Z"), (0, .methodref 8 32), (0, .nameAndType 33 34), (0, u "leftCount"), (0, u "()I"), (0, .class_ 36), (0, u "com/example/leanbough/leanbough/NodeSetRedPinLaw"), (2, u "law"), (0, u "(III)Z")] 7

def k1m0 : Method := { name := "<init>", desc := "()V", sig := { parameters := [], returnType := none }, accessFlags := 1, code := none }
def k1c1 : Code := { maxStack := 4, maxLocals := 9, code := code, exceptionTable := #[], attributes := #[] }
def k1m1 : Method := { name := "law", desc := "(III)Z", sig := { parameters := [.int, .int, .int], returnType := some .boolean }, accessFlags := 9, code := some k1c1 }
/-- com/example/leanbough/leanbough/NodeSetRedPinLaw -/
def k1 : Class := { plain "com/example/leanbough/leanbough/NodeSetRedPinLaw" (some 0) with
  accessFlags := 49
  interfaces := #[]
  cf := some (fileOf pool1 35 #[] #[{ accessFlags := 1, nameIndex := 5, descriptorIndex := 6, attributes := #[] }, { accessFlags := 9, nameIndex := 39, descriptorIndex := 40, attributes := #[] }] 49 2 #[] #[])
  fields := #[]
  methods := #[k1m0, k1m1]
  instanceTypes := #[]
  staticTypes := #[]
  resolved := Array.replicate 48 none
  statics := none }

def pool2 : Array CpInfo := pool [(23, .class_ 25), (1, u "java/util/Map$Entry"), (6, .class_ 34), (1, u "java/util/Map"), (34, .class_ 70), (0, u "java/lang/Object")] 107

/-- java/util/Map$Entry -/
def k2 : Class := { plain "java/util/Map$Entry" (some 0) with
  accessFlags := 1537
  interfaces := #[]
  cf := some (fileOf pool2 23 #[.nestHost 32] #[] 1537 69 #[] #[])
  fields := #[]
  methods := #[]
  instanceTypes := #[]
  staticTypes := #[]
  resolved := Array.replicate 178 none
  statics := none }

def pool3 : Array CpInfo := pool [(3, .methodref 4 5), (0, .class_ 6), (0, .nameAndType 7 8), (0, u "java/lang/Object"), (0, u "<init>"), (0, u "()V"), (0, .fieldref 10 11), (0, .class_ 12), (0, .nameAndType 13 14), (0, u "com/example/leanbough/leanbough/LlrbTreeMap$Node"), (0, u "key"), (0, u "Ljava/lang/Object;"), (0, .fieldref 10 16), (0, .nameAndType 17 14), (0, u "value"), (0, .integer 2147483648), (0, .fieldref 10 20), (0, .nameAndType 21 22), (0, u "colourAndLeftCount"), (0, u "I"), (0, .integer 2147483647), (0, .class_ 25), (0, u "java/util/Map$Entry"), (27, u "RED"), (4, u "left"), (0, u "Lcom/example/leanbough/leanbough/LlrbTreeMap$Node;"), (1, u "right"), (0, u "(Ljava/lang/Object;Ljava/lang/Object;)V"), (3, u "red"), (0, u "()Z"), (1, u "setRed"), (0, u "(Z)V"), (0, u "leftCount"), (0, u "()I"), (0, u "setLeftCount"), (0, u "(I)V"), (13, .class_ 89), (0, u "com/example/leanbough/leanbough/LlrbTreeMap")] 19

def k3c0 : Code := { maxStack := 2, maxLocals := 3, code := prog_4_method_1_code, exceptionTable := #[], attributes := #[] }
def k3m0 : Method := { name := "<init>", desc := "(Ljava/lang/Object;Ljava/lang/Object;)V", sig := { parameters := [(.object "java/lang/Object"), (.object "java/lang/Object")], returnType := none }, accessFlags := 0, code := some k3c0 }
def k3c1 : Code := { maxStack := 1, maxLocals := 1, code := prog_4_method_2_code, exceptionTable := #[], attributes := #[] }
def k3m1 : Method := { name := "red", desc := "()Z", sig := { parameters := [], returnType := some .boolean }, accessFlags := 0, code := some k3c1 }
def k3c2 : Code := { maxStack := 3, maxLocals := 2, code := prog_4_method_3_code, exceptionTable := #[], attributes := #[] }
def k3m2 : Method := { name := "setRed", desc := "(Z)V", sig := { parameters := [.boolean], returnType := none }, accessFlags := 0, code := some k3c2 }
def k3c3 : Code := { maxStack := 2, maxLocals := 1, code := prog_4_method_4_code, exceptionTable := #[], attributes := #[] }
def k3m3 : Method := { name := "leftCount", desc := "()I", sig := { parameters := [], returnType := some .int }, accessFlags := 0, code := some k3c3 }
def k3c4 : Code := { maxStack := 3, maxLocals := 2, code := prog_4_method_5_code, exceptionTable := #[], attributes := #[] }
def k3m4 : Method := { name := "setLeftCount", desc := "(I)V", sig := { parameters := [.int], returnType := none }, accessFlags := 0, code := some k3c4 }
/-- com/example/leanbough/leanbough/LlrbTreeMap$Node -/
def k3 : Class := { plain "com/example/leanbough/leanbough/LlrbTreeMap$Node" (some 0) with
  accessFlags := 48
  interfaces := #[2]
  cf := some (fileOf pool3 10 #[.nestHost 88] #[{ accessFlags := 0, nameIndex := 7, descriptorIndex := 62, attributes := #[] }, { accessFlags := 0, nameIndex := 66, descriptorIndex := 67, attributes := #[] }, { accessFlags := 0, nameIndex := 69, descriptorIndex := 70, attributes := #[] }, { accessFlags := 0, nameIndex := 71, descriptorIndex := 72, attributes := #[] }, { accessFlags := 0, nameIndex := 73, descriptorIndex := 74, attributes := #[] }] 48 4 #[24] #[{ accessFlags := 26, nameIndex := 53, descriptorIndex := 22, attributes := #[] }, { accessFlags := 16, nameIndex := 13, descriptorIndex := 14, attributes := #[] }, { accessFlags := 0, nameIndex := 17, descriptorIndex := 14, attributes := #[] }, { accessFlags := 0, nameIndex := 58, descriptorIndex := 59, attributes := #[] }, { accessFlags := 0, nameIndex := 61, descriptorIndex := 59, attributes := #[] }, { accessFlags := 2, nameIndex := 21, descriptorIndex := 22, attributes := #[] }])
  fields := #[{ name := "RED", type := .int, accessFlags := 26, slot := 0, constantValue := 0 }, { name := "key", type := (.object "java/lang/Object"), accessFlags := 16, slot := 0, constantValue := 0 }, { name := "value", type := (.object "java/lang/Object"), accessFlags := 0, slot := 1, constantValue := 0 }, { name := "left", type := (.object "com/example/leanbough/leanbough/LlrbTreeMap$Node"), accessFlags := 0, slot := 2, constantValue := 0 }, { name := "right", type := (.object "com/example/leanbough/leanbough/LlrbTreeMap$Node"), accessFlags := 0, slot := 3, constantValue := 0 }, { name := "colourAndLeftCount", type := .int, accessFlags := 2, slot := 4, constantValue := 0 }]
  methods := #[k3m0, k3m1, k3m2, k3m3, k3m4]
  instanceTypes := #[(.object "java/lang/Object"), (.object "java/lang/Object"), (.object "com/example/leanbough/leanbough/LlrbTreeMap$Node"), (.object "com/example/leanbough/leanbough/LlrbTreeMap$Node"), .int]
  staticTypes := #[.int]
  resolved := Array.replicate 109 none
  statics := none }

def pool4 : Array CpInfo := pool [(1, .class_ 2), (0, u "java/io/Serializable"), (0, .class_ 4), (0, u "java/lang/Object")] 2

/-- java/io/Serializable -/
def k4 : Class := { plain "java/io/Serializable" (some 0) with
  accessFlags := 1537
  interfaces := #[]
  cf := some (fileOf pool4 1 #[] #[] 1537 3 #[] #[])
  fields := #[]
  methods := #[]
  instanceTypes := #[]
  staticTypes := #[]
  resolved := Array.replicate 7 none
  statics := none }

def pool5 : Array CpInfo := pool [(1, .methodref 2 3), (0, .class_ 4), (0, .nameAndType 5 6), (0, u "java/lang/Object"), (0, u "<init>"), (0, u "()V"), (1, .class_ 10), (1, u "java/lang/Number"), (2, .class_ 14), (0, u "java/io/Serializable"), (0, u "serialVersionUID"), (0, u "J")] 20

def k5c0 : Code := { maxStack := 1, maxLocals := 1, code := jdk_18_method_1_code, exceptionTable := #[], attributes := #[] }
def k5m0 : Method := { name := "<init>", desc := "()V", sig := { parameters := [], returnType := none }, accessFlags := 1, code := some k5c0 }
/-- java/lang/Number -/
def k5 : Class := { plain "java/lang/Number" (some 0) with
  accessFlags := 1057
  interfaces := #[4]
  cf := some (fileOf pool5 8 #[] #[{ accessFlags := 1, nameIndex := 5, descriptorIndex := 6, attributes := #[] }] 1057 2 #[13] #[{ accessFlags := 26, nameIndex := 15, descriptorIndex := 16, attributes := #[] }])
  fields := #[{ name := "serialVersionUID", type := .long, accessFlags := 26, slot := 0, constantValue := 0 }]
  methods := #[k5m0]
  instanceTypes := #[]
  staticTypes := #[.long]
  resolved := Array.replicate 37 none
  statics := none }

def pool6 : Array CpInfo := pool [(1, .class_ 2), (0, u "java/lang/Comparable"), (0, .class_ 4), (0, u "java/lang/Object")] 7

/-- java/lang/Comparable -/
def k6 : Class := { plain "java/lang/Comparable" (some 0) with
  accessFlags := 1537
  interfaces := #[]
  cf := some (fileOf pool6 1 #[] #[] 1537 3 #[] #[])
  fields := #[]
  methods := #[]
  instanceTypes := #[]
  staticTypes := #[]
  resolved := Array.replicate 12 none
  statics := none }

def pool7 : Array CpInfo := pool [(1, .class_ 2), (0, u "java/lang/constant/Constable"), (0, .class_ 4), (0, u "java/lang/Object")] 6

/-- java/lang/constant/Constable -/
def k7 : Class := { plain "java/lang/constant/Constable" (some 0) with
  accessFlags := 1537
  interfaces := #[]
  cf := some (fileOf pool7 1 #[] #[] 1537 3 #[] #[])
  fields := #[]
  methods := #[]
  instanceTypes := #[]
  staticTypes := #[]
  resolved := Array.replicate 11 none
  statics := none }

def pool8 : Array CpInfo := pool [(1, .class_ 2), (0, u "java/lang/constant/ConstantDesc"), (0, .class_ 4), (0, u "java/lang/Object")] 32

/-- java/lang/constant/ConstantDesc -/
def k8 : Class := { plain "java/lang/constant/ConstantDesc" (some 0) with
  accessFlags := 1537
  interfaces := #[]
  cf := some (fileOf pool8 1 #[] #[] 1537 3 #[] #[])
  fields := #[]
  methods := #[]
  instanceTypes := #[]
  staticTypes := #[]
  resolved := Array.replicate 37 none
  statics := none }

def pool9 : Array CpInfo := pool [(1, .class_ 2), (0, u "java/lang/Integer"), (16, u "digits"), (0, u "[C"), (46, u "<init>"), (17, u "DigitOnes"), (0, u "[B"), (2, u "DigitTens"), (10, .nameAndType 67 101), (0, u "()V"), (85, u "valueOf"), (0, u "(I)Ljava/lang/Integer;"), (0, .class_ 190), (0, u "java/lang/Integer$IntegerCache"), (0, .fieldref 189 192), (0, .nameAndType 193 194), (0, u "high"), (0, u "I"), (0, .fieldref 189 196), (0, .nameAndType 197 198), (0, u "cache"), (0, u "[Ljava/lang/Integer;"), (0, .methodref 1 200), (0, .nameAndType 67 201), (0, u "(I)V"), (0, .methodref 203 100), (0, .class_ 204), (0, u "java/lang/Number"), (0, .fieldref 1 206), (0, .nameAndType 207 194), (0, u "value"), (94, u "TYPE"), (0, u "Ljava/lang/Class;"), (0, .class_ 305), (0, u "java/lang/Comparable"), (0, .class_ 307), (0, u "java/lang/constant/Constable"), (0, .class_ 309), (0, u "java/lang/constant/ConstantDesc"), (0, u "MIN_VALUE"), (1, u "MAX_VALUE"), (3, u "SIZE"), (1, u "BYTES"), (1, u "serialVersionUID"), (0, u "J")] 131

def k9c0 : Code := { maxStack := 3, maxLocals := 1, code := jdk_33_method_22_code, exceptionTable := #[], attributes := #[] }
def k9m0 : Method := { name := "valueOf", desc := "(I)Ljava/lang/Integer;", sig := { parameters := [.int], returnType := some (.object "java/lang/Integer") }, accessFlags := 9, code := some k9c0 }
def k9c1 : Code := { maxStack := 2, maxLocals := 2, code := jdk_33_method_23_code, exceptionTable := #[], attributes := #[] }
def k9m1 : Method := { name := "<init>", desc := "(I)V", sig := { parameters := [.int], returnType := none }, accessFlags := 1, code := some k9c1 }
/-- java/lang/Integer -/
def k9 : Class := { plain "java/lang/Integer" (some 5) with
  accessFlags := 49
  interfaces := #[6, 7, 8]
  cf := some (fileOf pool9 1 #[.nestMembers #[189]] #[{ accessFlags := 9, nameIndex := 187, descriptorIndex := 188, attributes := #[] }, { accessFlags := 1, nameIndex := 67, descriptorIndex := 201, attributes := #[] }] 49 203 #[304, 306, 308] #[{ accessFlags := 25, nameIndex := 310, descriptorIndex := 194, attributes := #[] }, { accessFlags := 25, nameIndex := 312, descriptorIndex := 194, attributes := #[] }, { accessFlags := 25, nameIndex := 302, descriptorIndex := 303, attributes := #[] }, { accessFlags := 24, nameIndex := 19, descriptorIndex := 20, attributes := #[] }, { accessFlags := 24, nameIndex := 89, descriptorIndex := 86, attributes := #[] }, { accessFlags := 24, nameIndex := 85, descriptorIndex := 86, attributes := #[] }, { accessFlags := 18, nameIndex := 207, descriptorIndex := 194, attributes := #[] }, { accessFlags := 25, nameIndex := 316, descriptorIndex := 194, attributes := #[] }, { accessFlags := 25, nameIndex := 318, descriptorIndex := 194, attributes := #[] }, { accessFlags := 26, nameIndex := 320, descriptorIndex := 321, attributes := #[] }])
  fields := #[{ name := "MIN_VALUE", type := .int, accessFlags := 25, slot := 0, constantValue := 0 }, { name := "MAX_VALUE", type := .int, accessFlags := 25, slot := 1, constantValue := 0 }, { name := "TYPE", type := (.object "java/lang/Class"), accessFlags := 25, slot := 2, constantValue := 0 }, { name := "digits", type := (.array .char), accessFlags := 24, slot := 3, constantValue := 0 }, { name := "DigitTens", type := (.array .byte), accessFlags := 24, slot := 4, constantValue := 0 }, { name := "DigitOnes", type := (.array .byte), accessFlags := 24, slot := 5, constantValue := 0 }, { name := "value", type := .int, accessFlags := 18, slot := 0, constantValue := 0 }, { name := "SIZE", type := .int, accessFlags := 25, slot := 6, constantValue := 0 }, { name := "BYTES", type := .int, accessFlags := 25, slot := 7, constantValue := 0 }, { name := "serialVersionUID", type := .long, accessFlags := 26, slot := 8, constantValue := 0 }]
  methods := #[k9m0, k9m1]
  instanceTypes := #[.int]
  staticTypes := #[.int, .int, (.object "java/lang/Class"), (.array .char), (.array .byte), (.array .byte), .int, .int, .long]
  resolved := Array.replicate 453 none
  statics := none }

def pool10 : Array CpInfo := pool [(2, .class_ 4), (1, u "java/lang/Object"), (0, u "<init>"), (0, u "()V"), (0, .class_ 8), (0, u "java/lang/Integer"), (7, .class_ 18), (1, u "java/lang/Integer$IntegerCache"), (0, u "$assertionsDisabled"), (0, u "Z"), (26, u "high"), (0, u "I"), (8, u "archivedCache"), (0, u "[Ljava/lang/Integer;"), (12, u "cache"), (0, u "low")] 27

def k10m0 : Method := { name := "<init>", desc := "()V", sig := { parameters := [], returnType := none }, accessFlags := 2, code := none }
/-- java/lang/Integer$IntegerCache -/
def k10 : Class := { plain "java/lang/Integer$IntegerCache" (some 0) with
  accessFlags := 48
  interfaces := #[]
  cf := some (fileOf pool10 16 #[.nestHost 7] #[{ accessFlags := 2, nameIndex := 5, descriptorIndex := 6, attributes := #[] }] 48 2 #[] #[{ accessFlags := 24, nameIndex := 72, descriptorIndex := 48, attributes := #[] }, { accessFlags := 24, nameIndex := 47, descriptorIndex := 48, attributes := #[] }, { accessFlags := 24, nameIndex := 71, descriptorIndex := 58, attributes := #[] }, { accessFlags := 8, nameIndex := 57, descriptorIndex := 58, attributes := #[] }, { accessFlags := 4120, nameIndex := 19, descriptorIndex := 20, attributes := #[] }])
  fields := #[{ name := "low", type := .int, accessFlags := 24, slot := 0, constantValue := 0 }, { name := "high", type := .int, accessFlags := 24, slot := 1, constantValue := 0 }, { name := "cache", type := (.array (.object "java/lang/Integer")), accessFlags := 24, slot := 2, constantValue := 0 }, { name := "archivedCache", type := (.array (.object "java/lang/Integer")), accessFlags := 8, slot := 3, constantValue := 0 }, { name := "$assertionsDisabled", type := .boolean, accessFlags := 4120, slot := 4, constantValue := 0 }]
  methods := #[k10m0]
  instanceTypes := #[]
  staticTypes := #[.int, .int, (.array (.object "java/lang/Integer")), (.array (.object "java/lang/Integer")), .boolean]
  resolved := Array.replicate 100 none
  statics := some 0 }

def pool11 : Array CpInfo := pool [(1, u "java/lang/Cloneable"), (0, .class_ 1), (0, u "java/lang/Object"), (0, .class_ 3)] 3

/-- java/lang/Cloneable -/
def k11 : Class := { plain "java/lang/Cloneable" (some 0) with
  accessFlags := 1537
  interfaces := #[]
  cf := some (fileOf pool11 2 #[] #[] 1537 4 #[] #[])
  fields := #[]
  methods := #[]
  instanceTypes := #[]
  staticTypes := #[]
  resolved := Array.replicate 8 none
  statics := none }

/-- the primitive byte -/
def k12 : Class := { plain "byte" none with kind := .primitive 'B', accessFlags := 0x411 }
/-- [B -/
def k13 : Class := { plain "[B" (some 0) with kind := .array 12 .byte, interfaces := #[11, 4], accessFlags := 1041 }

/-- the primitive int -/
def k14 : Class := { plain "int" none with kind := .primitive 'I', accessFlags := 0x411 }
/-- [I -/
def k15 : Class := { plain "[I" (some 0) with kind := .array 14 .int, interfaces := #[11, 4], accessFlags := 1041 }

/-- [Ljava/lang/Integer; -/
def k16 : Class := { plain "[Ljava/lang/Integer;" (some 0) with kind := .array 9 (.object "java/lang/Integer"), interfaces := #[11, 4], accessFlags := 1041 }

def heap : Heap := #[{ cls := 10, slots := #[.int 0, .int 127, .ref 1, .null, .int 0], vm := .statics 10 },
  { cls := 16, slots := #[.ref 2, .ref 3, .ref 4, .ref 5, .ref 6, .ref 7, .ref 8, .ref 9, .ref 10, .ref 11, .ref 12, .ref 13, .ref 14, .ref 15, .ref 16, .ref 17, .ref 18, .ref 19, .ref 20, .ref 21, .ref 22, .ref 23, .ref 24, .ref 25, .ref 26, .ref 27, .ref 28, .ref 29, .ref 30, .ref 31, .ref 32, .ref 33, .ref 34, .ref 35, .ref 36, .ref 37, .ref 38, .ref 39, .ref 40, .ref 41, .ref 42, .ref 43, .ref 44, .ref 45, .ref 46, .ref 47, .ref 48, .ref 49, .ref 50, .ref 51, .ref 52, .ref 53, .ref 54, .ref 55, .ref 56, .ref 57, .ref 58, .ref 59, .ref 60, .ref 61, .ref 62, .ref 63, .ref 64, .ref 65, .ref 66, .ref 67, .ref 68, .ref 69, .ref 70, .ref 71, .ref 72, .ref 73, .ref 74, .ref 75, .ref 76, .ref 77, .ref 78, .ref 79, .ref 80, .ref 81, .ref 82, .ref 83, .ref 84, .ref 85, .ref 86, .ref 87, .ref 88, .ref 89, .ref 90, .ref 91, .ref 92, .ref 93, .ref 94, .ref 95, .ref 96, .ref 97, .ref 98, .ref 99, .ref 100, .ref 101, .ref 102, .ref 103, .ref 104, .ref 105, .ref 106, .ref 107, .ref 108, .ref 109, .ref 110, .ref 111, .ref 112, .ref 113, .ref 114, .ref 115, .ref 116, .ref 117, .ref 118, .ref 119, .ref 120, .ref 121, .ref 122, .ref 123, .ref 124, .ref 125, .ref 126, .ref 127, .ref 128, .ref 129, .ref 130, .ref 131, .ref 132, .ref 133, .ref 134, .ref 135, .ref 136, .ref 137, .ref 138, .ref 139, .ref 140, .ref 141, .ref 142, .ref 143, .ref 144, .ref 145, .ref 146, .ref 147, .ref 148, .ref 149, .ref 150, .ref 151, .ref 152, .ref 153, .ref 154, .ref 155, .ref 156, .ref 157, .ref 158, .ref 159, .ref 160, .ref 161, .ref 162, .ref 163, .ref 164, .ref 165, .ref 166, .ref 167, .ref 168, .ref 169, .ref 170, .ref 171, .ref 172, .ref 173, .ref 174, .ref 175, .ref 176, .ref 177, .ref 178, .ref 179, .ref 180, .ref 181, .ref 182, .ref 183, .ref 184, .ref 185, .ref 186, .ref 187, .ref 188, .ref 189, .ref 190, .ref 191, .ref 192, .ref 193, .ref 194, .ref 195, .ref 196, .ref 197, .ref 198, .ref 199, .ref 200, .ref 201, .ref 202, .ref 203, .ref 204, .ref 205, .ref 206, .ref 207, .ref 208, .ref 209, .ref 210, .ref 211, .ref 212, .ref 213, .ref 214, .ref 215, .ref 216, .ref 217, .ref 218, .ref 219, .ref 220, .ref 221, .ref 222, .ref 223, .ref 224, .ref 225, .ref 226, .ref 227, .ref 228, .ref 229, .ref 230, .ref 231, .ref 232, .ref 233, .ref 234, .ref 235, .ref 236, .ref 237, .ref 238, .ref 239, .ref 240, .ref 241, .ref 242, .ref 243, .ref 244, .ref 245, .ref 246, .ref 247, .ref 248, .ref 249, .ref 250, .ref 251, .ref 252, .ref 253, .ref 254, .ref 255, .ref 256, .ref 257], vm := .none },
  { cls := 9, slots := #[.int (-128)], vm := .none },
  { cls := 9, slots := #[.int (-127)], vm := .none },
  { cls := 9, slots := #[.int (-126)], vm := .none },
  { cls := 9, slots := #[.int (-125)], vm := .none },
  { cls := 9, slots := #[.int (-124)], vm := .none },
  { cls := 9, slots := #[.int (-123)], vm := .none },
  { cls := 9, slots := #[.int (-122)], vm := .none },
  { cls := 9, slots := #[.int (-121)], vm := .none },
  { cls := 9, slots := #[.int (-120)], vm := .none },
  { cls := 9, slots := #[.int (-119)], vm := .none },
  { cls := 9, slots := #[.int (-118)], vm := .none },
  { cls := 9, slots := #[.int (-117)], vm := .none },
  { cls := 9, slots := #[.int (-116)], vm := .none },
  { cls := 9, slots := #[.int (-115)], vm := .none },
  { cls := 9, slots := #[.int (-114)], vm := .none },
  { cls := 9, slots := #[.int (-113)], vm := .none },
  { cls := 9, slots := #[.int (-112)], vm := .none },
  { cls := 9, slots := #[.int (-111)], vm := .none },
  { cls := 9, slots := #[.int (-110)], vm := .none },
  { cls := 9, slots := #[.int (-109)], vm := .none },
  { cls := 9, slots := #[.int (-108)], vm := .none },
  { cls := 9, slots := #[.int (-107)], vm := .none },
  { cls := 9, slots := #[.int (-106)], vm := .none },
  { cls := 9, slots := #[.int (-105)], vm := .none },
  { cls := 9, slots := #[.int (-104)], vm := .none },
  { cls := 9, slots := #[.int (-103)], vm := .none },
  { cls := 9, slots := #[.int (-102)], vm := .none },
  { cls := 9, slots := #[.int (-101)], vm := .none },
  { cls := 9, slots := #[.int (-100)], vm := .none },
  { cls := 9, slots := #[.int (-99)], vm := .none },
  { cls := 9, slots := #[.int (-98)], vm := .none },
  { cls := 9, slots := #[.int (-97)], vm := .none },
  { cls := 9, slots := #[.int (-96)], vm := .none },
  { cls := 9, slots := #[.int (-95)], vm := .none },
  { cls := 9, slots := #[.int (-94)], vm := .none },
  { cls := 9, slots := #[.int (-93)], vm := .none },
  { cls := 9, slots := #[.int (-92)], vm := .none },
  { cls := 9, slots := #[.int (-91)], vm := .none },
  { cls := 9, slots := #[.int (-90)], vm := .none },
  { cls := 9, slots := #[.int (-89)], vm := .none },
  { cls := 9, slots := #[.int (-88)], vm := .none },
  { cls := 9, slots := #[.int (-87)], vm := .none },
  { cls := 9, slots := #[.int (-86)], vm := .none },
  { cls := 9, slots := #[.int (-85)], vm := .none },
  { cls := 9, slots := #[.int (-84)], vm := .none },
  { cls := 9, slots := #[.int (-83)], vm := .none },
  { cls := 9, slots := #[.int (-82)], vm := .none },
  { cls := 9, slots := #[.int (-81)], vm := .none },
  { cls := 9, slots := #[.int (-80)], vm := .none },
  { cls := 9, slots := #[.int (-79)], vm := .none },
  { cls := 9, slots := #[.int (-78)], vm := .none },
  { cls := 9, slots := #[.int (-77)], vm := .none },
  { cls := 9, slots := #[.int (-76)], vm := .none },
  { cls := 9, slots := #[.int (-75)], vm := .none },
  { cls := 9, slots := #[.int (-74)], vm := .none },
  { cls := 9, slots := #[.int (-73)], vm := .none },
  { cls := 9, slots := #[.int (-72)], vm := .none },
  { cls := 9, slots := #[.int (-71)], vm := .none },
  { cls := 9, slots := #[.int (-70)], vm := .none },
  { cls := 9, slots := #[.int (-69)], vm := .none },
  { cls := 9, slots := #[.int (-68)], vm := .none },
  { cls := 9, slots := #[.int (-67)], vm := .none },
  { cls := 9, slots := #[.int (-66)], vm := .none },
  { cls := 9, slots := #[.int (-65)], vm := .none },
  { cls := 9, slots := #[.int (-64)], vm := .none },
  { cls := 9, slots := #[.int (-63)], vm := .none },
  { cls := 9, slots := #[.int (-62)], vm := .none },
  { cls := 9, slots := #[.int (-61)], vm := .none },
  { cls := 9, slots := #[.int (-60)], vm := .none },
  { cls := 9, slots := #[.int (-59)], vm := .none },
  { cls := 9, slots := #[.int (-58)], vm := .none },
  { cls := 9, slots := #[.int (-57)], vm := .none },
  { cls := 9, slots := #[.int (-56)], vm := .none },
  { cls := 9, slots := #[.int (-55)], vm := .none },
  { cls := 9, slots := #[.int (-54)], vm := .none },
  { cls := 9, slots := #[.int (-53)], vm := .none },
  { cls := 9, slots := #[.int (-52)], vm := .none },
  { cls := 9, slots := #[.int (-51)], vm := .none },
  { cls := 9, slots := #[.int (-50)], vm := .none },
  { cls := 9, slots := #[.int (-49)], vm := .none },
  { cls := 9, slots := #[.int (-48)], vm := .none },
  { cls := 9, slots := #[.int (-47)], vm := .none },
  { cls := 9, slots := #[.int (-46)], vm := .none },
  { cls := 9, slots := #[.int (-45)], vm := .none },
  { cls := 9, slots := #[.int (-44)], vm := .none },
  { cls := 9, slots := #[.int (-43)], vm := .none },
  { cls := 9, slots := #[.int (-42)], vm := .none },
  { cls := 9, slots := #[.int (-41)], vm := .none },
  { cls := 9, slots := #[.int (-40)], vm := .none },
  { cls := 9, slots := #[.int (-39)], vm := .none },
  { cls := 9, slots := #[.int (-38)], vm := .none },
  { cls := 9, slots := #[.int (-37)], vm := .none },
  { cls := 9, slots := #[.int (-36)], vm := .none },
  { cls := 9, slots := #[.int (-35)], vm := .none },
  { cls := 9, slots := #[.int (-34)], vm := .none },
  { cls := 9, slots := #[.int (-33)], vm := .none },
  { cls := 9, slots := #[.int (-32)], vm := .none },
  { cls := 9, slots := #[.int (-31)], vm := .none },
  { cls := 9, slots := #[.int (-30)], vm := .none },
  { cls := 9, slots := #[.int (-29)], vm := .none },
  { cls := 9, slots := #[.int (-28)], vm := .none },
  { cls := 9, slots := #[.int (-27)], vm := .none },
  { cls := 9, slots := #[.int (-26)], vm := .none },
  { cls := 9, slots := #[.int (-25)], vm := .none },
  { cls := 9, slots := #[.int (-24)], vm := .none },
  { cls := 9, slots := #[.int (-23)], vm := .none },
  { cls := 9, slots := #[.int (-22)], vm := .none },
  { cls := 9, slots := #[.int (-21)], vm := .none },
  { cls := 9, slots := #[.int (-20)], vm := .none },
  { cls := 9, slots := #[.int (-19)], vm := .none },
  { cls := 9, slots := #[.int (-18)], vm := .none },
  { cls := 9, slots := #[.int (-17)], vm := .none },
  { cls := 9, slots := #[.int (-16)], vm := .none },
  { cls := 9, slots := #[.int (-15)], vm := .none },
  { cls := 9, slots := #[.int (-14)], vm := .none },
  { cls := 9, slots := #[.int (-13)], vm := .none },
  { cls := 9, slots := #[.int (-12)], vm := .none },
  { cls := 9, slots := #[.int (-11)], vm := .none },
  { cls := 9, slots := #[.int (-10)], vm := .none },
  { cls := 9, slots := #[.int (-9)], vm := .none },
  { cls := 9, slots := #[.int (-8)], vm := .none },
  { cls := 9, slots := #[.int (-7)], vm := .none },
  { cls := 9, slots := #[.int (-6)], vm := .none },
  { cls := 9, slots := #[.int (-5)], vm := .none },
  { cls := 9, slots := #[.int (-4)], vm := .none },
  { cls := 9, slots := #[.int (-3)], vm := .none },
  { cls := 9, slots := #[.int (-2)], vm := .none },
  { cls := 9, slots := #[.int (-1)], vm := .none },
  { cls := 9, slots := #[.int (0)], vm := .none },
  { cls := 9, slots := #[.int (1)], vm := .none },
  { cls := 9, slots := #[.int (2)], vm := .none },
  { cls := 9, slots := #[.int (3)], vm := .none },
  { cls := 9, slots := #[.int (4)], vm := .none },
  { cls := 9, slots := #[.int (5)], vm := .none },
  { cls := 9, slots := #[.int (6)], vm := .none },
  { cls := 9, slots := #[.int (7)], vm := .none },
  { cls := 9, slots := #[.int (8)], vm := .none },
  { cls := 9, slots := #[.int (9)], vm := .none },
  { cls := 9, slots := #[.int (10)], vm := .none },
  { cls := 9, slots := #[.int (11)], vm := .none },
  { cls := 9, slots := #[.int (12)], vm := .none },
  { cls := 9, slots := #[.int (13)], vm := .none },
  { cls := 9, slots := #[.int (14)], vm := .none },
  { cls := 9, slots := #[.int (15)], vm := .none },
  { cls := 9, slots := #[.int (16)], vm := .none },
  { cls := 9, slots := #[.int (17)], vm := .none },
  { cls := 9, slots := #[.int (18)], vm := .none },
  { cls := 9, slots := #[.int (19)], vm := .none },
  { cls := 9, slots := #[.int (20)], vm := .none },
  { cls := 9, slots := #[.int (21)], vm := .none },
  { cls := 9, slots := #[.int (22)], vm := .none },
  { cls := 9, slots := #[.int (23)], vm := .none },
  { cls := 9, slots := #[.int (24)], vm := .none },
  { cls := 9, slots := #[.int (25)], vm := .none },
  { cls := 9, slots := #[.int (26)], vm := .none },
  { cls := 9, slots := #[.int (27)], vm := .none },
  { cls := 9, slots := #[.int (28)], vm := .none },
  { cls := 9, slots := #[.int (29)], vm := .none },
  { cls := 9, slots := #[.int (30)], vm := .none },
  { cls := 9, slots := #[.int (31)], vm := .none },
  { cls := 9, slots := #[.int (32)], vm := .none },
  { cls := 9, slots := #[.int (33)], vm := .none },
  { cls := 9, slots := #[.int (34)], vm := .none },
  { cls := 9, slots := #[.int (35)], vm := .none },
  { cls := 9, slots := #[.int (36)], vm := .none },
  { cls := 9, slots := #[.int (37)], vm := .none },
  { cls := 9, slots := #[.int (38)], vm := .none },
  { cls := 9, slots := #[.int (39)], vm := .none },
  { cls := 9, slots := #[.int (40)], vm := .none },
  { cls := 9, slots := #[.int (41)], vm := .none },
  { cls := 9, slots := #[.int (42)], vm := .none },
  { cls := 9, slots := #[.int (43)], vm := .none },
  { cls := 9, slots := #[.int (44)], vm := .none },
  { cls := 9, slots := #[.int (45)], vm := .none },
  { cls := 9, slots := #[.int (46)], vm := .none },
  { cls := 9, slots := #[.int (47)], vm := .none },
  { cls := 9, slots := #[.int (48)], vm := .none },
  { cls := 9, slots := #[.int (49)], vm := .none },
  { cls := 9, slots := #[.int (50)], vm := .none },
  { cls := 9, slots := #[.int (51)], vm := .none },
  { cls := 9, slots := #[.int (52)], vm := .none },
  { cls := 9, slots := #[.int (53)], vm := .none },
  { cls := 9, slots := #[.int (54)], vm := .none },
  { cls := 9, slots := #[.int (55)], vm := .none },
  { cls := 9, slots := #[.int (56)], vm := .none },
  { cls := 9, slots := #[.int (57)], vm := .none },
  { cls := 9, slots := #[.int (58)], vm := .none },
  { cls := 9, slots := #[.int (59)], vm := .none },
  { cls := 9, slots := #[.int (60)], vm := .none },
  { cls := 9, slots := #[.int (61)], vm := .none },
  { cls := 9, slots := #[.int (62)], vm := .none },
  { cls := 9, slots := #[.int (63)], vm := .none },
  { cls := 9, slots := #[.int (64)], vm := .none },
  { cls := 9, slots := #[.int (65)], vm := .none },
  { cls := 9, slots := #[.int (66)], vm := .none },
  { cls := 9, slots := #[.int (67)], vm := .none },
  { cls := 9, slots := #[.int (68)], vm := .none },
  { cls := 9, slots := #[.int (69)], vm := .none },
  { cls := 9, slots := #[.int (70)], vm := .none },
  { cls := 9, slots := #[.int (71)], vm := .none },
  { cls := 9, slots := #[.int (72)], vm := .none },
  { cls := 9, slots := #[.int (73)], vm := .none },
  { cls := 9, slots := #[.int (74)], vm := .none },
  { cls := 9, slots := #[.int (75)], vm := .none },
  { cls := 9, slots := #[.int (76)], vm := .none },
  { cls := 9, slots := #[.int (77)], vm := .none },
  { cls := 9, slots := #[.int (78)], vm := .none },
  { cls := 9, slots := #[.int (79)], vm := .none },
  { cls := 9, slots := #[.int (80)], vm := .none },
  { cls := 9, slots := #[.int (81)], vm := .none },
  { cls := 9, slots := #[.int (82)], vm := .none },
  { cls := 9, slots := #[.int (83)], vm := .none },
  { cls := 9, slots := #[.int (84)], vm := .none },
  { cls := 9, slots := #[.int (85)], vm := .none },
  { cls := 9, slots := #[.int (86)], vm := .none },
  { cls := 9, slots := #[.int (87)], vm := .none },
  { cls := 9, slots := #[.int (88)], vm := .none },
  { cls := 9, slots := #[.int (89)], vm := .none },
  { cls := 9, slots := #[.int (90)], vm := .none },
  { cls := 9, slots := #[.int (91)], vm := .none },
  { cls := 9, slots := #[.int (92)], vm := .none },
  { cls := 9, slots := #[.int (93)], vm := .none },
  { cls := 9, slots := #[.int (94)], vm := .none },
  { cls := 9, slots := #[.int (95)], vm := .none },
  { cls := 9, slots := #[.int (96)], vm := .none },
  { cls := 9, slots := #[.int (97)], vm := .none },
  { cls := 9, slots := #[.int (98)], vm := .none },
  { cls := 9, slots := #[.int (99)], vm := .none },
  { cls := 9, slots := #[.int (100)], vm := .none },
  { cls := 9, slots := #[.int (101)], vm := .none },
  { cls := 9, slots := #[.int (102)], vm := .none },
  { cls := 9, slots := #[.int (103)], vm := .none },
  { cls := 9, slots := #[.int (104)], vm := .none },
  { cls := 9, slots := #[.int (105)], vm := .none },
  { cls := 9, slots := #[.int (106)], vm := .none },
  { cls := 9, slots := #[.int (107)], vm := .none },
  { cls := 9, slots := #[.int (108)], vm := .none },
  { cls := 9, slots := #[.int (109)], vm := .none },
  { cls := 9, slots := #[.int (110)], vm := .none },
  { cls := 9, slots := #[.int (111)], vm := .none },
  { cls := 9, slots := #[.int (112)], vm := .none },
  { cls := 9, slots := #[.int (113)], vm := .none },
  { cls := 9, slots := #[.int (114)], vm := .none },
  { cls := 9, slots := #[.int (115)], vm := .none },
  { cls := 9, slots := #[.int (116)], vm := .none },
  { cls := 9, slots := #[.int (117)], vm := .none },
  { cls := 9, slots := #[.int (118)], vm := .none },
  { cls := 9, slots := #[.int (119)], vm := .none },
  { cls := 9, slots := #[.int (120)], vm := .none },
  { cls := 9, slots := #[.int (121)], vm := .none },
  { cls := 9, slots := #[.int (122)], vm := .none },
  { cls := 9, slots := #[.int (123)], vm := .none },
  { cls := 9, slots := #[.int (124)], vm := .none },
  { cls := 9, slots := #[.int (125)], vm := .none },
  { cls := 9, slots := #[.int (126)], vm := .none },
  { cls := 9, slots := #[.int (127)], vm := .none }]
def classes : Array Class := #[k0, k1, k2, k3, k4, k5, k6, k7, k8, k9, k10, k11, k12, k13, k14, k15, k16]
def interned : List (Array UInt16 × Addr) := []
def slotsUsed : Nat := 517
def theMethod : MethodId := ⟨1, 1⟩
def args0 : Array Value := #[.int 5, .int 1, .int 7]
def aboutOver (below : List Frame) : State where
  vm := { classes := classes, interned := interned.toArray }
  heap := heap
  slotsUsed := slotsUsed
  threads := #[{ frames := .invoking theMethod args0 :: below }]
def below0 : List Frame := [.native { method := ⟨0, 0⟩, args := #[] }]
def about1 : State := aboutOver below0
def p0 : Program := .bare "" "" ""
def e0 : Env := launch0.env 0 0 0
theorem w_frames : about1.frames = Frame.invoking theMethod args0 :: below0 := rfl
set_option maxRecDepth 65536 in
theorem w_args : argsFit about1.vm theMethod args0 = true := by decide +kernel
set_option maxRecDepth 65536 in
theorem w_heap : heapFits about1 = true := by decide +kernel
set_option maxRecDepth 65536 in
theorem w_runnable : about1.curStatus? = some .runnable := by decide +kernel
set_option maxRecDepth 65536 in
theorem w_alone : about1.alone = true := by decide +kernel
set_option maxRecDepth 65536 in
theorem w_named : about1.methodNamed? x = some theMethod := by decide +kernel
set_option maxRecDepth 65536 in
theorem w_hears : about1.hears theMethod below0 = true := by decide +kernel
set_option maxRecDepth 65536 in
theorem w_ripe : about1.ripe theMethod args0 below0 = true := by decide +kernel
theorem w_running : about1.status = .running := rfl
set_option maxRecDepth 65536 in
theorem w_room : about1.hasRoom e0.platform room_1 = true :=
  launch0.hasRoom_least _ room_1 (by decide +kernel) (by decide +kernel) (by decide +kernel) (by decide +kernel) (by decide +kernel) (by decide +kernel)
theorem allAtoms_all (ts : List Jvm.Cond) (a : Array Jvm.Value) (st : Jvm.State) : (allAtoms ts).before a st = ts.all (fun c => c.before a st) := by
  induction ts with
  | nil => rfl
  | cons c t ih =>
    show (Jvm.Cond.and c (allAtoms t)).before a st = _
    rw [Jvm.Cond.before_and, ih, List.all_cons]
def words1 : List Jvm.Cond := Jvm.Cond.code x code maxLocals ret :: tables_1
/-- a 'code' word, met by the world's own term for the bytes: nothing is compared byte by byte -/
theorem code_word {y : MethodName} {bytes : ByteArray} {mx : Nat} {rt : Option FieldType} {a : Array Value} {s : State} {m : MethodId} {meth : Method} {c : Code} (h1 : s.methodNamed? y = some m) (h2 : s.vm.method? m = some meth) (h3 : meth.code = some c) (h4 : c.code = bytes)
    (h5 : (c.maxLocals == mx && c.exceptionTable.isEmpty && decide (c.maxStack ≤ mostOperands) && decide (meth.sig.returnType = rt) && !meth.locks && decide (parseMethodDescriptor y.desc = some meth.sig)) = true) : (Jvm.Cond.code y bytes mx rt).before a s = true := by
  simp only [Bool.and_eq_true, beq_iff_eq, Bool.not_eq_true', decide_eq_true_eq] at h5
  obtain ⟨⟨⟨⟨⟨g1, g2⟩, g3⟩, g4⟩, g5⟩, g6⟩ := h5
  simp [Cond.before, Cond.holds, Cond.value, h1, h2, h3, h4, g1, g2, g3, g4, g5, g6]
def isCode : Jvm.Cond → Bool
  | .code _ _ _ _ => true
  | _ => false
theorem all_split {L : List Jvm.Cond} {P : Jvm.Cond → Bool} (h1 : L.all (fun c => isCode c || P c) = true) (h2 : ∀ c ∈ L.filter isCode, P c = true) : L.all P = true := by
  refine List.all_eq_true.mpr fun c hc => ?_
  have h := List.all_eq_true.mp h1 c hc
  rcases Bool.eq_false_or_eq_true (isCode c) with hi | hi
  · exact h2 c (List.mem_filter.mpr ⟨hc, hi⟩)
  · simpa [hi] using h
set_option maxRecDepth 65536 in
theorem w_c0 : (Jvm.Cond.code x code maxLocals ret).before args0 about1 = true := code_word (m := ⟨1, 1⟩) (meth := k1m1) (c := k1c1) (by decide +kernel) rfl rfl rfl (by decide +kernel)
set_option maxRecDepth 65536 in
theorem w_c1 : (Jvm.Cond.code ({ cls := "java/lang/Integer", name := "valueOf", desc := "(I)Ljava/lang/Integer;" } : Jvm.MethodName) jdk_33_method_22_code (1 : Nat) (Option.some (Jvm.ClassFile.FieldType.object "java/lang/Integer"))).before args0 about1 = true := code_word (m := ⟨9, 0⟩) (meth := k9m0) (c := k9c0) (by decide +kernel) rfl rfl rfl (by decide +kernel)
set_option maxRecDepth 65536 in
theorem w_c2 : (Jvm.Cond.code ({ cls := "com/example/leanbough/leanbough/LlrbTreeMap$Node", name := "<init>", desc := "(Ljava/lang/Object;Ljava/lang/Object;)V" } : Jvm.MethodName) prog_4_method_1_code (3 : Nat) (Option.none : Option Jvm.ClassFile.FieldType)).before args0 about1 = true := code_word (m := ⟨3, 0⟩) (meth := k3m0) (c := k3c0) (by decide +kernel) rfl rfl rfl (by decide +kernel)
set_option maxRecDepth 65536 in
theorem w_c3 : (Jvm.Cond.code ({ cls := "java/lang/Object", name := "<init>", desc := "()V" } : Jvm.MethodName) object_method_1_code (1 : Nat) (Option.none : Option Jvm.ClassFile.FieldType)).before args0 about1 = true := code_word (m := ⟨0, 0⟩) (meth := k0m0) (c := k0c0) (by decide +kernel) rfl rfl rfl (by decide +kernel)
set_option maxRecDepth 65536 in
theorem w_c4 : (Jvm.Cond.code ({ cls := "com/example/leanbough/leanbough/LlrbTreeMap$Node", name := "setLeftCount", desc := "(I)V" } : Jvm.MethodName) prog_4_method_5_code (2 : Nat) (Option.none : Option Jvm.ClassFile.FieldType)).before args0 about1 = true := code_word (m := ⟨3, 4⟩) (meth := k3m4) (c := k3c4) (by decide +kernel) rfl rfl rfl (by decide +kernel)
set_option maxRecDepth 65536 in
theorem w_c5 : (Jvm.Cond.code ({ cls := "com/example/leanbough/leanbough/LlrbTreeMap$Node", name := "setRed", desc := "(Z)V" } : Jvm.MethodName) prog_4_method_3_code (2 : Nat) (Option.none : Option Jvm.ClassFile.FieldType)).before args0 about1 = true := code_word (m := ⟨3, 2⟩) (meth := k3m2) (c := k3c2) (by decide +kernel) rfl rfl rfl (by decide +kernel)
set_option maxRecDepth 65536 in
theorem w_c6 : (Jvm.Cond.code ({ cls := "com/example/leanbough/leanbough/LlrbTreeMap$Node", name := "red", desc := "()Z" } : Jvm.MethodName) prog_4_method_2_code (1 : Nat) (Option.some Jvm.ClassFile.FieldType.boolean)).before args0 about1 = true := code_word (m := ⟨3, 1⟩) (meth := k3m1) (c := k3c1) (by decide +kernel) rfl rfl rfl (by decide +kernel)
set_option maxRecDepth 65536 in
theorem w_c7 : (Jvm.Cond.code ({ cls := "com/example/leanbough/leanbough/LlrbTreeMap$Node", name := "leftCount", desc := "()I" } : Jvm.MethodName) prog_4_method_4_code (1 : Nat) (Option.some Jvm.ClassFile.FieldType.int)).before args0 about1 = true := code_word (m := ⟨3, 3⟩) (meth := k3m3) (c := k3c3) (by decide +kernel) rfl rfl rfl (by decide +kernel)
set_option maxRecDepth 65536 in
theorem w_c8 : (Jvm.Cond.code ({ cls := "java/lang/Integer", name := "<init>", desc := "(I)V" } : Jvm.MethodName) jdk_33_method_23_code (2 : Nat) (Option.none : Option Jvm.ClassFile.FieldType)).before args0 about1 = true := code_word (m := ⟨9, 1⟩) (meth := k9m1) (c := k9c1) (by decide +kernel) rfl rfl rfl (by decide +kernel)
set_option maxRecDepth 65536 in
theorem w_c9 : (Jvm.Cond.code ({ cls := "java/lang/Number", name := "<init>", desc := "()V" } : Jvm.MethodName) jdk_18_method_1_code (1 : Nat) (Option.none : Option Jvm.ClassFile.FieldType)).before args0 about1 = true := code_word (m := ⟨5, 0⟩) (meth := k5m0) (c := k5c0) (by decide +kernel) rfl rfl rfl (by decide +kernel)
def codes1 : List Jvm.Cond := [Jvm.Cond.code x code maxLocals ret, Jvm.Cond.code ({ cls := "java/lang/Integer", name := "valueOf", desc := "(I)Ljava/lang/Integer;" } : Jvm.MethodName) jdk_33_method_22_code (1 : Nat) (Option.some (Jvm.ClassFile.FieldType.object "java/lang/Integer")), Jvm.Cond.code ({ cls := "com/example/leanbough/leanbough/LlrbTreeMap$Node", name := "<init>", desc := "(Ljava/lang/Object;Ljava/lang/Object;)V" } : Jvm.MethodName) prog_4_method_1_code (3 : Nat) (Option.none : Option Jvm.ClassFile.FieldType), Jvm.Cond.code ({ cls := "java/lang/Object", name := "<init>", desc := "()V" } : Jvm.MethodName) object_method_1_code (1 : Nat) (Option.none : Option Jvm.ClassFile.FieldType), Jvm.Cond.code ({ cls := "com/example/leanbough/leanbough/LlrbTreeMap$Node", name := "setLeftCount", desc := "(I)V" } : Jvm.MethodName) prog_4_method_5_code (2 : Nat) (Option.none : Option Jvm.ClassFile.FieldType), Jvm.Cond.code ({ cls := "com/example/leanbough/leanbough/LlrbTreeMap$Node", name := "setRed", desc := "(Z)V" } : Jvm.MethodName) prog_4_method_3_code (2 : Nat) (Option.none : Option Jvm.ClassFile.FieldType), Jvm.Cond.code ({ cls := "com/example/leanbough/leanbough/LlrbTreeMap$Node", name := "red", desc := "()Z" } : Jvm.MethodName) prog_4_method_2_code (1 : Nat) (Option.some Jvm.ClassFile.FieldType.boolean), Jvm.Cond.code ({ cls := "com/example/leanbough/leanbough/LlrbTreeMap$Node", name := "leftCount", desc := "()I" } : Jvm.MethodName) prog_4_method_4_code (1 : Nat) (Option.some Jvm.ClassFile.FieldType.int), Jvm.Cond.code ({ cls := "java/lang/Integer", name := "<init>", desc := "(I)V" } : Jvm.MethodName) jdk_33_method_23_code (2 : Nat) (Option.none : Option Jvm.ClassFile.FieldType), Jvm.Cond.code ({ cls := "java/lang/Number", name := "<init>", desc := "()V" } : Jvm.MethodName) jdk_18_method_1_code (1 : Nat) (Option.none : Option Jvm.ClassFile.FieldType)]
set_option maxRecDepth 65536 in
theorem codes_eq : words1.filter isCode = codes1 := rfl
theorem w_codes : ∀ c ∈ words1.filter isCode, c.before args0 about1 = true := by
  rw [codes_eq]
  intro c hc
  simp only [codes1, List.mem_cons, List.not_mem_nil, or_false] at hc
  rcases hc with rfl | rfl | rfl | rfl | rfl | rfl | rfl | rfl | rfl | rfl
  · exact w_c0
  · exact w_c1
  · exact w_c2
  · exact w_c3
  · exact w_c4
  · exact w_c5
  · exact w_c6
  · exact w_c7
  · exact w_c8
  · exact w_c9
set_option maxRecDepth 65536 in
theorem w_t1 : (words1.take 24).all (fun c => isCode c || c.before args0 about1) = true := by decide +kernel
set_option maxRecDepth 65536 in
theorem w_t2 : ((words1.drop 24).take 24).all (fun c => isCode c || c.before args0 about1) = true := by decide +kernel
set_option maxRecDepth 65536 in
theorem w_t3 : ((words1.drop 24).drop 24).all (fun c => isCode c || c.before args0 about1) = true := by decide +kernel
theorem w_tables : (allAtoms (Jvm.Cond.code x code maxLocals ret :: tables_1)).before args0 about1 = true := by
  rw [allAtoms_all]
  show words1.all (fun c => c.before args0 about1) = true
  refine all_split ?_ w_codes
  rw [← List.take_append_drop 24 words1, List.all_append, w_t1, ← List.take_append_drop 24 (words1.drop 24), List.all_append, w_t2, w_t3]
  rfl
set_option maxRecDepth 65536 in
theorem w_rest : rest_1_c.before args0 about1 = true := by decide +kernel
set_option maxRecDepth 65536 in
theorem w_case : (Jvm.Cond.and given_1 narrow_1).before args0 about1 = true := by decide +kernel
theorem w_applies : (headSpec (Jvm.Cond.code x code maxLocals ret :: tables_1) room_1).applies x e0.platform about1 = true :=
  (Spec.applies_iff w_frames).mpr ⟨w_running, w_runnable, w_alone, w_named, w_hears, w_ripe, w_room, w_tables⟩
theorem atStart : AtStart classFile x code maxLocals ret World_1 tables_1 room_1 Calls_1 rest_1 Pre_1 launch0 p0 e0 about1 theMethod args0 below0 :=
  ⟨lists_1, trivial, launch0.admits_env _ _ _, launch0.least_env, fairChoices_fair.cas, fairChoices_fair.clock, w_frames, w_args, w_heap, w_applies, trivial, w_rest, w_case⟩
end start1
theorem witness_1 : WitnessClaimed_1 := ⟨start1.p0, start1.e0, start1.about1, start1.theMethod, start1.args0, start1.below0, start1.atStart⟩
end Jvm.Pilot.@@N@@
