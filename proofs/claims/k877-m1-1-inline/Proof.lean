import JvmDerived
import JvmDerived.Pilot.@@N@@Statement
import JvmDerived.Pilot.@@N@@Code
set_option linter.unusedVariables false
set_option linter.unusedSimpArgs false
namespace Jvm.Pilot.@@N@@
namespace W
open Jvm Jvm.ClassFile Sem Op Lib Jvm.Free Jvm.Stand Jvm.LawKit Jvm.RoadKit Bundle
/-- from U the run comes to an end that says G -/
def Go (tb : Tables) (e : Env) (below : List Frame) (G : Outcome → State → Prop) (U : State) : Prop := ∃ s₂ o, Steps tb e below U s₂ ∧ s₂.status = .running ∧ Ended s₂ below o ∧ G o s₂
theorem Go.via {tb : Tables} {e : Env} {below : List Frame} {G : Outcome → State → Prop} {U V : State} (f : ∀ t, Steps tb e below V t → Steps tb e below U t) (k : Go tb e below G V) : Go tb e below G U := by
  obtain ⟨s₂, o, h1, h⟩ := k; exact ⟨s₂, o, f _ h1, h⟩
theorem Go.tr {tb : Tables} {e : Env} {below : List Frame} {G : Outcome → State → Prop} {U V : State} (f : Steps tb e below U V) (k : Go tb e below G V) : Go tb e below G U := by
  obtain ⟨s₂, o, h1, h⟩ := k; exact ⟨s₂, o, f.trans h1, h⟩
/-- what a comparison of two ints says -/
abbrev cv (cd : ClassFile.Cond) (a b : Int32) : Prop := match cd with
  | .eq => a = b
  | .ne => ¬ a = b
  | .lt => a < b
  | .ge => ¬ a < b
  | .gt => b < a
  | .le => ¬ b < a
theorem cvY {cd : ClassFile.Cond} {a b : Int32} (q : cv cd a b) : if_icmp.holds cd a b = true := by
  cases cd
  · exact (teq q).1
  · exact (feq q).2
  · exact (tlt q).1
  · exact (flt q).2.1
  · exact (tlt q).2.2.1
  · exact (flt q).2.2.2
theorem cvN {cd : ClassFile.Cond} {a b : Int32} (q : ¬ cv cd a b) : if_icmp.holds cd a b = false := by
  cases cd
  · exact (feq q).1
  · exact (teq (Decidable.byContradiction q)).2
  · exact (flt q).1
  · exact (tlt (Decidable.byContradiction q)).2.1
  · exact (flt q).2.2.1
  · exact (tlt (Decidable.byContradiction q)).2.2.2
theorem cvD (cd : ClassFile.Cond) (a b : Int32) : cv cd a b ∨ ¬ cv cd a b := Classical.em _
abbrev Q0 (p : Program) (T : State) (m : MethodId) (c : Code) (below : List Frame) (code : ByteArray) : Prop := At T m c below ∧ p.tables.exec = Jvm.exec ∧ c.code = code
theorem catR {v : Value} (h : v.isRef = true) : v.category = 1 := by cases v <;> first | rfl | cases h
theorem stR {ls ls2 : Array Slot} {k : Nat} {v : Value} {o : Slot} (hv : v.isRef = true) (hold : ls[k]? = some o) (ho : One o) (h2 : ls.setIfInBounds k (.val v) = ls2) : storeLocals ls k v = some ls2 := by
  rw [← h2]; exact Jvm.Free.XS.store1 hold ho (catR hv)
section Plain
variable {p : Program} {e : Env} {below : List Frame} {G : Outcome → State → Prop} {T : State} {m : MethodId} {c : Code} {code : ByteArray} {pc pc1 pc2 : Nat} {ls ls2 : Array Slot} {st : List Value}

theorem g_iloadN (q : Q0 p T m c below code) {k : Fin 4} {v : Int32} (hd : decode code pc = .ok (.iload_n k, 1)) (hl : ls[k.val]? = some (.val (.int v))) (hp : pc + 1 = pc1) (K : Go p.tables e below G (T.setTop (mkF m pc1 ls (.int v :: st)))) : Go p.tables e below G (T.setTop (mkF m pc ls st)) := by
  subst hp; exact Go.via (fun _ k => Jvm.Free.XS.iloadN q.1 q.2.1 rfl (hb q.2.2 hd) hl k) K
theorem g_aloadN (q : Q0 p T m c below code) {k : Fin 4} {v : Value} (hd : decode code pc = .ok (.aload_n k, 1)) (hl : ls[k.val]? = some (.val v)) (hv : v.isRef = true) (hp : pc + 1 = pc1) (K : Go p.tables e below G (T.setTop (mkF m pc1 ls (v :: st)))) : Go p.tables e below G (T.setTop (mkF m pc ls st)) := by
  subst hp; exact Go.via (fun _ k => Jvm.Free.XS.aloadN q.1 q.2.1 rfl (hb q.2.2 hd) hl hv k) K
theorem g_istoreN (q : Q0 p T m c below code) {k : Fin 4} {v : Int32} (hd : decode code pc = .ok (.istore_n k, 1)) (hl : storeLocals ls k.val (.int v) = some ls2) (hp : pc + 1 = pc1) (K : Go p.tables e below G (T.setTop (mkF m pc1 ls2 st))) : Go p.tables e below G (T.setTop (mkF m pc ls (.int v :: st))) := by
  subst hp; exact Go.via (fun _ k => Jvm.Free.XS.istoreN q.1 q.2.1 rfl (hb q.2.2 hd) rfl hl k) K
theorem g_astoreN (q : Q0 p T m c below code) {k : Fin 4} {v : Value} (hd : decode code pc = .ok (.astore_n k, 1)) (hv : v.isRef = true) (hl : storeLocals ls k.val v = some ls2) (hp : pc + 1 = pc1) (K : Go p.tables e below G (T.setTop (mkF m pc1 ls2 st))) : Go p.tables e below G (T.setTop (mkF m pc ls (v :: st))) := by
  subst hp; exact Go.via (fun _ k => Jvm.Free.XS.astoreN q.1 q.2.1 rfl (hb q.2.2 hd) rfl hv hl k) K
theorem g_lloadN (q : Q0 p T m c below code) {k : Fin 4} {v : Int64} (hd : decode code pc = .ok (.lload_n k, 1)) (hl : ls[k.val]? = some (.val (.long v))) (hp : pc + 1 = pc1) (K : Go p.tables e below G (T.setTop (mkF m pc1 ls (.long v :: st)))) : Go p.tables e below G (T.setTop (mkF m pc ls st)) := by
  subst hp; exact Go.via (fun _ k => Jvm.Free.XT.lloadN q.1 q.2.1 rfl (hb q.2.2 hd) hl k) K
theorem g_lstoreN (q : Q0 p T m c below code) {k : Fin 4} {v : Int64} (hd : decode code pc = .ok (.lstore_n k, 1)) (hl : storeLocals ls k.val (.long v) = some ls2) (hp : pc + 1 = pc1) (K : Go p.tables e below G (T.setTop (mkF m pc1 ls2 st))) : Go p.tables e below G (T.setTop (mkF m pc ls (.long v :: st))) := by
  subst hp; exact Go.via (fun _ k => Jvm.Free.XT.lstoreN q.1 q.2.1 rfl (hb q.2.2 hd) rfl hl k) K
theorem g_iload (q : Q0 p T m c below code) {k : Nat} {v : Int32} (hd : decode code pc = .ok (.iload k, 2)) (hl : ls[k]? = some (.val (.int v))) (hp : pc + 2 = pc1) (K : Go p.tables e below G (T.setTop (mkF m pc1 ls (.int v :: st)))) : Go p.tables e below G (T.setTop (mkF m pc ls st)) := by
  subst hp; exact Go.via (fun _ k => Jvm.Free.XS.iload q.1 q.2.1 rfl (hb q.2.2 hd) hl k) K
theorem g_aload (q : Q0 p T m c below code) {k : Nat} {v : Value} (hd : decode code pc = .ok (.aload k, 2)) (hl : ls[k]? = some (.val v)) (hv : v.isRef = true) (hp : pc + 2 = pc1) (K : Go p.tables e below G (T.setTop (mkF m pc1 ls (v :: st)))) : Go p.tables e below G (T.setTop (mkF m pc ls st)) := by
  subst hp; exact Go.via (fun _ k => Jvm.Free.XS.aload q.1 q.2.1 rfl (hb q.2.2 hd) hl hv k) K
theorem g_istore (q : Q0 p T m c below code) {k : Nat} {v : Int32} (hd : decode code pc = .ok (.istore k, 2)) (hl : storeLocals ls k (.int v) = some ls2) (hp : pc + 2 = pc1) (K : Go p.tables e below G (T.setTop (mkF m pc1 ls2 st))) : Go p.tables e below G (T.setTop (mkF m pc ls (.int v :: st))) := by
  subst hp; exact Go.via (fun _ k => Jvm.Free.XS.istore q.1 q.2.1 rfl (hb q.2.2 hd) rfl hl k) K
theorem g_astore (q : Q0 p T m c below code) {k : Nat} {v : Value} (hd : decode code pc = .ok (.astore k, 2)) (hv : v.isRef = true) (hl : storeLocals ls k v = some ls2) (hp : pc + 2 = pc1) (K : Go p.tables e below G (T.setTop (mkF m pc1 ls2 st))) : Go p.tables e below G (T.setTop (mkF m pc ls (v :: st))) := by
  subst hp; exact Go.via (fun _ k => Jvm.Free.XS.astore q.1 q.2.1 rfl (hb q.2.2 hd) rfl hv hl k) K
theorem g_lload (q : Q0 p T m c below code) {k : Nat} {v : Int64} (hd : decode code pc = .ok (.lload k, 2)) (hl : ls[k]? = some (.val (.long v))) (hp : pc + 2 = pc1) (K : Go p.tables e below G (T.setTop (mkF m pc1 ls (.long v :: st)))) : Go p.tables e below G (T.setTop (mkF m pc ls st)) := by
  subst hp; exact Go.via (fun _ k => Jvm.Free.XT.lload q.1 q.2.1 rfl (hb q.2.2 hd) hl k) K
theorem g_lstore (q : Q0 p T m c below code) {k : Nat} {v : Int64} (hd : decode code pc = .ok (.lstore k, 2)) (hl : storeLocals ls k (.long v) = some ls2) (hp : pc + 2 = pc1) (K : Go p.tables e below G (T.setTop (mkF m pc1 ls2 st))) : Go p.tables e below G (T.setTop (mkF m pc ls (.long v :: st))) := by
  subst hp; exact Go.via (fun _ k => Jvm.Free.XT.lstore q.1 q.2.1 rfl (hb q.2.2 hd) rfl hl k) K
theorem g_iconst (q : Q0 p T m c below code) {i : Int} {v : Int32} (hd : decode code pc = .ok (.iconst i, 1)) (hv : Int32.ofInt i = v) (hp : pc + 1 = pc1) (K : Go p.tables e below G (T.setTop (mkF m pc1 ls (.int v :: st)))) : Go p.tables e below G (T.setTop (mkF m pc ls st)) := by
  subst hp; exact Go.via (fun _ k => Jvm.Free.XS.iconst q.1 q.2.1 rfl (hb q.2.2 hd) (hv ▸ k)) K
theorem g_bipush (q : Q0 p T m c below code) {i : Int} {v : Int32} (hd : decode code pc = .ok (.bipush i, 2)) (hv : (Int8.ofInt i).toInt32 = v) (hp : pc + 2 = pc1) (K : Go p.tables e below G (T.setTop (mkF m pc1 ls (.int v :: st)))) : Go p.tables e below G (T.setTop (mkF m pc ls st)) := by
  subst hp; exact Go.via (fun _ k => Jvm.Free.XS.bipush q.1 q.2.1 rfl (hb q.2.2 hd) (hv ▸ k)) K
theorem g_sipush (q : Q0 p T m c below code) {i : Int} {v : Int32} (hd : decode code pc = .ok (.sipush i, 3)) (hv : (Int16.ofInt i).toInt32 = v) (hp : pc + 3 = pc1) (K : Go p.tables e below G (T.setTop (mkF m pc1 ls (.int v :: st)))) : Go p.tables e below G (T.setTop (mkF m pc ls st)) := by
  subst hp; exact Go.via (fun _ k => Jvm.Free.XS.sipush q.1 q.2.1 rfl (hb q.2.2 hd) (hv ▸ k)) K
theorem g_null (q : Q0 p T m c below code)  (hd : decode code pc = .ok (.aconst_null, 1))  (hp : pc + 1 = pc1) (K : Go p.tables e below G (T.setTop (mkF m pc1 ls (.null :: st)))) : Go p.tables e below G (T.setTop (mkF m pc ls st)) := by
  subst hp; exact Go.via (fun _ k => Jvm.Free.XS.aconstNull q.1 q.2.1 rfl (hb q.2.2 hd) k) K
theorem g_iadd (q : Q0 p T m c below code) {x y : Int32} (hd : decode code pc = .ok (.iadd, 1))  (hp : pc + 1 = pc1) (K : Go p.tables e below G (T.setTop (mkF m pc1 ls (.int (x + y) :: st)))) : Go p.tables e below G (T.setTop (mkF m pc ls (.int y :: .int x :: st))) := by
  subst hp; exact Go.via (fun _ k => Jvm.Free.XS.iadd q.1 q.2.1 rfl (hb q.2.2 hd) rfl k) K
theorem g_isub (q : Q0 p T m c below code) {x y : Int32} (hd : decode code pc = .ok (.isub, 1))  (hp : pc + 1 = pc1) (K : Go p.tables e below G (T.setTop (mkF m pc1 ls (.int (x - y) :: st)))) : Go p.tables e below G (T.setTop (mkF m pc ls (.int y :: .int x :: st))) := by
  subst hp; exact Go.via (fun _ k => Jvm.Free.XS.isub q.1 q.2.1 rfl (hb q.2.2 hd) rfl k) K
theorem g_iand (q : Q0 p T m c below code) {x y : Int32} (hd : decode code pc = .ok (.iand, 1))  (hp : pc + 1 = pc1) (K : Go p.tables e below G (T.setTop (mkF m pc1 ls (.int (x &&& y) :: st)))) : Go p.tables e below G (T.setTop (mkF m pc ls (.int y :: .int x :: st))) := by
  subst hp; exact Go.via (fun _ k => Jvm.Free.XS.iand q.1 q.2.1 rfl (hb q.2.2 hd) rfl k) K
theorem g_imul (q : Q0 p T m c below code) {x y : Int32} (hd : decode code pc = .ok (.imul, 1))  (hp : pc + 1 = pc1) (K : Go p.tables e below G (T.setTop (mkF m pc1 ls (.int (x * y) :: st)))) : Go p.tables e below G (T.setTop (mkF m pc ls (.int y :: .int x :: st))) := by
  subst hp; exact Go.via (fun _ k => Jvm.Free.XS.imul q.1 q.2.1 rfl (hb q.2.2 hd) rfl k) K
theorem g_irem (q : Q0 p T m c below code) {x y : Int32} (hd : decode code pc = .ok (.irem, 1)) (hy : y ≠ 0) (hp : pc + 1 = pc1) (K : Go p.tables e below G (T.setTop (mkF m pc1 ls (.int (x - (x / y) * y) :: st)))) : Go p.tables e below G (T.setTop (mkF m pc ls (.int y :: .int x :: st))) := by
  subst hp; exact Go.via (fun _ k => Jvm.Free.XS.irem q.1 q.2.1 rfl (hb q.2.2 hd) rfl hy k) K
theorem g_idiv (q : Q0 p T m c below code) {x y : Int32} (hd : decode code pc = .ok (.idiv, 1)) (hy : y ≠ 0) (hp : pc + 1 = pc1) (K : Go p.tables e below G (T.setTop (mkF m pc1 ls (.int (x / y) :: st)))) : Go p.tables e below G (T.setTop (mkF m pc ls (.int y :: .int x :: st))) := by
  subst hp; exact Go.via (fun _ k => Jvm.Free.XS.idiv q.1 q.2.1 rfl (hb q.2.2 hd) rfl hy k) K
theorem g_ineg (q : Q0 p T m c below code) {x : Int32} (hd : decode code pc = .ok (.ineg, 1))  (hp : pc + 1 = pc1) (K : Go p.tables e below G (T.setTop (mkF m pc1 ls (.int (-x) :: st)))) : Go p.tables e below G (T.setTop (mkF m pc ls (.int x :: st))) := by
  subst hp; exact Go.via (fun _ k => Jvm.Free.XS.ineg q.1 q.2.1 rfl (hb q.2.2 hd) rfl k) K
theorem g_ior (q : Q0 p T m c below code) {x y : Int32} (hd : decode code pc = .ok (.ior, 1))  (hp : pc + 1 = pc1) (K : Go p.tables e below G (T.setTop (mkF m pc1 ls (.int (x ||| y) :: st)))) : Go p.tables e below G (T.setTop (mkF m pc ls (.int y :: .int x :: st))) := by
  subst hp; exact Go.via (fun _ k => Jvm.Free.XT.ior q.1 q.2.1 rfl (hb q.2.2 hd) rfl k) K
theorem g_ixor (q : Q0 p T m c below code) {x y : Int32} (hd : decode code pc = .ok (.ixor, 1))  (hp : pc + 1 = pc1) (K : Go p.tables e below G (T.setTop (mkF m pc1 ls (.int (x ^^^ y) :: st)))) : Go p.tables e below G (T.setTop (mkF m pc ls (.int y :: .int x :: st))) := by
  subst hp; exact Go.via (fun _ k => Jvm.Free.XT.ixor q.1 q.2.1 rfl (hb q.2.2 hd) rfl k) K
theorem g_ishl (q : Q0 p T m c below code) {x y : Int32} (hd : decode code pc = .ok (.ishl, 1))  (hp : pc + 1 = pc1) (K : Go p.tables e below G (T.setTop (mkF m pc1 ls (.int (x <<< (y &&& 31)) :: st)))) : Go p.tables e below G (T.setTop (mkF m pc ls (.int y :: .int x :: st))) := by
  subst hp; exact Go.via (fun _ k => Jvm.Free.XT.ishl q.1 q.2.1 rfl (hb q.2.2 hd) rfl k) K
theorem g_ishr (q : Q0 p T m c below code) {x y : Int32} (hd : decode code pc = .ok (.ishr, 1))  (hp : pc + 1 = pc1) (K : Go p.tables e below G (T.setTop (mkF m pc1 ls (.int (x >>> (y &&& 31)) :: st)))) : Go p.tables e below G (T.setTop (mkF m pc ls (.int y :: .int x :: st))) := by
  subst hp; exact Go.via (fun _ k => Jvm.Free.XT.ishr q.1 q.2.1 rfl (hb q.2.2 hd) rfl k) K
theorem g_iushr (q : Q0 p T m c below code) {x y : Int32} (hd : decode code pc = .ok (.iushr, 1))  (hp : pc + 1 = pc1) (K : Go p.tables e below G (T.setTop (mkF m pc1 ls (.int (Jvm.Free.XT.ushr x y) :: st)))) : Go p.tables e below G (T.setTop (mkF m pc ls (.int y :: .int x :: st))) := by
  subst hp; exact Go.via (fun _ k => Jvm.Free.XT.iushr q.1 q.2.1 rfl (hb q.2.2 hd) rfl k) K
theorem g_i2b (q : Q0 p T m c below code) {x : Int32} (hd : decode code pc = .ok (.i2b, 1))  (hp : pc + 1 = pc1) (K : Go p.tables e below G (T.setTop (mkF m pc1 ls (.int (x.toInt8.toInt32) :: st)))) : Go p.tables e below G (T.setTop (mkF m pc ls (.int x :: st))) := by
  subst hp; exact Go.via (fun _ k => Jvm.Free.XT.i2b q.1 q.2.1 rfl (hb q.2.2 hd) rfl k) K
theorem g_i2c (q : Q0 p T m c below code) {x : Int32} (hd : decode code pc = .ok (.i2c, 1))  (hp : pc + 1 = pc1) (K : Go p.tables e below G (T.setTop (mkF m pc1 ls (.int (x.toUInt32.toUInt16.toUInt32.toInt32) :: st)))) : Go p.tables e below G (T.setTop (mkF m pc ls (.int x :: st))) := by
  subst hp; exact Go.via (fun _ k => Jvm.Free.XT.i2c q.1 q.2.1 rfl (hb q.2.2 hd) rfl k) K
theorem g_i2s (q : Q0 p T m c below code) {x : Int32} (hd : decode code pc = .ok (.i2s, 1))  (hp : pc + 1 = pc1) (K : Go p.tables e below G (T.setTop (mkF m pc1 ls (.int (x.toInt16.toInt32) :: st)))) : Go p.tables e below G (T.setTop (mkF m pc ls (.int x :: st))) := by
  subst hp; exact Go.via (fun _ k => Jvm.Free.XT.i2s q.1 q.2.1 rfl (hb q.2.2 hd) rfl k) K
theorem g_i2l (q : Q0 p T m c below code) {x : Int32} (hd : decode code pc = .ok (.i2l, 1))  (hp : pc + 1 = pc1) (K : Go p.tables e below G (T.setTop (mkF m pc1 ls (.long x.toInt64 :: st)))) : Go p.tables e below G (T.setTop (mkF m pc ls (.int x :: st))) := by
  subst hp; exact Go.via (fun _ k => Jvm.Free.XT.i2l q.1 q.2.1 rfl (hb q.2.2 hd) rfl k) K
theorem g_l2i (q : Q0 p T m c below code) {x : Int64} (hd : decode code pc = .ok (.l2i, 1))  (hp : pc + 1 = pc1) (K : Go p.tables e below G (T.setTop (mkF m pc1 ls (.int x.toInt32 :: st)))) : Go p.tables e below G (T.setTop (mkF m pc ls (.long x :: st))) := by
  subst hp; exact Go.via (fun _ k => Jvm.Free.XT.l2i q.1 q.2.1 rfl (hb q.2.2 hd) rfl k) K
theorem g_ladd (q : Q0 p T m c below code) {x y : Int64} (hd : decode code pc = .ok (.ladd, 1))  (hp : pc + 1 = pc1) (K : Go p.tables e below G (T.setTop (mkF m pc1 ls (.long (x + y) :: st)))) : Go p.tables e below G (T.setTop (mkF m pc ls (.long y :: .long x :: st))) := by
  subst hp; exact Go.via (fun _ k => Jvm.Free.XT.ladd q.1 q.2.1 rfl (hb q.2.2 hd) rfl k) K
theorem g_lsub (q : Q0 p T m c below code) {x y : Int64} (hd : decode code pc = .ok (.lsub, 1))  (hp : pc + 1 = pc1) (K : Go p.tables e below G (T.setTop (mkF m pc1 ls (.long (x - y) :: st)))) : Go p.tables e below G (T.setTop (mkF m pc ls (.long y :: .long x :: st))) := by
  subst hp; exact Go.via (fun _ k => Jvm.Free.XT.lsub q.1 q.2.1 rfl (hb q.2.2 hd) rfl k) K
theorem g_lmul (q : Q0 p T m c below code) {x y : Int64} (hd : decode code pc = .ok (.lmul, 1))  (hp : pc + 1 = pc1) (K : Go p.tables e below G (T.setTop (mkF m pc1 ls (.long (x * y) :: st)))) : Go p.tables e below G (T.setTop (mkF m pc ls (.long y :: .long x :: st))) := by
  subst hp; exact Go.via (fun _ k => Jvm.Free.XT.lmul q.1 q.2.1 rfl (hb q.2.2 hd) rfl k) K
theorem g_land (q : Q0 p T m c below code) {x y : Int64} (hd : decode code pc = .ok (.land, 1))  (hp : pc + 1 = pc1) (K : Go p.tables e below G (T.setTop (mkF m pc1 ls (.long (x &&& y) :: st)))) : Go p.tables e below G (T.setTop (mkF m pc ls (.long y :: .long x :: st))) := by
  subst hp; exact Go.via (fun _ k => Jvm.Free.XT.land q.1 q.2.1 rfl (hb q.2.2 hd) rfl k) K
theorem g_lor (q : Q0 p T m c below code) {x y : Int64} (hd : decode code pc = .ok (.lor, 1))  (hp : pc + 1 = pc1) (K : Go p.tables e below G (T.setTop (mkF m pc1 ls (.long (x ||| y) :: st)))) : Go p.tables e below G (T.setTop (mkF m pc ls (.long y :: .long x :: st))) := by
  subst hp; exact Go.via (fun _ k => Jvm.Free.XT.lor q.1 q.2.1 rfl (hb q.2.2 hd) rfl k) K
theorem g_lshl (q : Q0 p T m c below code) {x : Int64} {y : Int32} (hd : decode code pc = .ok (.lshl, 1))  (hp : pc + 1 = pc1) (K : Go p.tables e below G (T.setTop (mkF m pc1 ls (.long (x <<< (y.toInt64 &&& 63)) :: st)))) : Go p.tables e below G (T.setTop (mkF m pc ls (.int y :: .long x :: st))) := by
  subst hp; exact Go.via (fun _ k => Jvm.Free.XT.lshl q.1 q.2.1 rfl (hb q.2.2 hd) rfl k) K
theorem g_lshr (q : Q0 p T m c below code) {x : Int64} {y : Int32} (hd : decode code pc = .ok (.lshr, 1))  (hp : pc + 1 = pc1) (K : Go p.tables e below G (T.setTop (mkF m pc1 ls (.long (x >>> (y.toInt64 &&& 63)) :: st)))) : Go p.tables e below G (T.setTop (mkF m pc ls (.int y :: .long x :: st))) := by
  subst hp; exact Go.via (fun _ k => Jvm.Free.XT.lshr q.1 q.2.1 rfl (hb q.2.2 hd) rfl k) K
theorem g_lushr (q : Q0 p T m c below code) {x : Int64} {y : Int32} (hd : decode code pc = .ok (.lushr, 1))  (hp : pc + 1 = pc1) (K : Go p.tables e below G (T.setTop (mkF m pc1 ls (.long (Jvm.Free.XT.ushrL x y) :: st)))) : Go p.tables e below G (T.setTop (mkF m pc ls (.int y :: .long x :: st))) := by
  subst hp; exact Go.via (fun _ k => Jvm.Free.XT.lushr q.1 q.2.1 rfl (hb q.2.2 hd) rfl k) K
theorem g_lrem (q : Q0 p T m c below code) {x y : Int64} (hd : decode code pc = .ok (.lrem, 1)) (hy : y ≠ 0) (hp : pc + 1 = pc1) (K : Go p.tables e below G (T.setTop (mkF m pc1 ls (.long (x - (x / y) * y) :: st)))) : Go p.tables e below G (T.setTop (mkF m pc ls (.long y :: .long x :: st))) := by
  subst hp; exact Go.via (fun _ k => Jvm.Free.XT.lrem q.1 q.2.1 rfl (hb q.2.2 hd) rfl hy k) K
theorem g_lneg (q : Q0 p T m c below code) {x : Int64} (hd : decode code pc = .ok (.lneg, 1))  (hp : pc + 1 = pc1) (K : Go p.tables e below G (T.setTop (mkF m pc1 ls (.long (-x) :: st)))) : Go p.tables e below G (T.setTop (mkF m pc ls (.long x :: st))) := by
  subst hp; exact Go.via (fun _ k => Jvm.Free.XT.lneg q.1 q.2.1 rfl (hb q.2.2 hd) rfl k) K
theorem g_lcmp (q : Q0 p T m c below code) {x y : Int64} (hd : decode code pc = .ok (.lcmp, 1))  (hp : pc + 1 = pc1) (K : Go p.tables e below G (T.setTop (mkF m pc1 ls (.int (Jvm.Free.XT.cmpL x y) :: st)))) : Go p.tables e below G (T.setTop (mkF m pc ls (.long y :: .long x :: st))) := by
  subst hp; exact Go.via (fun _ k => Jvm.Free.XT.lcmp q.1 q.2.1 rfl (hb q.2.2 hd) rfl k) K
theorem g_lconst (q : Q0 p T m c below code) {i : Fin 2} {v : Int64} (hd : decode code pc = .ok (.lconst i, 1)) (hv : Int64.ofNat i.val = v) (hp : pc + 1 = pc1) (K : Go p.tables e below G (T.setTop (mkF m pc1 ls (.long v :: st)))) : Go p.tables e below G (T.setTop (mkF m pc ls st)) := by
  subst hp; exact Go.via (fun _ k => Jvm.Free.XT.lconst q.1 q.2.1 rfl (hb q.2.2 hd) (hv ▸ k)) K
theorem g_iinc (q : Q0 p T m c below code) {k : Nat} {i : Int} {v : Int32} (hd : decode code pc = .ok (.iinc k i, 3)) (hl : ls[k]? = some (.val (.int v))) (hl2 : storeLocals ls k (.int (v + Int32.ofInt i)) = some ls2) (hp : pc + 3 = pc1) (K : Go p.tables e below G (T.setTop (mkF m pc1 ls2 st))) : Go p.tables e below G (T.setTop (mkF m pc ls st)) := by
  subst hp; exact Go.via (fun _ k => Jvm.Free.XS.iinc q.1 q.2.1 rfl (hb q.2.2 hd) hl hl2 k) K
theorem g_dup (q : Q0 p T m c below code) {x : Value} (hd : decode code pc = .ok (.dup, 1)) (hc : x.category = 1) (hp : pc + 1 = pc1) (K : Go p.tables e below G (T.setTop (mkF m pc1 ls (x :: x :: st)))) : Go p.tables e below G (T.setTop (mkF m pc ls (x :: st))) := by
  subst hp; exact Go.via (fun _ k => Jvm.Free.XS.dup q.1 q.2.1 rfl (hb q.2.2 hd) rfl hc k) K
theorem g_pop (q : Q0 p T m c below code) {x : Value} (hd : decode code pc = .ok (.pop, 1)) (hc : x.category = 1) (hp : pc + 1 = pc1) (K : Go p.tables e below G (T.setTop (mkF m pc1 ls st))) : Go p.tables e below G (T.setTop (mkF m pc ls (x :: st))) := by
  subst hp; exact Go.via (fun _ k => Jvm.Free.XT.pop q.1 q.2.1 rfl (hb q.2.2 hd) rfl hc k) K
theorem g_dup2 (q : Q0 p T m c below code) {x y : Value} (hd : decode code pc = .ok (.dup2, 1)) (hc : x.category = 1) (hc2 : y.category = 1) (hp : pc + 1 = pc1) (K : Go p.tables e below G (T.setTop (mkF m pc1 ls (x :: y :: x :: y :: st)))) : Go p.tables e below G (T.setTop (mkF m pc ls (x :: y :: st))) := by
  subst hp; exact Go.via (fun _ k => Jvm.Free.XT.dup2 q.1 q.2.1 rfl (hb q.2.2 hd) rfl hc hc2 k) K
theorem g_dloadN (q : Q0 p T m c below code) {k : Fin 4} {v : UInt64} (hd : decode code pc = .ok (.dload_n k, 1)) (hl : ls[k.val]? = some (.val (.double v))) (hp : pc + 1 = pc1) (K : Go p.tables e below G (T.setTop (mkF m pc1 ls (.double v :: st)))) : Go p.tables e below G (T.setTop (mkF m pc ls st)) := by
  subst hp; exact Go.via (fun _ k => Jvm.Free.XS.dloadN q.1 q.2.1 rfl (hb q.2.2 hd) hl k) K
theorem g_dstoreN (q : Q0 p T m c below code) {k : Fin 4} {v : UInt64} (hd : decode code pc = .ok (.dstore_n k, 1)) (hl : storeLocals ls k.val (.double v) = some ls2) (hp : pc + 1 = pc1) (K : Go p.tables e below G (T.setTop (mkF m pc1 ls2 st))) : Go p.tables e below G (T.setTop (mkF m pc ls (.double v :: st))) := by
  subst hp; exact Go.via (fun _ k => Jvm.Free.XS.dstoreN q.1 q.2.1 rfl (hb q.2.2 hd) rfl hl k) K
theorem g_dload (q : Q0 p T m c below code) {k : Nat} {v : UInt64} (hd : decode code pc = .ok (.dload k, 2)) (hl : ls[k]? = some (.val (.double v))) (hp : pc + 2 = pc1) (K : Go p.tables e below G (T.setTop (mkF m pc1 ls (.double v :: st)))) : Go p.tables e below G (T.setTop (mkF m pc ls st)) := by
  subst hp; exact Go.via (fun _ k => Jvm.Free.XS.dload q.1 q.2.1 rfl (hb q.2.2 hd) hl k) K
theorem g_dstore (q : Q0 p T m c below code) {k : Nat} {v : UInt64} (hd : decode code pc = .ok (.dstore k, 2)) (hl : storeLocals ls k (.double v) = some ls2) (hp : pc + 2 = pc1) (K : Go p.tables e below G (T.setTop (mkF m pc1 ls2 st))) : Go p.tables e below G (T.setTop (mkF m pc ls (.double v :: st))) := by
  subst hp; exact Go.via (fun _ k => Jvm.Free.XS.dstore q.1 q.2.1 rfl (hb q.2.2 hd) rfl hl k) K
theorem g_dconst0 (q : Q0 p T m c below code)  (hd : decode code pc = .ok (.dconst 0, 1))  (hp : pc + 1 = pc1) (K : Go p.tables e below G (T.setTop (mkF m pc1 ls (.double 0 :: st)))) : Go p.tables e below G (T.setTop (mkF m pc ls st)) := by
  subst hp; exact Go.via (fun _ k => Jvm.Free.XS.dconst0 q.1 q.2.1 rfl (hb q.2.2 hd) (by decide +kernel) k) K
theorem g_i2d (q : Q0 p T m c below code) {x : Int32} (hd : decode code pc = .ok (.i2d, 1))  (hp : pc + 1 = pc1) (K : Go p.tables e below G (T.setTop (mkF m pc1 ls (.double (FP.i2d x) :: st)))) : Go p.tables e below G (T.setTop (mkF m pc ls (.int x :: st))) := by
  subst hp; exact Go.via (fun _ k => Jvm.Free.XS.i2dS q.1 q.2.1 rfl (hb q.2.2 hd) rfl rfl k) K
theorem g_l2d (q : Q0 p T m c below code) {x : Int64} (hd : decode code pc = .ok (.l2d, 1))  (hp : pc + 1 = pc1) (K : Go p.tables e below G (T.setTop (mkF m pc1 ls (.double (FP.l2d x) :: st)))) : Go p.tables e below G (T.setTop (mkF m pc ls (.long x :: st))) := by
  subst hp; exact Go.via (fun _ k => Jvm.Free.XS.l2dS q.1 q.2.1 rfl (hb q.2.2 hd) rfl rfl k) K
theorem g_dcmp (q : Q0 p T m c below code) {o : CmpOp} {x y : UInt64} (hd : decode code pc = .ok (.dcmp o, 1))  (hp : pc + 1 = pc1) (K : Go p.tables e below G (T.setTop (mkF m pc1 ls (.int (cmpValue (FP.dcmp x y) o) :: st)))) : Go p.tables e below G (T.setTop (mkF m pc ls (.double y :: .double x :: st))) := by
  subst hp; exact Go.via (fun _ k => Jvm.Free.XS.dcmpS q.1 q.2.1 rfl (hb q.2.2 hd) rfl rfl k) K
theorem g_dadd (q : Q0 p T m c below code) {x y : UInt64} (hd : decode code pc = .ok (.dadd, 1)) (hn : Jvm.Free.Fl.NoNaN64 (FP.dadd x y)) (hp : pc + 1 = pc1) (K : Go p.tables e below G (T.setTop (mkF m pc1 ls (.double (FP.dadd x y) :: st)))) : Go p.tables e below G (T.setTop (mkF m pc ls (.double y :: .double x :: st))) := by
  subst hp; exact Go.via (fun _ k => Jvm.Free.XS.daddS q.1 q.2.1 rfl (hb q.2.2 hd) rfl hn rfl k) K
theorem g_dmul (q : Q0 p T m c below code) {x y : UInt64} (hd : decode code pc = .ok (.dmul, 1)) (hn : Jvm.Free.Fl.NoNaN64 (FP.dmul x y)) (hp : pc + 1 = pc1) (K : Go p.tables e below G (T.setTop (mkF m pc1 ls (.double (FP.dmul x y) :: st)))) : Go p.tables e below G (T.setTop (mkF m pc ls (.double y :: .double x :: st))) := by
  subst hp; exact Go.via (fun _ k => Jvm.Free.XS.dmulS q.1 q.2.1 rfl (hb q.2.2 hd) rfl hn rfl k) K
theorem g_floadN (q : Q0 p T m c below code) {k : Fin 4} {v : UInt32} (hd : decode code pc = .ok (.fload_n k, 1)) (hl : ls[k.val]? = some (.val (.float v))) (hp : pc + 1 = pc1) (K : Go p.tables e below G (T.setTop (mkF m pc1 ls (.float v :: st)))) : Go p.tables e below G (T.setTop (mkF m pc ls st)) := by
  subst hp; exact Go.via (fun _ k => Jvm.Free.XS.floadN q.1 q.2.1 rfl (hb q.2.2 hd) hl k) K
theorem g_fstoreN (q : Q0 p T m c below code) {k : Fin 4} {v : UInt32} (hd : decode code pc = .ok (.fstore_n k, 1)) (hl : storeLocals ls k.val (.float v) = some ls2) (hp : pc + 1 = pc1) (K : Go p.tables e below G (T.setTop (mkF m pc1 ls2 st))) : Go p.tables e below G (T.setTop (mkF m pc ls (.float v :: st))) := by
  subst hp; exact Go.via (fun _ k => Jvm.Free.XS.fstoreN q.1 q.2.1 rfl (hb q.2.2 hd) rfl hl k) K
theorem g_fload (q : Q0 p T m c below code) {k : Nat} {v : UInt32} (hd : decode code pc = .ok (.fload k, 2)) (hl : ls[k]? = some (.val (.float v))) (hp : pc + 2 = pc1) (K : Go p.tables e below G (T.setTop (mkF m pc1 ls (.float v :: st)))) : Go p.tables e below G (T.setTop (mkF m pc ls st)) := by
  subst hp; exact Go.via (fun _ k => Jvm.Free.XS.fload q.1 q.2.1 rfl (hb q.2.2 hd) hl k) K
theorem g_fstore (q : Q0 p T m c below code) {k : Nat} {v : UInt32} (hd : decode code pc = .ok (.fstore k, 2)) (hl : storeLocals ls k (.float v) = some ls2) (hp : pc + 2 = pc1) (K : Go p.tables e below G (T.setTop (mkF m pc1 ls2 st))) : Go p.tables e below G (T.setTop (mkF m pc ls (.float v :: st))) := by
  subst hp; exact Go.via (fun _ k => Jvm.Free.XS.fstore q.1 q.2.1 rfl (hb q.2.2 hd) rfl hl k) K
theorem g_i2f (q : Q0 p T m c below code) {x : Int32} (hd : decode code pc = .ok (.i2f, 1))  (hp : pc + 1 = pc1) (K : Go p.tables e below G (T.setTop (mkF m pc1 ls (.float (FP.i2f x) :: st)))) : Go p.tables e below G (T.setTop (mkF m pc ls (.int x :: st))) := by
  subst hp; exact Go.via (fun _ k => Jvm.Free.XS.i2fS q.1 q.2.1 rfl (hb q.2.2 hd) rfl rfl k) K
theorem g_f2d (q : Q0 p T m c below code) {x : UInt32} (hd : decode code pc = .ok (.f2d, 1)) (hn : Jvm.Free.Fl.NoNaN64 (FP.f2d x)) (hp : pc + 1 = pc1) (K : Go p.tables e below G (T.setTop (mkF m pc1 ls (.double (FP.f2d x) :: st)))) : Go p.tables e below G (T.setTop (mkF m pc ls (.float x :: st))) := by
  subst hp; exact Go.via (fun _ k => Jvm.Free.XS.f2dS q.1 q.2.1 rfl (hb q.2.2 hd) rfl hn rfl k) K
theorem g_dconst1 (q : Q0 p T m c below code)  (hd : decode code pc = .ok (.dconst 1, 1))  (hp : pc + 1 = pc1) (K : Go p.tables e below G (T.setTop (mkF m pc1 ls (.double 4607182418800017408 :: st)))) : Go p.tables e below G (T.setTop (mkF m pc ls st)) := by
  subst hp; exact Go.via (fun _ k => Jvm.Free.XS.dconst1 q.1 q.2.1 rfl (hb q.2.2 hd) (by decide +kernel) k) K
theorem g_dneg (q : Q0 p T m c below code) {x : UInt64} (hd : decode code pc = .ok (.dneg, 1))  (hp : pc + 1 = pc1) (K : Go p.tables e below G (T.setTop (mkF m pc1 ls (.double (FP.dneg x) :: st)))) : Go p.tables e below G (T.setTop (mkF m pc ls (.double x :: st))) := by
  subst hp; exact Go.via (fun _ k => Jvm.Free.XS.dnegS q.1 q.2.1 rfl (hb q.2.2 hd) rfl rfl k) K
theorem g_dsub (q : Q0 p T m c below code) {x y : UInt64} (hd : decode code pc = .ok (.dsub, 1)) (hn : Jvm.Free.Fl.NoNaN64 (FP.dsub x y)) (hp : pc + 1 = pc1) (K : Go p.tables e below G (T.setTop (mkF m pc1 ls (.double (FP.dsub x y) :: st)))) : Go p.tables e below G (T.setTop (mkF m pc ls (.double y :: .double x :: st))) := by
  subst hp; exact Go.via (fun _ k => Jvm.Free.XS.dsubS q.1 q.2.1 rfl (hb q.2.2 hd) rfl hn rfl k) K
theorem g_ddiv (q : Q0 p T m c below code) {x y : UInt64} (hd : decode code pc = .ok (.ddiv, 1)) (hn : Jvm.Free.Fl.NoNaN64 (FP.ddiv x y)) (hp : pc + 1 = pc1) (K : Go p.tables e below G (T.setTop (mkF m pc1 ls (.double (FP.ddiv x y) :: st)))) : Go p.tables e below G (T.setTop (mkF m pc ls (.double y :: .double x :: st))) := by
  subst hp; exact Go.via (fun _ k => Jvm.Free.XS.ddivS q.1 q.2.1 rfl (hb q.2.2 hd) rfl hn rfl k) K
theorem g_goto (q : Q0 p T m c below code) {o : Int} (hd : decode code pc = .ok (.goto o, 3)) (ho : 0 ≤ (pc : Int) + o) (hp : ((pc : Int) + o).toNat = pc1) (K : Go p.tables e below G (T.setTop (mkF m pc1 ls st))) : Go p.tables e below G (T.setTop (mkF m pc ls st)) :=
  Go.via (fun _ k => Jvm.Free.XS.goto q.1 q.2.1 rfl rfl (hb q.2.2 hd) ho hp k) K
theorem g_ifY (q : Q0 p T m c below code) {cd : ClassFile.Cond} {x : Int32} {o : Int} (hd : decode code pc = .ok (.ifCond cd o, 3)) (ho : 0 ≤ (pc : Int) + o) (hp : ((pc : Int) + o).toNat = pc1) (h : cv cd x 0) (K : Go p.tables e below G (T.setTop (mkF m pc1 ls st))) : Go p.tables e below G (T.setTop (mkF m pc ls (.int x :: st))) :=
  Go.via (fun _ k => Jvm.Free.XS.ifYes q.1 q.2.1 rfl rfl (hb q.2.2 hd) rfl (by rw [if0]; exact cvY h) ho hp k) K
theorem g_ifN (q : Q0 p T m c below code) {cd : ClassFile.Cond} {x : Int32} {o : Int} (hd : decode code pc = .ok (.ifCond cd o, 3)) (hp : pc + 3 = pc2) (h : ¬ cv cd x 0) (K : Go p.tables e below G (T.setTop (mkF m pc2 ls st))) : Go p.tables e below G (T.setTop (mkF m pc ls (.int x :: st))) := by
  subst hp; exact Go.via (fun _ k => Jvm.Free.XS.ifNo q.1 q.2.1 rfl (hb q.2.2 hd) rfl (by rw [if0]; exact cvN h) k) K
theorem g_if (q : Q0 p T m c below code) {cd : ClassFile.Cond} {x : Int32} {o : Int} (hd : decode code pc = .ok (.ifCond cd o, 3)) (ho : 0 ≤ (pc : Int) + o) (hp : ((pc : Int) + o).toNat = pc1) (hp2 : pc + 3 = pc2) (K : cv cd x 0 → Go p.tables e below G (T.setTop (mkF m pc1 ls st))) (K2 : ¬ cv cd x 0 → Go p.tables e below G (T.setTop (mkF m pc2 ls st))) : Go p.tables e below G (T.setTop (mkF m pc ls (.int x :: st))) :=
  (cvD cd x 0).elim (fun h => g_ifY q hd ho hp h (K h)) (fun h => g_ifN q hd hp2 h (K2 h))
theorem g_cmpY (q : Q0 p T m c below code) {cd : ClassFile.Cond} {x y : Int32} {o : Int} (hd : decode code pc = .ok (.if_icmp cd o, 3)) (ho : 0 ≤ (pc : Int) + o) (hp : ((pc : Int) + o).toNat = pc1) (h : cv cd x y) (K : Go p.tables e below G (T.setTop (mkF m pc1 ls st))) : Go p.tables e below G (T.setTop (mkF m pc ls (.int y :: .int x :: st))) :=
  Go.via (fun _ k => Jvm.Free.XS.icmpYes q.1 q.2.1 rfl rfl (hb q.2.2 hd) rfl (cvY h) ho hp k) K
theorem g_cmpN (q : Q0 p T m c below code) {cd : ClassFile.Cond} {x y : Int32} {o : Int} (hd : decode code pc = .ok (.if_icmp cd o, 3)) (hp : pc + 3 = pc2) (h : ¬ cv cd x y) (K : Go p.tables e below G (T.setTop (mkF m pc2 ls st))) : Go p.tables e below G (T.setTop (mkF m pc ls (.int y :: .int x :: st))) := by
  subst hp; exact Go.via (fun _ k => Jvm.Free.XS.icmpNo q.1 q.2.1 rfl (hb q.2.2 hd) rfl (cvN h) k) K
theorem g_cmp (q : Q0 p T m c below code) {cd : ClassFile.Cond} {x y : Int32} {o : Int} (hd : decode code pc = .ok (.if_icmp cd o, 3)) (ho : 0 ≤ (pc : Int) + o) (hp : ((pc : Int) + o).toNat = pc1) (hp2 : pc + 3 = pc2) (K : cv cd x y → Go p.tables e below G (T.setTop (mkF m pc1 ls st))) (K2 : ¬ cv cd x y → Go p.tables e below G (T.setTop (mkF m pc2 ls st))) : Go p.tables e below G (T.setTop (mkF m pc ls (.int y :: .int x :: st))) :=
  (cvD cd x y).elim (fun h => g_cmpY q hd ho hp h (K h)) (fun h => g_cmpN q hd hp2 h (K2 h))
theorem g_nullY (q : Q0 p T m c below code) {o : Int} (hd : decode code pc = .ok (.ifnull o, 3)) (ho : 0 ≤ (pc : Int) + o) (hp : ((pc : Int) + o).toNat = pc1) (K : Go p.tables e below G (T.setTop (mkF m pc1 ls st))) : Go p.tables e below G (T.setTop (mkF m pc ls (.null :: st))) :=
  Go.via (fun _ k => Jvm.Free.XS.ifnullYes q.1 q.2.1 rfl rfl (hb q.2.2 hd) rfl ho hp k) K
theorem g_nullN (q : Q0 p T m c below code) {o : Int} {b : Addr} (hd : decode code pc = .ok (.ifnull o, 3)) (hp : pc + 3 = pc2) (K : Go p.tables e below G (T.setTop (mkF m pc2 ls st))) : Go p.tables e below G (T.setTop (mkF m pc ls (.ref b :: st))) := by
  subst hp; exact Go.via (fun _ k => Jvm.Free.XS.ifnullNo q.1 q.2.1 rfl (hb q.2.2 hd) rfl k) K
theorem g_nonY (q : Q0 p T m c below code) {b : Addr} {o : Int} (hd : decode code pc = .ok (.ifnonnull o, 3)) (ho : 0 ≤ (pc : Int) + o) (hp : ((pc : Int) + o).toNat = pc1) (K : Go p.tables e below G (T.setTop (mkF m pc1 ls st))) : Go p.tables e below G (T.setTop (mkF m pc ls (.ref b :: st))) :=
  Go.via (fun _ k => Jvm.Free.XT.ifnonnullYes q.1 q.2.1 rfl rfl (hb q.2.2 hd) rfl ho hp k) K
theorem g_nonN (q : Q0 p T m c below code) {o : Int} (hd : decode code pc = .ok (.ifnonnull o, 3)) (hp : pc + 3 = pc2) (K : Go p.tables e below G (T.setTop (mkF m pc2 ls st))) : Go p.tables e below G (T.setTop (mkF m pc ls (.null :: st))) := by
  subst hp; exact Go.via (fun _ k => Jvm.Free.XT.ifnonnullNo q.1 q.2.1 rfl (hb q.2.2 hd) rfl k) K
theorem g_acmpY (q : Q0 p T m c below code) {cd : ClassFile.ACond} {x y : Value} {o : Int} (hd : decode code pc = .ok (.if_acmp cd o, 3)) (ho : 0 ≤ (pc : Int) + o) (hp : ((pc : Int) + o).toNat = pc1) (hx : x.isRef = true) (hy : y.isRef = true) (h : Jvm.Free.XT.acmp cd x y = true) (K : Go p.tables e below G (T.setTop (mkF m pc1 ls st))) : Go p.tables e below G (T.setTop (mkF m pc ls (y :: x :: st))) :=
  Go.via (fun _ k => Jvm.Free.XT.acmpYes q.1 q.2.1 rfl rfl (hb q.2.2 hd) rfl hx hy h ho hp k) K
theorem g_acmpN (q : Q0 p T m c below code) {cd : ClassFile.ACond} {x y : Value} {o : Int} (hd : decode code pc = .ok (.if_acmp cd o, 3)) (hp : pc + 3 = pc2) (hx : x.isRef = true) (hy : y.isRef = true) (h : Jvm.Free.XT.acmp cd x y = false) (K : Go p.tables e below G (T.setTop (mkF m pc2 ls st))) : Go p.tables e below G (T.setTop (mkF m pc ls (y :: x :: st))) := by
  subst hp; exact Go.via (fun _ k => Jvm.Free.XT.acmpNo q.1 q.2.1 rfl (hb q.2.2 hd) rfl hx hy h k) K
theorem g_tsw (q : Q0 p T m c below code) {dflt low high : Int} {offs : Array Int} {len : Nat} {o : Int} {i : Int32} (hd : decode code pc = .ok (.tableswitch dflt low high offs, len)) (hin : ¬ (i.toInt < low ∨ i.toInt > high)) (hoff : offs[(i.toInt - low).toNat]? = some o) (ho : 0 ≤ (pc : Int) + o) (hp : ((pc : Int) + o).toNat = pc1) (K : Go p.tables e below G (T.setTop (mkF m pc1 ls st))) : Go p.tables e below G (T.setTop (mkF m pc ls (.int i :: st))) :=
  Go.via (fun _ k => Jvm.Free.XS.tswIn q.1 q.2.1 rfl rfl (hb q.2.2 hd) rfl hin hoff ho hp k) K
end Plain
/-- every place lies in a cell of wl, or in one made since -/
def Frw (wl : List Addr) (n : Nat) (L : List Loc) : Prop := ∀ y ∈ L, y.base ∈ wl ∨ n ≤ y.base
theorem Frw.nil {wl : List Addr} {n : Nat} : Frw wl n [] := fun _ q => nomatch q
theorem Frw.app {wl : List Addr} {n : Nat} {L L' : List Loc} (A : Frw wl n L) (B : Frw wl n L') : Frw wl n (L ++ L') := fun y q => (List.mem_append.mp q).elim (A y) (B y)
theorem Frw.snoc {wl : List Addr} {n : Nat} {L : List Loc} {a : Addr} {sl : Nat} (A : Frw wl n L) (q : a ∈ wl ∨ n ≤ a) : Frw wl n (L ++ [⟨a, sl⟩]) := A.app fun y hy => by cases List.mem_singleton.mp hy; exact q
theorem Frw.up {wl wl' : List Addr} {n n' : Nat} {L : List Loc} (A : Frw wl n L) (hn : n' ≤ n) (q : ∀ x ∈ wl, x ∈ wl' ∨ n' ≤ x) : Frw wl' n' L := fun y hy => (A y hy).elim (q _) (fun z => Or.inr (Nat.le_trans hn z))
theorem Frw.of_fr {wl : List Addr} {n n' : Nat} {L : List Loc} (A : Fr n L) (hn : n' ≤ n) : Frw wl n' L := fun y hy => Or.inr (Nat.le_trans hn (A y hy))
/-- where a walk stands: s its true start, vm0 the tables of its last interning step, h the heap -/
def Pos (p : Program) (l : Launch) (e : Env) (R : Room) (s : State) (m : MethodId) (args : Array Value) (below : List Frame) (meth : Method) (c : Code) (code : ByteArray) (Z : State) (EL : List (String × Nat)) (wl : List Addr) (hS : Heap) (own : String) (vm0 : Vm) (T : State) (locs : List Loc) (cells slots : Nat) (h : Heap) : Prop :=
  Stand p l e R (s.setVm vm0) m args below meth c T locs cells slots ∧ T.heap = h ∧ (∃ k0, s.Since vm0 k0 ∧ k0 ≤ h.size) ∧ Z.Warmed39 vm0 ∧ vm0.findClass own = some m.cls ∧ Frw wl hS.size locs ∧ s.heap = hS ∧ CHr Z EL s.vm hS vm0 h ∧ p.tables.exec = Jvm.exec ∧ c.code = code
section Heapy
variable {p : Program} {l : Launch} {e : Env} {R : Room} {s : State} {m : MethodId} {args : Array Value} {below : List Frame} {meth : Method} {c : Code} {code : ByteArray} {Z : State} {EL : List (String × Nat)} {wl : List Addr} {hS : Heap} {own : String} {vm0 : Vm} {T : State} {locs : List Loc} {cells slots : Nat} {h : Heap} {a0 : Array Value} {G : Outcome → State → Prop} {pc pc1 pc2 : Nat} {ls ls2 : Array Slot} {st : List Value}
theorem Pos.q (P : Pos p l e R s m args below meth c code Z EL wl hS own vm0 T locs cells slots h) : Q0 p T m c below code := ⟨P.1.here, P.2.2.2.2.2.2.2.2⟩
theorem Pos.hz (P : Pos p l e R s m args below meth c code Z EL wl hS own vm0 T locs cells slots h) : Z.Warmed39 (s.setVm vm0).vm := P.2.2.2.1
theorem Pos.al (P : Pos p l e R s m args below meth c code Z EL wl hS own vm0 T locs cells slots h) : Z.vm.Alike vm0 := P.2.2.2.1.alike
theorem Pos.heap (P : Pos p l e R s m args below meth c code Z EL wl hS own vm0 T locs cells slots h) : T.heap = h := P.2.1
theorem Pos.fr (P : Pos p l e R s m args below meth c code Z EL wl hS own vm0 T locs cells slots h) : Frw wl hS.size locs := P.2.2.2.2.2.1
theorem Pos.sz (P : Pos p l e R s m args below meth c code Z EL wl hS own vm0 T locs cells slots h) : hS.size ≤ h.size := P.2.2.2.2.2.2.2.1.2.1
theorem Pos.chv (P : Pos p l e R s m args below meth c code Z EL wl hS own vm0 T locs cells slots h) : CHv Z EL vm0 h := P.2.2.2.2.2.2.2.1.1
theorem Pos.chr (P : Pos p l e R s m args below meth c code Z EL wl hS own vm0 T locs cells slots h) : CHr Z EL s.vm hS vm0 h := P.2.2.2.2.2.2.2.1
theorem Pos.mono (P : Pos p l e R s m args below meth c code Z EL wl hS own vm0 T locs cells slots h) {cells' slots' : Nat} (hc : cells ≤ cells') (hs : slots ≤ slots') : Pos p l e R s m args below meth c code Z EL wl hS own vm0 T locs cells' slots' h := ⟨P.1.mono hc hs, P.2⟩
theorem Pos.keep (P : Pos p l e R s m args below meth c code Z EL wl hS own vm0 T locs cells slots h) : Keep hS h wl := by
  obtain ⟨X, rfl, -, -, -, N, rfl, -⟩ := P
  have hsame := X.same
  have key : ∀ (x : Addr) (c0 : Cell), s.heap[x]? = some c0 → x ∉ wl → T.heap[x]? = some c0 := fun x c0 q r => by
    obtain ⟨c', h1, h2, -, h4⟩ := hsame.2.2.2.2.2 x c0 q
    have hb := (Array.getElem?_eq_some_iff.mp q).1
    have hsl : c'.slots = c0.slots := Array.ext_getElem? fun i => h4 i fun hm => (N _ hm).elim r (fun z => absurd hb (Nat.not_lt.mpr z))
    have hcc : c' = c0 := by rw [h2, hsl]
    rw [← hcc]; exact h1
  exact ⟨hsame.2.1, key, fun x c0 q => by
    obtain ⟨c', h1, h2, h3, -⟩ := hsame.2.2.2.2.2 x c0 q
    exact ⟨c', h1, by rw [h2], by rw [h2], h3⟩⟩
theorem Pos.ext0 (P : Pos p l e R s m args below meth c code Z EL [] hS own vm0 T locs cells slots h) : Ext hS h := ⟨P.keep.1, fun a c q => P.keep.2.1 a c q nin0⟩
theorem Pos.extZ (P : Pos p l e R s m args below meth c code Z EL wl hS own vm0 T locs cells slots h) (EZ : Ext Z.heap hS) (q : ∀ x ∈ wl, Z.heap.size ≤ x) : Ext Z.heap h := ⟨Nat.le_trans EZ.1 P.keep.1, fun a c r => P.keep.2.1 a c (EZ.2 a c r) fun z => absurd (Array.getElem?_eq_some_iff.mp r).1 (Nat.not_lt.mpr (q a z))⟩
/-- a step that leaves heap and tables of interned texts as they are -/
theorem Pos.same (P : Pos p l e R s m args below meth c code Z EL wl hS own vm0 T locs cells slots h) {T' : State} (X' : Stand p l e R (s.setVm vm0) m args below meth c T' locs cells slots) (e' : T'.heap = h) : Pos p l e R s m args below meth c code Z EL wl hS own vm0 T' locs cells slots h := by
  obtain ⟨X, eT, hsi, hZ, hown, N, n1, C, hx, hby⟩ := P; exact ⟨X', e', hsi, hZ, hown, N, n1, C, hx, hby⟩
theorem Pos.grown (P : Pos p l e R s m args below meth c code Z EL wl hS own vm0 T locs cells slots h) {T' : State} {h' : Heap} {cells' slots' : Nat} (X' : Stand p l e R (s.setVm vm0) m args below meth c T' locs cells' slots') (e' : T'.heap = h') (E : Ext h h') : Pos p l e R s m args below meth c code Z EL wl hS own vm0 T' locs cells' slots' h' := by
  obtain ⟨X, eT, hsi, hZ, hown, N, n1, C, hx, hby⟩ := P; obtain ⟨k0, q1, q2⟩ := hsi; exact ⟨X', e', ⟨k0, q1, Nat.le_trans q2 E.1⟩, hZ, hown, N, n1, C.trans (CHr.ext E C.1), hx, hby⟩
theorem Pos.wrote (P : Pos p l e R s m args below meth c code Z EL wl hS own vm0 T locs cells slots h) {T' : State} {h' : Heap} {a : Addr} {sl : Nat} {v : Value} (X' : Stand p l e R (s.setVm vm0) m args below meth c T' (locs ++ [⟨a, sl⟩]) cells slots) (e' : T'.heap = h') (Wq : Wr h h' a sl v) (ga : a ∈ wl ∨ hS.size ≤ a) (S : Safe Z EL vm0 h a) : Pos p l e R s m args below meth c code Z EL wl hS own vm0 T' (locs ++ [⟨a, sl⟩]) cells slots h' := by
  obtain ⟨X, eT, hsi, hZ, hown, N, n1, C, hx, hby⟩ := P; obtain ⟨k0, q1, q2⟩ := hsi; have hs := Wq.size; exact ⟨X', e', ⟨k0, q1, by omega⟩, hZ, hown, N.snoc ga, n1, C.trans (CHr.wr Wq S C.1), hx, hby⟩
theorem Pos.came (P : Pos p l e R s m args below meth c code Z EL wl hS own vm0 T locs cells slots h) {T' : State} {L : List Loc} {cells' slots' : Nat} (X' : Stand p l e R (s.setVm vm0) m args below meth c T' (locs ++ L) cells' slots') (F : Frw wl hS.size L) (C' : CHr Z EL vm0 h vm0 T'.heap) : Pos p l e R s m args below meth c code Z EL wl hS own vm0 T' (locs ++ L) cells' slots' T'.heap := by
  obtain ⟨X, eT, hsi, hZ, hown, N, n1, C, hx, hby⟩ := P; obtain ⟨k0, q1, q2⟩ := hsi; have hs := C'.2.1; exact ⟨X', rfl, ⟨k0, q1, Nat.le_trans q2 hs⟩, hZ, hown, N.app F, n1, C.trans C', hx, hby⟩
theorem Pos.cameW (P : Pos p l e R s m args below meth c code Z EL wl hS own vm0 T locs cells slots h) {T' : State} {L : List Loc} {cells' slots' : Nat} (X' : Stand p l e R ((s.setVm vm0).setVm T'.vm) m args below meth c T' (locs ++ L) cells' slots') (h2 : (s.setVm vm0).Since T'.vm T'.heap.size) (g : h.size ≤ T'.heap.size) (F : Frw wl hS.size L) (C' : CHr Z EL vm0 h T'.vm T'.heap) : Pos p l e R s m args below meth c code Z EL wl hS own T'.vm T' (locs ++ L) cells' slots' T'.heap := by
  obtain ⟨X, eT, hsi, hZ, hown, N, n1, C, hx, hby⟩ := P; obtain ⟨k0, q1, q2⟩ := hsi
  obtain ⟨y1, y2, y3, y4⟩ := rebS q1 q2 X' h2 g hZ hown
  exact ⟨y1, rfl, ⟨_, y2, Nat.le_refl _⟩, y3, y4, N.app F, n1, C.trans C', hx, hby⟩
theorem Pos.getF (P : Pos p l e R s m args below meth c code Z EL wl hS own vm0 T locs cells slots h) {R0 O n d host : String} {index : Nat} {a : Addr} {v : Value} (w : (Cond.fieldLink own index R0 n d).before a0 Z = true ∨ (Cond.fieldLinkNest own index R0 n d host).before a0 Z = true) (via : Via Z R0 O n d) (F : Fld Z h a O n d v) (hd : decode code pc = .ok (.getfield index, 3)) (hp : pc + 3 = pc1) (K : ∀ (T' : State), Pos p l e R s m args below meth c code Z EL wl hS own vm0 T' locs cells slots h → Go p.tables e below G (T'.setTop (mkF m pc1 ls (v :: st)))) : Go p.tables e below G (T.setTop (mkF m pc ls (.ref a :: st))) := by
  subst hp
  obtain ⟨T', X', e', stp⟩ := RoadKit.getF P.1 P.q.2.1 P.hz P.2.2.2.2.1 w via P.heap F (g := mkF m pc ls (.ref a :: st)) rfl rfl (hb P.q.2.2 hd)
  exact Go.via stp (K T' (P.same X' e'))
theorem Pos.getS (P : Pos p l e R s m args below meth c code Z EL wl hS own vm0 T locs cells slots h) {R0 O n d : String} {index : Nat} {v : Value} (w : (Cond.fieldLink own index R0 n d).before a0 Z = true) (via : Via Z R0 O n d) (F : Sta Z h O n d v) (hd : decode code pc = .ok (.getstatic index, 3)) (hp : pc + 3 = pc1) (K : ∀ (T' : State), Pos p l e R s m args below meth c code Z EL wl hS own vm0 T' locs cells slots h → Go p.tables e below G (T'.setTop (mkF m pc1 ls (v :: st)))) : Go p.tables e below G (T.setTop (mkF m pc ls st)) := by
  subst hp
  obtain ⟨T', X', e', stp⟩ := RoadKit.getS (host := "") P.1 P.q.2.1 P.hz P.2.2.2.2.1 w via P.heap F (g := mkF m pc ls st) rfl (hb P.q.2.2 hd)
  exact Go.via stp (K T' (P.same X' e'))
theorem Pos.putF (P : Pos p l e R s m args below meth c code Z EL wl hS own vm0 T locs cells slots h) {R0 O n d host C : String} {index kk : Nat} {ty : FieldType} {a : Addr} {v old : Value} (w : (Cond.fieldLink own index R0 n d).before a0 Z = true ∨ (Cond.fieldLinkNest own index R0 n d host).before a0 Z = true) (via : Via Z R0 O n d) (F : Fld Z h a O n d old) (E : Exa Z h a C) (L : (Cond.lays C O n d).before a0 Z = true ∨ ((Cond.laysFinal C O n d).before a0 Z = true ∧ own = O ∧ meth.name = "<init>")) (wi : (Cond.instantiable C kk).before a0 Z = true) (hty : parseFieldDescriptor d = some ty) (hn : narrow ty v = v) (hf : fits ty v = true) (ga : a ∈ wl ∨ hS.size ≤ a) (S : Safe Z EL vm0 h a) (hd : decode code pc = .ok (.putfield index, 3)) (hp : pc + 3 = pc1) (K : ∀ (T' : State) (h' : Heap), Pos p l e R s m args below meth c code Z EL wl hS own vm0 T' (locs ++ [⟨a, RoadKit.slotOf Z O n d⟩]) cells slots h' → Wr h h' a (RoadKit.slotOf Z O n d) v → Go p.tables e below G (T'.setTop (mkF m pc1 ls st))) : Go p.tables e below G (T.setTop (mkF m pc ls (v :: .ref a :: st))) := by
  subst hp
  obtain ⟨T', h', X', e', W', stp⟩ := RoadKit.putF P.1 P.q.2.1 P.hz P.2.2.2.2.1 w via P.heap F E L wi hty hn hf (g := mkF m pc ls (v :: .ref a :: st)) rfl rfl (hb P.q.2.2 hd)
  exact Go.via stp (K T' h' (P.wrote X' e' W' ga S) W')
theorem Pos.newO (P : Pos p l e R s m args below meth c code Z EL wl hS own vm0 T locs cells slots h) {C : String} {index n : Nat} (w : (Cond.classLink own index C).before a0 Z = true) (wi : (Cond.instantiable C n).before a0 Z = true) (wz : (Cond.initialized C).before a0 Z = true) (hc : cells + 1 ≤ R.cells) (hl : slots + n ≤ R.slots) (hd : decode code pc = .ok (.new index, 3)) (hp : pc + 3 = pc1) (K : ∀ (T' : State) (h' : Heap) (x : Addr), x = h.size → Pos p l e R s m args below meth c code Z EL wl hS own vm0 T' locs (cells + 1) (slots + n) h' → Ext h h' → Exa Z h' x C → (∀ {O nm d : String} {ty : FieldType}, Laid Z a0 C O nm d → parseFieldDescriptor d = some ty → Fld Z h' x O nm d (defaultValue ty)) → (∃ cell : Cell, h'[x]? = some cell ∧ cell.vm = .none ∧ cell.monitor = {}) → Go p.tables e below G (T'.setTop (mkF m pc1 ls (.ref x :: st)))) : Go p.tables e below G (T.setTop (mkF m pc ls st)) := by
  subst hp
  obtain ⟨T', h', X', e', E', A', D', U', stp⟩ := RoadKit.newO P.1 P.q.2.1 P.hz P.2.2.2.2.1 w wi wz P.heap (g := mkF m pc ls st) rfl (hb P.q.2.2 hd) hc hl
  exact Go.via stp (K T' h' _ rfl (P.grown X' e' E') E' A' D' U')
theorem Pos.newP (P : Pos p l e R s m args below meth c code Z EL wl hS own vm0 T locs cells slots h) {aty : ArrayType} {n : Int32} {cap : Nat} (w : (Cond.arrayClass (newarray.typeOf aty)).before a0 Z = true) (hn : ¬ n < 0) (hcap : n.toNatClampNeg ≤ cap) (hb8 : cap * 8 ≤ 536870912) (hc : cells + 1 ≤ R.cells) (hl : slots + cap ≤ R.slots) (hd : decode code pc = .ok (.newarray aty, 2)) (hp : pc + 2 = pc1) (K : ∀ (T' : State) (h' : Heap) (x : Addr) (k : ClassId), x = h.size → Pos p l e R s m args below meth c code Z EL wl hS own vm0 T' locs (cells + 1) (slots + cap) h' → Ext h h' → Arv Z h' x k (newarray.typeOf aty) n (List.replicate n.toNatClampNeg (defaultValue (newarray.typeOf aty))) (defaultValue (newarray.typeOf aty)) → Go p.tables e below G (T'.setTop (mkF m pc1 ls (.ref x :: st)))) : Go p.tables e below G (T.setTop (mkF m pc ls (.int n :: st))) := by
  subst hp
  obtain ⟨T', h', k, X', e', E', A', stp⟩ := RoadKit.newP P.1 P.q.2.1 P.hz w P.heap (g := mkF m pc ls (.int n :: st)) rfl (hb P.q.2.2 hd) rfl hn hcap hb8 hc hl
  exact Go.via stp (K T' h' _ k rfl (P.grown X' e' E') E' ((Arv.new A' hn).pad (pad_rep [] _ _)))
theorem Pos.stC (P : Pos p l e R s m args below meth c code Z EL wl hS own vm0 T locs cells slots h) {a : Addr} {k : ClassId} {z j : Int32} {x : Int32} {vs : List Value} {d : Value} {i : Nat} (V : Arv Z h a k .char z vs d) (hj : ¬ j < 0) (hi : j.toNatClampNeg = i) (hl : i < vs.length) (hz : z.toNatClampNeg = vs.length) (ga : a ∈ wl ∨ hS.size ≤ a) (S : Safe Z EL vm0 h a) (hd : decode code pc = .ok (.castore, 1)) (hp : pc + 1 = pc1) (K : ∀ (T' : State) (h' : Heap), Pos p l e R s m args below meth c code Z EL wl hS own vm0 T' (locs ++ [⟨a, j.toNatClampNeg⟩]) cells slots h' → Wr h h' a j.toNatClampNeg (.int (nar .char x)) → Arv Z h' a k .char z (vs.set i (.int (nar .char x))) d → Go p.tables e below G (T'.setTop (mkF m pc1 ls st))) : Go p.tables e below G (T.setTop (mkF m pc ls (.int x :: .int j :: .ref a :: st))) := by
  subst hp
  obtain ⟨cl, A, q1, S1, q3, H1, G1⟩ := V
  obtain ⟨T', h', X', e', W', stp⟩ := RoadKit.stC P.1 P.q.2.1 P.hz P.heap A (j := j) (x := x) (fun y => y.elim hj (fun y => by rw [S1] at y; omega)) (g := mkF m pc ls (.int x :: .int j :: .ref a :: st)) rfl rfl (hb P.q.2.2 hd)
  exact Go.via stp (K T' h' (P.wrote X' e' W' ga S) W' (Arv.set A q1 S1 q3 H1 G1 (fits_nar_char x) W' i hi hl))
theorem Pos.stB (P : Pos p l e R s m args below meth c code Z EL wl hS own vm0 T locs cells slots h) {a : Addr} {k : ClassId} {z j : Int32} {x : Int32} {vs : List Value} {d : Value} {i : Nat} (V : Arv Z h a k .byte z vs d) (hj : ¬ j < 0) (hi : j.toNatClampNeg = i) (hl : i < vs.length) (hz : z.toNatClampNeg = vs.length) (ga : a ∈ wl ∨ hS.size ≤ a) (S : Safe Z EL vm0 h a) (hd : decode code pc = .ok (.bastore, 1)) (hp : pc + 1 = pc1) (K : ∀ (T' : State) (h' : Heap), Pos p l e R s m args below meth c code Z EL wl hS own vm0 T' (locs ++ [⟨a, j.toNatClampNeg⟩]) cells slots h' → Wr h h' a j.toNatClampNeg (.int (nar .byte x)) → Arv Z h' a k .byte z (vs.set i (.int (nar .byte x))) d → Go p.tables e below G (T'.setTop (mkF m pc1 ls st))) : Go p.tables e below G (T.setTop (mkF m pc ls (.int x :: .int j :: .ref a :: st))) := by
  subst hp
  obtain ⟨cl, A, q1, S1, q3, H1, G1⟩ := V
  obtain ⟨T', h', X', e', W', stp⟩ := RoadKit.stB P.1 P.q.2.1 P.hz P.heap A (j := j) (x := x) (fun y => y.elim hj (fun y => by rw [S1] at y; omega)) (g := mkF m pc ls (.int x :: .int j :: .ref a :: st)) rfl rfl (hb P.q.2.2 hd)
  exact Go.via stp (K T' h' (P.wrote X' e' W' ga S) W' (Arv.set A q1 S1 q3 H1 G1 (fits_nar_byte x) W' i hi hl))
theorem Pos.stZ (P : Pos p l e R s m args below meth c code Z EL wl hS own vm0 T locs cells slots h) {a : Addr} {k : ClassId} {z j : Int32} {x : Int32} {vs : List Value} {d : Value} {i : Nat} (V : Arv Z h a k .boolean z vs d) (hj : ¬ j < 0) (hi : j.toNatClampNeg = i) (hl : i < vs.length) (hz : z.toNatClampNeg = vs.length) (ga : a ∈ wl ∨ hS.size ≤ a) (S : Safe Z EL vm0 h a) (hd : decode code pc = .ok (.bastore, 1)) (hp : pc + 1 = pc1) (K : ∀ (T' : State) (h' : Heap), Pos p l e R s m args below meth c code Z EL wl hS own vm0 T' (locs ++ [⟨a, j.toNatClampNeg⟩]) cells slots h' → Wr h h' a j.toNatClampNeg (.int (nar .boolean x)) → Arv Z h' a k .boolean z (vs.set i (.int (nar .boolean x))) d → Go p.tables e below G (T'.setTop (mkF m pc1 ls st))) : Go p.tables e below G (T.setTop (mkF m pc ls (.int x :: .int j :: .ref a :: st))) := by
  subst hp
  obtain ⟨cl, A, q1, S1, q3, H1, G1⟩ := V
  obtain ⟨T', h', X', e', W', stp⟩ := RoadKit.stZ P.1 P.q.2.1 P.hz P.heap A (j := j) (x := x) (fun y => y.elim hj (fun y => by rw [S1] at y; omega)) (g := mkF m pc ls (.int x :: .int j :: .ref a :: st)) rfl rfl (hb P.q.2.2 hd)
  exact Go.via stp (K T' h' (P.wrote X' e' W' ga S) W' (Arv.set A q1 S1 q3 H1 G1 (fits_nar_bool x) W' i hi hl))
theorem Pos.stI (P : Pos p l e R s m args below meth c code Z EL wl hS own vm0 T locs cells slots h) {a : Addr} {k : ClassId} {z j : Int32} {x : Int32} {vs : List Value} {d : Value} {i : Nat} (V : Arv Z h a k .int z vs d) (hj : ¬ j < 0) (hi : j.toNatClampNeg = i) (hl : i < vs.length) (hz : z.toNatClampNeg = vs.length) (ga : a ∈ wl ∨ hS.size ≤ a) (S : Safe Z EL vm0 h a) (hd : decode code pc = .ok (.iastore, 1)) (hp : pc + 1 = pc1) (K : ∀ (T' : State) (h' : Heap), Pos p l e R s m args below meth c code Z EL wl hS own vm0 T' (locs ++ [⟨a, j.toNatClampNeg⟩]) cells slots h' → Wr h h' a j.toNatClampNeg (.int x) → Arv Z h' a k .int z (vs.set i (.int x)) d → Go p.tables e below G (T'.setTop (mkF m pc1 ls st))) : Go p.tables e below G (T.setTop (mkF m pc ls (.int x :: .int j :: .ref a :: st))) := by
  subst hp
  obtain ⟨cl, A, q1, S1, q3, H1, G1⟩ := V
  obtain ⟨T', h', X', e', W', stp⟩ := RoadKit.stI P.1 P.q.2.1 P.hz P.heap A (j := j) (x := x) (fun y => y.elim hj (fun y => by rw [S1] at y; omega)) (g := mkF m pc ls (.int x :: .int j :: .ref a :: st)) rfl rfl (hb P.q.2.2 hd)
  exact Go.via stp (K T' h' (P.wrote X' e' W' ga S) W' (Arv.set A q1 S1 q3 H1 G1 (rfl) W' i hi hl))
theorem Pos.stJ (P : Pos p l e R s m args below meth c code Z EL wl hS own vm0 T locs cells slots h) {a : Addr} {k : ClassId} {z j : Int32} {x : Int64} {vs : List Value} {d : Value} {i : Nat} (V : Arv Z h a k .long z vs d) (hj : ¬ j < 0) (hi : j.toNatClampNeg = i) (hl : i < vs.length) (hz : z.toNatClampNeg = vs.length) (ga : a ∈ wl ∨ hS.size ≤ a) (S : Safe Z EL vm0 h a) (hd : decode code pc = .ok (.lastore, 1)) (hp : pc + 1 = pc1) (K : ∀ (T' : State) (h' : Heap), Pos p l e R s m args below meth c code Z EL wl hS own vm0 T' (locs ++ [⟨a, j.toNatClampNeg⟩]) cells slots h' → Wr h h' a j.toNatClampNeg (.long x) → Arv Z h' a k .long z (vs.set i (.long x)) d → Go p.tables e below G (T'.setTop (mkF m pc1 ls st))) : Go p.tables e below G (T.setTop (mkF m pc ls (.long x :: .int j :: .ref a :: st))) := by
  subst hp
  obtain ⟨cl, A, q1, S1, q3, H1, G1⟩ := V
  obtain ⟨T', h', X', e', W', stp⟩ := RoadKit.stJ P.1 P.q.2.1 P.hz P.heap A (j := j) (x := x) (fun y => y.elim hj (fun y => by rw [S1] at y; omega)) (g := mkF m pc ls (.long x :: .int j :: .ref a :: st)) rfl rfl (hb P.q.2.2 hd)
  exact Go.via stp (K T' h' (P.wrote X' e' W' ga S) W' (Arv.set A q1 S1 q3 H1 G1 (rfl) W' i hi hl))
theorem Pos.stD (P : Pos p l e R s m args below meth c code Z EL wl hS own vm0 T locs cells slots h) {a : Addr} {k : ClassId} {z j : Int32} {x : UInt64} {vs : List Value} {d : Value} {i : Nat} (V : Arv Z h a k .double z vs d) (hj : ¬ j < 0) (hi : j.toNatClampNeg = i) (hl : i < vs.length) (hz : z.toNatClampNeg = vs.length) (ga : a ∈ wl ∨ hS.size ≤ a) (S : Safe Z EL vm0 h a) (hd : decode code pc = .ok (.dastore, 1)) (hp : pc + 1 = pc1) (K : ∀ (T' : State) (h' : Heap), Pos p l e R s m args below meth c code Z EL wl hS own vm0 T' (locs ++ [⟨a, j.toNatClampNeg⟩]) cells slots h' → Wr h h' a j.toNatClampNeg (.double x) → Arv Z h' a k .double z (vs.set i (.double x)) d → Go p.tables e below G (T'.setTop (mkF m pc1 ls st))) : Go p.tables e below G (T.setTop (mkF m pc ls (.double x :: .int j :: .ref a :: st))) := by
  subst hp
  obtain ⟨cl, A, q1, S1, q3, H1, G1⟩ := V
  obtain ⟨T', h', X', e', W', stp⟩ := RoadKit.stD P.1 P.q.2.1 P.hz P.heap A (j := j) (x := x) (fun y => y.elim hj (fun y => by rw [S1] at y; omega)) (g := mkF m pc ls (.double x :: .int j :: .ref a :: st)) rfl rfl (hb P.q.2.2 hd)
  exact Go.via stp (K T' h' (P.wrote X' e' W' ga S) W' (Arv.set A q1 S1 q3 H1 G1 (rfl) W' i hi hl))
theorem Pos.stF (P : Pos p l e R s m args below meth c code Z EL wl hS own vm0 T locs cells slots h) {a : Addr} {k : ClassId} {z j : Int32} {x : UInt32} {vs : List Value} {d : Value} {i : Nat} (V : Arv Z h a k .float z vs d) (hj : ¬ j < 0) (hi : j.toNatClampNeg = i) (hl : i < vs.length) (hz : z.toNatClampNeg = vs.length) (ga : a ∈ wl ∨ hS.size ≤ a) (S : Safe Z EL vm0 h a) (hd : decode code pc = .ok (.fastore, 1)) (hp : pc + 1 = pc1) (K : ∀ (T' : State) (h' : Heap), Pos p l e R s m args below meth c code Z EL wl hS own vm0 T' (locs ++ [⟨a, j.toNatClampNeg⟩]) cells slots h' → Wr h h' a j.toNatClampNeg (.float x) → Arv Z h' a k .float z (vs.set i (.float x)) d → Go p.tables e below G (T'.setTop (mkF m pc1 ls st))) : Go p.tables e below G (T.setTop (mkF m pc ls (.float x :: .int j :: .ref a :: st))) := by
  subst hp
  obtain ⟨cl, A, q1, S1, q3, H1, G1⟩ := V
  obtain ⟨T', h', X', e', W', stp⟩ := RoadKit.stF P.1 P.q.2.1 P.hz P.heap A (j := j) (x := x) (fun y => y.elim hj (fun y => by rw [S1] at y; omega)) (g := mkF m pc ls (.float x :: .int j :: .ref a :: st)) rfl rfl (hb P.q.2.2 hd)
  exact Go.via stp (K T' h' (P.wrote X' e' W' ga S) W' (Arv.set A q1 S1 q3 H1 G1 (rfl) W' i hi hl))
theorem Pos.ldC (P : Pos p l e R s m args below meth c code Z EL wl hS own vm0 T locs cells slots h) {a : Addr} {k : ClassId} {z j : Int32} {vs : List Value} {d v : Value} (V : Arv Z h a k .char z vs d) (hj : ¬ j < 0) (hz : j.toNatClampNeg < z.toNatClampNeg) (hv : vs.getD j.toNatClampNeg d = v) (hd : decode code pc = .ok (.caload, 1)) (hp : pc + 1 = pc1) (K : Go p.tables e below G (T.setTop (mkF m pc1 ls (v :: st)))) : Go p.tables e below G (T.setTop (mkF m pc ls (.int j :: .ref a :: st))) := by
  subst hp
  obtain ⟨cl, A, q1, S1, q3, H1, G1⟩ := V
  exact Go.via (fun t k => P.1.caload P.q.2.1 (j := j) (v := v) (by rw [P.heap]; exact A.1) (State.isArrayOf_alike P.hz.alike A.2.1) A.2.2 (fun y => y.elim hj (fun y => by rw [S1] at y; omega)) (by rw [← hv]; exact H1 _ (by rw [S1]; exact hz)) (g := mkF m pc ls (.int j :: .ref a :: st)) rfl rfl (hb P.q.2.2 hd) t k) K
theorem Pos.ldB (P : Pos p l e R s m args below meth c code Z EL wl hS own vm0 T locs cells slots h) {a : Addr} {k : ClassId} {z j : Int32} {vs : List Value} {d v : Value} (V : Arv Z h a k .byte z vs d) (hj : ¬ j < 0) (hz : j.toNatClampNeg < z.toNatClampNeg) (hv : vs.getD j.toNatClampNeg d = v) (hd : decode code pc = .ok (.baload, 1)) (hp : pc + 1 = pc1) (K : Go p.tables e below G (T.setTop (mkF m pc1 ls (v :: st)))) : Go p.tables e below G (T.setTop (mkF m pc ls (.int j :: .ref a :: st))) := by
  subst hp
  obtain ⟨cl, A, q1, S1, q3, H1, G1⟩ := V
  exact Go.via (fun t k => P.1.baloadBytes P.q.2.1 (j := j) (v := v) (by rw [P.heap]; exact A.1) (State.isArrayOf_alike P.hz.alike A.2.1) A.2.2 (fun y => y.elim hj (fun y => by rw [S1] at y; omega)) (by rw [← hv]; exact H1 _ (by rw [S1]; exact hz)) (g := mkF m pc ls (.int j :: .ref a :: st)) rfl rfl (hb P.q.2.2 hd) t k) K
theorem Pos.ldZ (P : Pos p l e R s m args below meth c code Z EL wl hS own vm0 T locs cells slots h) {a : Addr} {k : ClassId} {z j : Int32} {vs : List Value} {d v : Value} (V : Arv Z h a k .boolean z vs d) (hj : ¬ j < 0) (hz : j.toNatClampNeg < z.toNatClampNeg) (hv : vs.getD j.toNatClampNeg d = v) (hd : decode code pc = .ok (.baload, 1)) (hp : pc + 1 = pc1) (K : Go p.tables e below G (T.setTop (mkF m pc1 ls (v :: st)))) : Go p.tables e below G (T.setTop (mkF m pc ls (.int j :: .ref a :: st))) := by
  subst hp
  obtain ⟨cl, A, q1, S1, q3, H1, G1⟩ := V
  exact Go.via (fun t k => P.1.baloadBooleans P.q.2.1 (j := j) (v := v) (by rw [P.heap]; exact A.1) (State.isArrayOf_alike P.hz.alike A.2.1) A.2.2 (fun y => y.elim hj (fun y => by rw [S1] at y; omega)) (by rw [← hv]; exact H1 _ (by rw [S1]; exact hz)) (g := mkF m pc ls (.int j :: .ref a :: st)) rfl rfl (hb P.q.2.2 hd) t k) K
theorem Pos.ldI (P : Pos p l e R s m args below meth c code Z EL wl hS own vm0 T locs cells slots h) {a : Addr} {k : ClassId} {z j : Int32} {vs : List Value} {d v : Value} (V : Arv Z h a k .int z vs d) (hj : ¬ j < 0) (hz : j.toNatClampNeg < z.toNatClampNeg) (hv : vs.getD j.toNatClampNeg d = v) (hd : decode code pc = .ok (.iaload, 1)) (hp : pc + 1 = pc1) (K : Go p.tables e below G (T.setTop (mkF m pc1 ls (v :: st)))) : Go p.tables e below G (T.setTop (mkF m pc ls (.int j :: .ref a :: st))) := by
  subst hp
  obtain ⟨cl, A, q1, S1, q3, H1, G1⟩ := V
  exact Go.via (fun t k => P.1.iaload P.q.2.1 (j := j) (v := v) (by rw [P.heap]; exact A.1) (State.isArrayOf_alike P.hz.alike A.2.1) A.2.2 (fun y => y.elim hj (fun y => by rw [S1] at y; omega)) (by rw [← hv]; exact H1 _ (by rw [S1]; exact hz)) (g := mkF m pc ls (.int j :: .ref a :: st)) rfl rfl (hb P.q.2.2 hd) t k) K
theorem Pos.ldJ (P : Pos p l e R s m args below meth c code Z EL wl hS own vm0 T locs cells slots h) {a : Addr} {k : ClassId} {z j : Int32} {vs : List Value} {d v : Value} (V : Arv Z h a k .long z vs d) (hj : ¬ j < 0) (hz : j.toNatClampNeg < z.toNatClampNeg) (hv : vs.getD j.toNatClampNeg d = v) (hd : decode code pc = .ok (.laload, 1)) (hp : pc + 1 = pc1) (K : Go p.tables e below G (T.setTop (mkF m pc1 ls (v :: st)))) : Go p.tables e below G (T.setTop (mkF m pc ls (.int j :: .ref a :: st))) := by
  subst hp
  obtain ⟨cl, A, q1, S1, q3, H1, G1⟩ := V
  exact Go.via (fun t k => P.1.laload P.q.2.1 (j := j) (v := v) (by rw [P.heap]; exact A.1) (State.isArrayOf_alike P.hz.alike A.2.1) A.2.2 (fun y => y.elim hj (fun y => by rw [S1] at y; omega)) (by rw [← hv]; exact H1 _ (by rw [S1]; exact hz)) (g := mkF m pc ls (.int j :: .ref a :: st)) rfl rfl (hb P.q.2.2 hd) t k) K
theorem Pos.ldD (P : Pos p l e R s m args below meth c code Z EL wl hS own vm0 T locs cells slots h) {a : Addr} {k : ClassId} {z j : Int32} {vs : List Value} {d v : Value} (V : Arv Z h a k .double z vs d) (hj : ¬ j < 0) (hz : j.toNatClampNeg < z.toNatClampNeg) (hv : vs.getD j.toNatClampNeg d = v) (hd : decode code pc = .ok (.daload, 1)) (hp : pc + 1 = pc1) (K : Go p.tables e below G (T.setTop (mkF m pc1 ls (v :: st)))) : Go p.tables e below G (T.setTop (mkF m pc ls (.int j :: .ref a :: st))) := by
  subst hp
  obtain ⟨cl, A, q1, S1, q3, H1, G1⟩ := V
  exact Go.via (fun t k => P.1.daload P.q.2.1 (j := j) (v := v) (by rw [P.heap]; exact A.1) (State.isArrayOf_alike P.hz.alike A.2.1) A.2.2 (fun y => y.elim hj (fun y => by rw [S1] at y; omega)) (by rw [← hv]; exact H1 _ (by rw [S1]; exact hz)) (g := mkF m pc ls (.int j :: .ref a :: st)) rfl rfl (hb P.q.2.2 hd) t k) K
theorem Pos.ldF (P : Pos p l e R s m args below meth c code Z EL wl hS own vm0 T locs cells slots h) {a : Addr} {k : ClassId} {z j : Int32} {vs : List Value} {d v : Value} (V : Arv Z h a k .float z vs d) (hj : ¬ j < 0) (hz : j.toNatClampNeg < z.toNatClampNeg) (hv : vs.getD j.toNatClampNeg d = v) (hd : decode code pc = .ok (.faload, 1)) (hp : pc + 1 = pc1) (K : Go p.tables e below G (T.setTop (mkF m pc1 ls (v :: st)))) : Go p.tables e below G (T.setTop (mkF m pc ls (.int j :: .ref a :: st))) := by
  subst hp
  obtain ⟨cl, A, q1, S1, q3, H1, G1⟩ := V
  exact Go.via (fun t k => P.1.faload P.q.2.1 (j := j) (v := v) (by rw [P.heap]; exact A.1) (State.isArrayOf_alike P.hz.alike A.2.1) A.2.2 (fun y => y.elim hj (fun y => by rw [S1] at y; omega)) (by rw [← hv]; exact H1 _ (by rw [S1]; exact hz)) (g := mkF m pc ls (.int j :: .ref a :: st)) rfl rfl (hb P.q.2.2 hd) t k) K
theorem Pos.ldR (P : Pos p l e R s m args below meth c code Z EL wl hS own vm0 T locs cells slots h) {a : Addr} {k : ClassId} {ty : FieldType} {z j : Int32} {vs : List Value} {d v : Value} (V : Arv Z h a k ty z vs d) (hty : ty.isReference = true) (hj : ¬ j < 0) (hz : j.toNatClampNeg < z.toNatClampNeg) (hv : vs.getD j.toNatClampNeg d = v) (hd : decode code pc = .ok (.aaload, 1)) (hp : pc + 1 = pc1) (K : Go p.tables e below G (T.setTop (mkF m pc1 ls (v :: st)))) : Go p.tables e below G (T.setTop (mkF m pc ls (.int j :: .ref a :: st))) := by
  subst hp
  obtain ⟨cl, A, q1, S1, q3, H1, G1⟩ := V
  exact Go.via (fun t k => P.1.aaload P.q.2.1 (j := j) (v := v) (by rw [P.heap]; exact A.1) (State.isArrayOf_alike P.hz.alike A.2.1) hty A.2.2 (fun y => y.elim hj (fun y => by rw [S1] at y; omega)) (by rw [← hv]; exact H1 _ (by rw [S1]; exact hz)) (g := mkF m pc ls (.int j :: .ref a :: st)) rfl rfl (hb P.q.2.2 hd) t k) K
theorem Pos.cloneR (P : Pos p l e R s m args below meth c code Z EL wl hS own vm0 T locs cells slots h) {ad : String} {index : Nat} {a : Addr} {k : ClassId} {ty : FieldType} {z : Int32} {vs : List Value} {d : Value} {W cap : Nat} (w1 : (Cond.methodLink own index ⟨ad, "clone", "()Ljava/lang/Object;"⟩).before a0 Z = true) (w2 : (Cond.sameMethod ad "java/lang/Object" "clone" "()Ljava/lang/Object;").before a0 Z = true) (w3 : (Cond.native ⟨"java/lang/Object", "clone", "()Ljava/lang/Object;"⟩).before a0 Z = true) (w4 : (Cond.instanceMethod ⟨"java/lang/Object", "clone", "()Ljava/lang/Object;"⟩).before a0 Z = true) (w5 : (Cond.selects ad ⟨ad, "clone", "()Ljava/lang/Object;"⟩ ⟨"java/lang/Object", "clone", "()Ljava/lang/Object;"⟩).before a0 Z = true) (w6 : (Cond.castable ad "java/lang/Cloneable").before a0 Z = true) (V : Arv Z h a k ty z vs d) (E : Exa Z h a ad) (hsize : ls.size = c.maxLocals) (hf : 1 ≤ R.frames) (hW : (st.map fun v => v.category).sum ≤ W) (hl : W + 14 ≤ R.locals) (hcap : z.toNatClampNeg ≤ cap) (hc : cells + 1 ≤ R.cells) (hsl : slots + cap ≤ R.slots) (hd : decode code pc = .ok (.invokevirtual index, 3)) (hp : pc + 3 = pc1) (K : ∀ (T' : State) (h' : Heap) (x : Addr), x = h.size → Pos p l e R s m args below meth c code Z EL wl hS own vm0 T' locs (cells + 1) (slots + cap) h' → Ext h h' → Arv Z h' x k ty z vs d → Exa Z h' x ad → Go p.tables e below G (T'.setTop (mkF m pc1 ls (.ref x :: st)))) : Go p.tables e below G (T.setTop (mkF m pc ls (.ref a :: st))) := by
  subst hp
  obtain ⟨T', h', X', e', E', A', Ex', stp⟩ := RoadKit.cloneH P.1 P.q.2.1 P.hz P.2.2.2.2.1 w1 w2 w3 w4 w5 w6 P.heap V.arh E (g := mkF m pc ls (.ref a :: st)) rfl hsize rfl (hb P.q.2.2 hd) hf (W := W) (by show 2 * 0 + _ ≤ _; omega) hl hcap hc hsl
  exact Go.via stp (K T' h' _ rfl (P.grown X' e' E') E' A' Ex')
theorem Pos.len (P : Pos p l e R s m args below meth c code Z EL wl hS own vm0 T locs cells slots h) {a : Addr} {k : ClassId} {ty : FieldType} {z : Int32} {vs : List Value} {d : Value} (V : Arv Z h a k ty z vs d) (hd : decode code pc = .ok (.arraylength, 1)) (hp : pc + 1 = pc1) (K : Go p.tables e below G (T.setTop (mkF m pc1 ls (.int z :: st)))) : Go p.tables e below G (T.setTop (mkF m pc ls (.ref a :: st))) := by
  subst hp
  obtain ⟨cl, A, q1, S1, q3, H1, G1⟩ := V
  rw [← len_of S1 q3] at K
  exact Go.via (fun t k => P.1.arraylength P.q.2.1 (cell := cl) (by rw [P.heap]; exact A.1) (State.isArrayOf_alike P.hz.alike A.2.1) (g := mkF m pc ls (.ref a :: st)) rfl (rest := st) rfl (hb P.q.2.2 hd) t k) K
theorem Pos.initO (P : Pos p l e R s m args below meth c code Z EL wl hS own vm0 T locs cells slots h) {idx : Nat} {a : Addr} {W : Nat} (w1 : (Cond.methodLink own idx Lib.objectInit).before a0 Z = true) (w2 : (Cond.instanceMethod Lib.objectInit).before a0 Z = true) (w3 : (Cond.code Lib.objectInit ⟨#[0xb1]⟩ 1 none).before a0 Z = true) (hsize : ls.size = c.maxLocals) (hf : 1 ≤ R.frames) (hW : (st.map fun v => v.category).sum ≤ W) (hl : W + 12 ≤ R.locals) (hd : decode code pc = .ok (.invokespecial idx, 3)) (hp : pc + 3 = pc1) (K : ∀ (T' : State), Pos p l e R s m args below meth c code Z EL wl hS own vm0 T' locs cells slots h → Go p.tables e below G (T'.setTop (mkF m pc1 ls st))) : Go p.tables e below G (T.setTop (mkF m pc ls (.ref a :: st))) := by
  subst hp
  obtain ⟨T', X', e', stp⟩ := RoadKit.initO P.1 P.q.2.1 P.hz P.2.2.2.2.1 w1 w2 w3 P.heap (g := mkF m pc ls (.ref a :: st)) rfl hsize rfl (hb P.q.2.2 hd) hf (W := W) (by show 2 * 0 + _ ≤ _; omega) hl
  exact Go.via stp (K T' (P.same X' e'))
theorem Pos.castY (P : Pos p l e R s m args below meth c code Z EL wl hS own vm0 T locs cells slots h) {C : String} {index : Nat} {a : Addr} (w : (Cond.classLink own index C).before a0 Z = true) (F : Ins Z h a C true) (hd : decode code pc = .ok (.checkcast index, 3)) (hp : pc + 3 = pc1) (K : ∀ (T' : State), Pos p l e R s m args below meth c code Z EL wl hS own vm0 T' locs cells slots h → Go p.tables e below G (T'.setTop (mkF m pc1 ls (.ref a :: st)))) : Go p.tables e below G (T.setTop (mkF m pc ls (.ref a :: st))) := by
  subst hp
  obtain ⟨T', X', e', stp⟩ := RoadKit.castY P.1 P.q.2.1 P.hz P.2.2.2.2.1 w P.heap F (g := mkF m pc ls (.ref a :: st)) rfl rfl (hb P.q.2.2 hd)
  exact Go.via stp (K T' (P.same X' e'))
theorem Pos.instY (P : Pos p l e R s m args below meth c code Z EL wl hS own vm0 T locs cells slots h) {C : String} {index : Nat} {a : Addr} (w : (Cond.classLink own index C).before a0 Z = true) (F : Ins Z h a C true) (hd : decode code pc = .ok (.instanceof index, 3)) (hp : pc + 3 = pc1) (K : ∀ (T' : State), Pos p l e R s m args below meth c code Z EL wl hS own vm0 T' locs cells slots h → Go p.tables e below G (T'.setTop (mkF m pc1 ls (.int 1 :: st)))) : Go p.tables e below G (T.setTop (mkF m pc ls (.ref a :: st))) := by
  subst hp
  obtain ⟨T', X', e', stp⟩ := RoadKit.instY P.1 P.q.2.1 P.hz P.2.2.2.2.1 w P.heap F (g := mkF m pc ls (.ref a :: st)) rfl rfl (hb P.q.2.2 hd)
  exact Go.via stp (K T' (P.same X' e'))
theorem Pos.instNull (P : Pos p l e R s m args below meth c code Z EL wl hS own vm0 T locs cells slots h) {index : Nat} (hd : decode code pc = .ok (.instanceof index, 3)) (hp : pc + 3 = pc1) (K : Go p.tables e below G (T.setTop (mkF m pc1 ls (.int 0 :: st)))) : Go p.tables e below G (T.setTop (mkF m pc ls (.null :: st))) := by
  subst hp; exact Go.via (P.1.instanceofNull P.q.2.1 (g := mkF m pc ls (.null :: st)) rfl rfl (hb P.q.2.2 hd)) K
theorem Pos.castNull (P : Pos p l e R s m args below meth c code Z EL wl hS own vm0 T locs cells slots h) {index : Nat} (hd : decode code pc = .ok (.checkcast index, 3)) (hp : pc + 3 = pc1) (K : Go p.tables e below G (T.setTop (mkF m pc1 ls (.null :: st)))) : Go p.tables e below G (T.setTop (mkF m pc ls (.null :: st))) := by
  subst hp; exact Go.via (P.1.checkcastNull P.q.2.1 (g := mkF m pc ls (.null :: st)) rfl rfl (hb P.q.2.2 hd)) K
theorem Pos.instNo (P : Pos p l e R s m args below meth c code Z EL wl hS own vm0 T locs cells slots h) {C D : String} {index : Nat} {a : Addr} (w : (Cond.classLink own index C).before a0 Z = true) (E : Exa Z h a D) (F : ∃ c t, Z.vm.findClass D = some c ∧ Z.vm.findClass C = some t ∧ Z.vm.assignable c t = false) (hd : decode code pc = .ok (.instanceof index, 3)) (hp : pc + 3 = pc1) (K : ∀ (T' : State), Pos p l e R s m args below meth c code Z EL wl hS own vm0 T' locs cells slots h → Go p.tables e below G (T'.setTop (mkF m pc1 ls (.int 0 :: st)))) : Go p.tables e below G (T.setTop (mkF m pc ls (.ref a :: st))) := by
  subst hp
  obtain ⟨T', X', e', stp⟩ := RoadKit.instNo P.1 P.q.2.1 P.hz P.2.2.2.2.1 w P.heap E F (g := mkF m pc ls (.ref a :: st)) rfl rfl (hb P.q.2.2 hd)
  exact Go.via stp (K T' (P.same X' e'))
theorem Pos.exc1 (P : Pos p l e R s m args below meth c code Z EL wl hS own vm0 T locs cells slots h) (htr : l.stackTraces = true) {rc : String} {links : List Jvm.Free.Exc.Link} {ic n : Nat} (hok : Jvm.Free.Exc.linksOk 1 links = true) (w1 : (Cond.methodLink own ic (Jvm.Free.Exc.ctor 1 (Jvm.Free.Exc.headName links))).before a0 Z = true) (w2 : (Cond.instanceMethod (Jvm.Free.Exc.ctor 1 (Jvm.Free.Exc.headName links))).before a0 Z = true) (wT : (Jvm.Free.Exc.chainTab 1 rc links).before a0 Z = true) (wi : (Cond.instantiable rc n).before a0 Z = true) (r : ∀ d ∈ twoRefs, d.before a0 Z = true)
    (hT0 : ThS Z hS) (hT : ThS Z h) (hTK : vm0.MethodsKnown) (hBelow : vm0.FramesKnown below) {a : Addr} (E : Exa Z h a rc) (N : Unt h a) (B : Fld Z h a Bundle.tN "backtrace" Jvm.Free.Exc.obD .null) (B2 : Fld Z h a Bundle.tN "detailMessage" Jvm.Free.Exc.msgD .null) {msg : Value} (hmsg : msg.isRef = true) (ga : a ∈ wl ∨ hS.size ≤ a) (S : Safe Z EL vm0 h a)
    (hsize : ls.size = c.maxLocals) {W : Nat} (hW : (st.map fun v => v.category).sum ≤ W) (hf : 4 + links.length ≤ R.frames) (hlo : W + (56 + 14 * links.length) ≤ R.locals) (hc : cells + 1 ≤ R.cells) (hsl : slots + 2752 ≤ R.slots) (hd : decode code pc = .ok (.invokespecial ic, 3)) (hp : pc + 3 = pc1)
    (K : ∀ (T' : State) (h' : Heap), Pos p l e R s m args below meth c code Z EL wl hS own vm0 T' (locs ++ sixLocs Z a) (cells + 1) (slots + 2752) h' → Kp Z h h' a → Exa Z h' a rc → Unt h' a → Fld Z h' a Bundle.tN "detailMessage" Jvm.Free.Exc.msgD msg → ThS Z h' → Go p.tables e below G (T'.setTop (mkF m pc1 ls st))) : Go p.tables e below G (T.setTop (mkF m pc ls (msg :: .ref a :: st))) := by
  subst hp
  obtain ⟨T', h', X', e', K', E', N', M', -, hT', stp⟩ := RoadKit.excL1 P.1 P.q.2.1 htr P.hz P.2.2.2.2.1 hok w1 w2 wT wi r (by have q := P.2.2.2.2.2.2.1; show ThS Z s.heap; rw [q]; exact hT0) hT hTK hBelow P.heap E N B B2 hmsg (g := mkF m pc ls (msg :: .ref a :: st)) rfl hsize rfl (hb P.q.2.2 hd) hf (by show 2 * 0 + _ + _ ≤ _; omega) hc hsl
  refine Go.via stp (K T' h' ?_ K' E' N' M' hT')
  have C' : CHr Z EL vm0 h vm0 h' := CHr.keep (keep_of_kp K') (sfS S sf0) P.chv
  obtain ⟨X, eT, hsi, hZ, hown, N, n1, C, hx, hby⟩ := P; obtain ⟨k0, q1, q2⟩ := hsi
  exact ⟨X', e', ⟨k0, q1, Nat.le_trans q2 C'.2.1⟩, hZ, hown, N.app (fun y hy => by obtain ⟨nd, -, rfl⟩ := List.mem_map.mp hy; exact ga), n1, C.trans C', hx, hby⟩
theorem Pos.alS (P : Pos p l e R s m args below meth c code Z EL wl hS own vm0 T locs cells slots h) : s.vm.Alike vm0 := by obtain ⟨k0, q1, q2⟩ := P.2.2.1; exact q1.1.alike
theorem Pos.ldcI (P : Pos p l e R s m args below meth c code Z EL wl hS own vm0 T locs cells slots h) {index : Nat} {v : Int32} (w : (Cond.constant own index v).before a0 Z = true) (hd : decode code pc = .ok (.ldc index, 2)) (hp : pc + 2 = pc1) (K : Go p.tables e below G (T.setTop (mkF m pc1 ls (.int v :: st)))) : Go p.tables e below G (T.setTop (mkF m pc ls st)) := by
  subst hp; exact Go.via (P.1.ldcInt P.q.2.1 P.2.2.2.2.1 (mvT P.hz w) (g := mkF m pc ls st) rfl (hb P.q.2.2 hd)) K
theorem Pos.ldc2J (P : Pos p l e R s m args below meth c code Z EL wl hS own vm0 T locs cells slots h) {index : Nat} {v : Int64} (w : (Cond.constantLong own index v).before a0 Z = true) (hd : decode code pc = .ok (.ldc2_w index, 3)) (hp : pc + 3 = pc1) (K : Go p.tables e below G (T.setTop (mkF m pc1 ls (.long v :: st)))) : Go p.tables e below G (T.setTop (mkF m pc ls st)) := by
  subst hp; exact Go.via (P.1.ldc2Long P.q.2.1 P.2.2.2.2.1 (mvT P.hz w) (g := mkF m pc ls st) rfl (hb P.q.2.2 hd)) K
theorem Pos.ldcF (P : Pos p l e R s m args below meth c code Z EL wl hS own vm0 T locs cells slots h) {index : Nat} {v : UInt32} (w : (Cond.constantFloat own index v).before a0 Z = true) (hd : decode code pc = .ok (.ldc index, 2)) (hp : pc + 2 = pc1) (K : Go p.tables e below G (T.setTop (mkF m pc1 ls (.float v :: st)))) : Go p.tables e below G (T.setTop (mkF m pc ls st)) := by
  subst hp; exact Go.via (P.1.ldcFloatC P.q.2.1 P.2.2.2.2.1 (mvT P.hz w) (g := mkF m pc ls st) rfl (hb P.q.2.2 hd)) K
theorem Pos.ldc2D (P : Pos p l e R s m args below meth c code Z EL wl hS own vm0 T locs cells slots h) {index : Nat} {v : UInt64} (w : (Cond.constantDouble own index v).before a0 Z = true) (hd : decode code pc = .ok (.ldc2_w index, 3)) (hp : pc + 3 = pc1) (K : Go p.tables e below G (T.setTop (mkF m pc1 ls (.double v :: st)))) : Go p.tables e below G (T.setTop (mkF m pc ls st)) := by
  subst hp; exact Go.via (P.1.ldc2DoubleC P.q.2.1 P.2.2.2.2.1 (mvT P.hz w) (g := mkF m pc ls st) rfl (hb P.q.2.2 hd)) K
theorem Pos.ldcO (P : Pos p l e R s m args below meth c code Z EL wl hS own vm0 T locs cells slots h) {index : Nat} {text : String} {n : Nat} (w : (Cond.stringLink own index text).before a0 Z = true) (wS : ∀ a ∈ Bundle.stringAtoms, a.before a0 Z = true) (hEL : EW Z a0 EL) (hn : 4 * text.toList.length ≤ n) (hbig : n ≤ 536870912) (hc : cells + 2 ≤ R.cells) (hl : slots + (n + 4) ≤ R.slots) (hd : decode code pc = .ok (.ldc index, 2)) (hp : pc + 2 = pc1)
    (K : ∀ (a : Addr) (T' : State) (h' : Heap), Pos p l e R s m args below meth c code Z EL wl hS own T'.vm T' locs (cells + 2) (slots + (n + 4)) h' → Ext h h' → CHr Z EL vm0 h T'.vm h' → Lit (s.setVm T'.vm) own index a → Go p.tables e below G (T'.setTop (mkF m pc1 ls (.ref a :: st)))) : Go p.tables e below G (T.setTop (mkF m pc ls st)) := by
  subst hp
  obtain ⟨X, eT, hsi, hZ, hown, N, n1, C, hx, hby⟩ := P
  obtain ⟨k0, q1, q2⟩ := hsi
  obtain ⟨a, T', h', k1, X', e', E', hS2, hk2, hW, hf, hC, hL, stp⟩ := RoadKit.ldcOH X hx hZ hown w wS eT q1 q2 hEL C.1 (g := mkF m pc ls st) rfl (hb hby hd) hn hbig hc hl
  exact Go.via stp (K a T' h' ⟨X', e', ⟨k1, hS2, hk2⟩, hW, hf, N, n1, C.trans hC, hx, hby⟩ E' hC hL)
theorem Pos.ldcR (P : Pos p l e R s m args below meth c code Z EL wl hS own vm0 T locs cells slots h) {index : Nat} {text : String} {n : Nat} (w : (Cond.stringLink own index text).before a0 Z = true) (wS : ∀ a ∈ Bundle.stringAtoms, a.before a0 Z = true) (hEL : EW Z a0 EL) (hmem : (own, index) ∈ EL) {vs : List Value} {z : Int32} (ht : (∀ c ∈ text.toList, c.toNat < 256) ∧ text.toList.map (fun c => Value.int (Jvm.Lit.byteI c.toNat.toUInt16)) = vs) (hz : ¬ z < 0) (hlz : z.toNatClampNeg = vs.length) (hn : 4 * text.toList.length ≤ n) (hbig : n ≤ 536870912) (hc : cells + 2 ≤ R.cells) (hl : slots + (n + 4) ≤ R.slots) (hd : decode code pc = .ok (.ldc index, 2)) (hp : pc + 2 = pc1)
    (K : ∀ (a : Addr) (T' : State) (h' : Heap) (b : Addr) (k : ClassId), Pos p l e R s m args below meth c code Z EL wl hS own T'.vm T' locs (cells + 2) (slots + (n + 4)) h' → Ext h h' → CHr Z EL vm0 h T'.vm h' → Exa Z h' a "java/lang/String" → Fld Z h' a "java/lang/String" "coder" "B" (.int 0) → Fld Z h' a "java/lang/String" "value" "[B" (.ref b) → Arv Z h' b k .byte z vs (.int 0) → (∀ x, Safe Z EL T'.vm h' x → x ≠ a ∧ x ≠ b) → Lit (s.setVm T'.vm) own index a → Go p.tables e below G (T'.setTop (mkF m pc1 ls (.ref a :: st)))) : Go p.tables e below G (T.setTop (mkF m pc ls st)) := by
  subst hp
  obtain ⟨X, eT, hsi, hZ, hown, N, n1, C, hx, hby⟩ := P
  obtain ⟨k0, q1, q2⟩ := hsi
  obtain ⟨a, T', h', k1, b, k, X', e', E', hS2, hk2, hW, hf, y1, y2, y3, y4, -, -, hC, hL, hne, stp⟩ := RoadKit.ldcCH X hx hZ hown w wS eT q1 q2 hEL hmem C.1 ht hz hlz (g := mkF m pc ls st) rfl (hb hby hd) hn hbig hc hl
  exact Go.via stp (K a T' h' b k ⟨X', e', ⟨k1, hS2, hk2⟩, hW, hf, N, n1, C.trans hC, hx, hby⟩ E' hC y1 y2 y3 y4 hne hL)
theorem Pos.callS (P : Pos p l e R s m args below meth c code Z EL wl hS own vm0 T locs cells slots h) {index : Nat} {y : MethodName} {bytes : ByteArray} {maxL : Nat} {ret : Option FieldType} {as' : Array Value} {rc rs W : Nat} {Q : Option Value → Heap → List Loc → Prop} {argsL st0 : List Value} (w1 : (Cond.methodLink own index y).before a0 Z = true) (w2 : (Cond.static y).before a0 Z = true) (w3 : (Cond.initialized y.cls).before a0 Z = true) (w4 : (Cond.code y bytes maxL ret).before a0 Z = true) (hy : y.cls ≠ "java/lang/invoke/MethodHandle" ∧ y.cls ≠ "java/lang/invoke/VarHandle") (hK : Back l R p e below (s.setVm vm0) args y 3 W (fun A a => a = as' ∧ A.U.heap = h ∧ A.cells + rc ≤ R.cells ∧ A.slots + rs ≤ R.slots) (fun A _ v B => ∃ L, Q v B.U.heap L ∧ B.locs = A.locs ++ L ∧ B.cells = A.cells + rc ∧ B.slots = A.slots + rs)) (hlen : ∀ sig, parseMethodDescriptor y.desc = some sig → argsL.length = sig.parameters.length) (hst : st = argsL.reverse ++ st0) (has : argsL.toArray = as') (hW : (st0.map fun v => v.category).sum ≤ W) (hsize : ls.size = c.maxLocals) (hc : cells + rc ≤ R.cells) (hs : slots + rs ≤ R.slots) (hF : ∀ v h' L, Q v h' L → Frw wl hS.size L ∧ CHr Z EL vm0 h vm0 h') (hd : decode code pc = .ok (.invokestatic index, 3)) (hp : pc + 3 = pc1)
    (K : ∀ (v : Option Value) (T' : State) (h' : Heap) (L : List Loc), Q v h' L → Pos p l e R s m args below meth c code Z EL wl hS own vm0 T' (locs ++ L) (cells + rc) (slots + rs) h' → Go p.tables e below G (T'.setTop (mkF m pc1 ls (v.toList ++ st0)))) : Go p.tables e below G (T.setTop (mkF m pc ls st)) := by
  subst hp
  obtain ⟨v, vm₁, ⟨U, Lx, cx, sx⟩, -, X', ⟨L, hQ, l1, l2, l3⟩, stp⟩ := Jvm.LawKit.callS P.1 P.q.2.1 P.2.2.2.2.1 (mvT P.hz w1) (mvT P.hz w2) (mvT P.hz w3) (mvT P.hz w4) hy hK (g := mkF m pc ls st) rfl hsize (argsL := argsL) (rest := st0) hlen hst (by show 2 * 0 + _ ≤ _; omega) (hb P.q.2.2 hd) (fun _ _ => ⟨has, P.heap, hc, hs⟩)
  dsimp only [Pt.U, Pt.locs, Pt.cells, Pt.slots] at *
  subst l1 l2 l3
  exact Go.via stp (K v U _ L hQ (P.came X' (hF _ _ _ hQ).1 (hF _ _ _ hQ).2))
theorem Pos.callN (P : Pos p l e R s m args below meth c code Z EL wl hS own vm0 T locs cells slots h) {index : Nat} {y : MethodName} {bytes : ByteArray} {maxL : Nat} {x : Addr} {as' : Array Value} {rc rs W : Nat} {Q : Option Value → Heap → List Loc → Prop} {argsL st0 : List Value} (hy1 : y.name = "<init>") (w1 : (Cond.methodLink own index y).before a0 Z = true) (w2 : (Cond.instanceMethod y).before a0 Z = true) (w4 : (Cond.code y bytes maxL none).before a0 Z = true) (hy : y.cls ≠ "java/lang/invoke/MethodHandle" ∧ y.cls ≠ "java/lang/invoke/VarHandle") (hK : Back l R p e below (s.setVm vm0) args y 3 W (fun A a => a = as' ∧ A.U.heap = h ∧ A.cells + rc ≤ R.cells ∧ A.slots + rs ≤ R.slots) (fun A _ v B => ∃ L, Q v B.U.heap L ∧ B.locs = A.locs ++ L ∧ B.cells = A.cells + rc ∧ B.slots = A.slots + rs)) (hlen : ∀ sig, parseMethodDescriptor y.desc = some sig → argsL.length = sig.parameters.length) (hst : st = argsL.reverse ++ .ref x :: st0) (has : (.ref x :: argsL).toArray = as') (hW : (st0.map fun v => v.category).sum ≤ W) (hsize : ls.size = c.maxLocals) (hc : cells + rc ≤ R.cells) (hs : slots + rs ≤ R.slots) (hF : ∀ v h' L, Q v h' L → Frw wl hS.size L ∧ CHr Z EL vm0 h vm0 h') (hd : decode code pc = .ok (.invokespecial index, 3)) (hp : pc + 3 = pc1)
    (K : ∀ (v : Option Value) (T' : State) (h' : Heap) (L : List Loc), Q v h' L → Pos p l e R s m args below meth c code Z EL wl hS own vm0 T' (locs ++ L) (cells + rc) (slots + rs) h' → Go p.tables e below G (T'.setTop (mkF m pc1 ls (v.toList ++ st0)))) : Go p.tables e below G (T.setTop (mkF m pc ls st)) := by
  subst hp
  obtain ⟨v, vm₁, ⟨U, Lx, cx, sx⟩, -, X', ⟨L, hQ, l1, l2, l3⟩, stp⟩ := Stand.specialBack P.1 P.q.2.1 hy1 P.2.2.2.2.1 (mvT P.hz w1) (mvT P.hz w2) (mvT P.hz w4) hy hK (g := mkF m pc ls st) rfl hsize (Steps.refl _) (a := x) (argsL := argsL) (rest := st0) hlen hst (by show 2 * 0 + _ ≤ _; omega) (hb P.q.2.2 hd) (fun _ _ => ⟨has, P.heap, hc, hs⟩)
  dsimp only [Pt.U, Pt.locs, Pt.cells, Pt.slots] at *
  subst l1 l2 l3
  exact Go.tr stp (K v U _ L hQ (P.came X' (hF _ _ _ hQ).1 (hF _ _ _ hQ).2))
theorem Pos.callV (P : Pos p l e R s m args below meth c code Z EL wl hS own vm0 T locs cells slots h) {index : Nat} {y z : MethodName} {x : Addr} {C : String} {as' : Array Value} {rc rs W : Nat} {Q : Option Value → Heap → List Loc → Prop} {argsL st0 : List Value} (E : Exa Z h x C) (w1 : (Cond.methodLink own index y).before a0 Z = true) (w2 : (Cond.declares y).before a0 Z = true) (w3 : (Cond.selects C y z).before a0 Z = true) (w4 : (Cond.instanceMethod z).before a0 Z = true) (nf : NotFace (s.setVm vm0) y) (hy : y.cls ≠ "java/lang/invoke/MethodHandle" ∧ y.cls ≠ "java/lang/invoke/VarHandle") (hK : Back l R p e below (s.setVm vm0) args z 3 W (fun A a => a = as' ∧ A.U.heap = h ∧ A.cells + rc ≤ R.cells ∧ A.slots + rs ≤ R.slots) (fun A _ v B => ∃ L, Q v B.U.heap L ∧ B.locs = A.locs ++ L ∧ B.cells = A.cells + rc ∧ B.slots = A.slots + rs)) (hlen : ∀ sig, parseMethodDescriptor y.desc = some sig → argsL.length = sig.parameters.length) (hst : st = argsL.reverse ++ .ref x :: st0) (has : (.ref x :: argsL).toArray = as') (hW : (st0.map fun v => v.category).sum ≤ W) (hsize : ls.size = c.maxLocals) (hc : cells + rc ≤ R.cells) (hs : slots + rs ≤ R.slots) (hF : ∀ v h' L, Q v h' L → Frw wl hS.size L ∧ CHr Z EL vm0 h vm0 h') (hd : decode code pc = .ok (.invokevirtual index, 3)) (hp : pc + 3 = pc1)
    (K : ∀ (v : Option Value) (T' : State) (h' : Heap) (L : List Loc), Q v h' L → Pos p l e R s m args below meth c code Z EL wl hS own vm0 T' (locs ++ L) (cells + rc) (slots + rs) h' → Go p.tables e below G (T'.setTop (mkF m pc1 ls (v.toList ++ st0)))) : Go p.tables e below G (T.setTop (mkF m pc ls st)) := by
  subst hp
  obtain ⟨cq, kq, qa, qb, qc⟩ := isOf P.hz P.heap E
  obtain ⟨v, vm₁, ⟨U, Lx, cx, sx⟩, -, X', ⟨L, hQ, l1, l2, l3⟩, stp⟩ := Stand.virtualBack P.1 P.q.2.1 (y := y) (z := z) P.2.2.2.2.1 (mvT P.hz w1) (mvT P.hz w2) nf (mvT P.hz w3) (mvT P.hz w4) hy hK qa qc (g := mkF m pc ls st) rfl hsize (Steps.refl _) (argsL := argsL) (rest := st0) hlen hst (by show 2 * 0 + _ ≤ _; omega) (hb P.q.2.2 hd) (fun _ _ => ⟨has, P.heap, hc, hs⟩)
  dsimp only [Pt.U, Pt.locs, Pt.cells, Pt.slots] at *
  subst l1 l2 l3
  exact Go.tr stp (K v U _ L hQ (P.came X' (hF _ _ _ hQ).1 (hF _ _ _ hQ).2))
theorem Pos.callVU (P : Pos p l e R s m args below meth c code Z EL wl hS own vm0 T locs cells slots h) {index : Nat} {y z : MethodName} {x : Addr} {C owner : String} {as' : Array Value} {rc rs W : Nat} {Q : Option Value → Heap → List Loc → Prop} {argsL st0 : List Value} (E : Exa Z h x C) (w1 : (Cond.methodLink own index y).before a0 Z = true) (w2 : (Cond.sameMethod y.cls owner y.name y.desc).before a0 Z = true) (w5 : (Cond.declares ⟨owner, y.name, y.desc⟩).before a0 Z = true) (hy : owner ≠ "java/lang/invoke/MethodHandle" ∧ owner ≠ "java/lang/invoke/VarHandle") (w3 : (Cond.selects C y z).before a0 Z = true) (w4 : (Cond.instanceMethod z).before a0 Z = true) (hK : Back l R p e below (s.setVm vm0) args z 3 W (fun A a => a = as' ∧ A.U.heap = h ∧ A.cells + rc ≤ R.cells ∧ A.slots + rs ≤ R.slots) (fun A _ v B => ∃ L, Q v B.U.heap L ∧ B.locs = A.locs ++ L ∧ B.cells = A.cells + rc ∧ B.slots = A.slots + rs)) (hlen : ∀ sig, parseMethodDescriptor y.desc = some sig → argsL.length = sig.parameters.length) (hst : st = argsL.reverse ++ .ref x :: st0) (has : (.ref x :: argsL).toArray = as') (hW : (st0.map fun v => v.category).sum ≤ W) (hsize : ls.size = c.maxLocals) (hc : cells + rc ≤ R.cells) (hs : slots + rs ≤ R.slots) (hF : ∀ v h' L, Q v h' L → Frw wl hS.size L ∧ CHr Z EL vm0 h vm0 h') (hd : decode code pc = .ok (.invokevirtual index, 3)) (hp : pc + 3 = pc1)
    (K : ∀ (v : Option Value) (T' : State) (h' : Heap) (L : List Loc), Q v h' L → Pos p l e R s m args below meth c code Z EL wl hS own vm0 T' (locs ++ L) (cells + rc) (slots + rs) h' → Go p.tables e below G (T'.setTop (mkF m pc1 ls (v.toList ++ st0)))) : Go p.tables e below G (T.setTop (mkF m pc ls st)) := by
  subst hp
  obtain ⟨cq, kq, qa, qb, qc⟩ := isOf P.hz P.heap E
  obtain ⟨v, vm₁, ⟨U, Lx, cx, sx⟩, -, X', ⟨L, hQ, l1, l2, l3⟩, stp⟩ := Stand.virtualBackUp P.1 P.q.2.1 (x := y) (y := z) P.2.2.2.2.1 (mvT P.hz w1) (mvT P.hz w2) (mvT P.hz w5) hy (mvT P.hz w3) (mvT P.hz w4) hK qa qc (g := mkF m pc ls st) rfl hsize (Steps.refl _) (argsL := argsL) (rest := st0) hlen hst (by show 2 * 0 + _ ≤ _; omega) (hb P.q.2.2 hd) (fun _ _ => ⟨has, P.heap, hc, hs⟩)
  dsimp only [Pt.U, Pt.locs, Pt.cells, Pt.slots] at *
  subst l1 l2 l3
  exact Go.tr stp (K v U _ L hQ (P.came X' (hF _ _ _ hQ).1 (hF _ _ _ hQ).2))
theorem Pos.callI (P : Pos p l e R s m args below meth c code Z EL wl hS own vm0 T locs cells slots h) {index count : Nat} {xi y : MethodName} {x : Addr} {C : String} {as' : Array Value} {rc rs W : Nat} {Q : Option Value → Heap → List Loc → Prop} {argsL st0 : List Value} (E : Exa Z h x C) (w1 : (Cond.methodLink own index xi).before a0 Z = true) (w2 : (Cond.declares xi).before a0 Z = true) (w3 : (Cond.interfaceMethod xi.cls xi.cls xi.name xi.desc).before a0 Z = true) (h3 : ((Cond.interfaceMethod xi.cls xi.cls xi.name xi.desc).onTables && (Cond.interfaceMethod xi.cls xi.cls xi.name xi.desc).keepsFace) = true) (w4 : (Cond.selects C xi y).before a0 Z = true) (w5 : (Cond.instanceMethod y).before a0 Z = true) (w6 : (Cond.publicMethod y).before a0 Z = true) (w7 : (Cond.unhidden C xi.name xi.desc).before a0 Z = true) (w8 : (Cond.castable C xi.cls).before a0 Z = true) (hy : xi.cls ≠ "java/lang/invoke/MethodHandle" ∧ xi.cls ≠ "java/lang/invoke/VarHandle") (hK : Back l R p e below (s.setVm vm0) args y 5 W (fun A a => a = as' ∧ A.U.heap = h ∧ A.cells + rc ≤ R.cells ∧ A.slots + rs ≤ R.slots) (fun A _ v B => ∃ L, Q v B.U.heap L ∧ B.locs = A.locs ++ L ∧ B.cells = A.cells + rc ∧ B.slots = A.slots + rs)) (hlen : ∀ sig, parseMethodDescriptor xi.desc = some sig → argsL.length = sig.parameters.length) (hst : st = argsL.reverse ++ .ref x :: st0) (has : (.ref x :: argsL).toArray = as') (hW : (st0.map fun v => v.category).sum ≤ W) (hsize : ls.size = c.maxLocals) (hc : cells + rc ≤ R.cells) (hs : slots + rs ≤ R.slots) (hF : ∀ v h' L, Q v h' L → Frw wl hS.size L ∧ CHr Z EL vm0 h vm0 h') (hd : decode code pc = .ok (.invokeinterface index count, 5)) (hp : pc + 5 = pc1)
    (K : ∀ (v : Option Value) (T' : State) (h' : Heap) (L : List Loc), Q v h' L → Pos p l e R s m args below meth c code Z EL wl hS own vm0 T' (locs ++ L) (cells + rc) (slots + rs) h' → Go p.tables e below G (T'.setTop (mkF m pc1 ls (v.toList ++ st0)))) : Go p.tables e below G (T.setTop (mkF m pc ls st)) := by
  subst hp
  obtain ⟨cq, kq, qa, qb, qc⟩ := isOf P.hz P.heap E
  obtain ⟨v, vm₁, ⟨U, Lx, cx, sx⟩, -, X', ⟨L, hQ, l1, l2, l3⟩, stp⟩ := Stand.interfaceBack P.1 P.q.2.1 P.2.2.2.2.1 (mvT P.hz w1) (mvT P.hz w2) (mvT P.hz w3 h3) (mvT P.hz w4) (mvT P.hz w5) (mvT P.hz w6) (mvT P.hz w7) (mvT P.hz w8) hy hK qa qb qc (g := mkF m pc ls st) rfl hsize (Steps.refl _) (argsL := argsL) (rest := st0) hlen hst (by show 2 * 0 + _ ≤ _; omega) (hb P.q.2.2 hd) (fun _ _ => ⟨has, P.heap, hc, hs⟩)
  dsimp only [Pt.U, Pt.locs, Pt.cells, Pt.slots] at *
  subst l1 l2 l3
  exact Go.tr stp (K v U _ L hQ (P.came X' (hF _ _ _ hQ).1 (hF _ _ _ hQ).2))
theorem Pos.callU (P : Pos p l e R s m args below meth c code Z EL wl hS own vm0 T locs cells slots h) {index : Nat} {y : MethodName} {bytes : ByteArray} {maxL : Nat} {ret : Option FieldType} {x : Addr} {C : String} {as' : Array Value} {rc rs W : Nat} {Q : Option Value → Heap → List Loc → Prop} {argsL st0 : List Value} (E : Ins Z h x C true) (w1 : (Cond.methodLink own index y).before a0 Z = true) (w2 : (Cond.sameMethod y.cls y.cls y.name y.desc).before a0 Z = true) (w3 : (Cond.instanceMethod y).before a0 Z = true) (w4 : (Cond.superclass own y.cls).before a0 Z = true) (hn : y.name ≠ "<init>") (wc : (Cond.code y bytes maxL ret).before a0 Z = true) (hK : Back l R p e below (s.setVm vm0) args y 3 W (fun A a => a = as' ∧ A.U.heap = h ∧ A.cells + rc ≤ R.cells ∧ A.slots + rs ≤ R.slots) (fun A _ v B => ∃ L, Q v B.U.heap L ∧ B.locs = A.locs ++ L ∧ B.cells = A.cells + rc ∧ B.slots = A.slots + rs)) (hlen : ∀ sig, parseMethodDescriptor y.desc = some sig → argsL.length = sig.parameters.length) (hst : st = argsL.reverse ++ .ref x :: st0) (has : (.ref x :: argsL).toArray = as') (hW : (st0.map fun v => v.category).sum ≤ W) (hsize : ls.size = c.maxLocals) (hc : cells + rc ≤ R.cells) (hs : slots + rs ≤ R.slots) (hF : ∀ v h' L, Q v h' L → Frw wl hS.size L ∧ CHr Z EL vm0 h vm0 h') (hd : decode code pc = .ok (.invokespecial index, 3)) (hp : pc + 3 = pc1)
    (K : ∀ (v : Option Value) (T' : State) (h' : Heap) (L : List Loc), Q v h' L → Pos p l e R s m args below meth c code Z EL wl hS own vm0 T' (locs ++ L) (cells + rc) (slots + rs) h' → Go p.tables e below G (T'.setTop (mkF m pc1 ls (v.toList ++ st0)))) : Go p.tables e below G (T.setTop (mkF m pc ls st)) := by
  subst hp
  obtain ⟨v, vm₁, ⟨U, Lx, cx, sx⟩, -, X', ⟨L, hQ, l1, l2, l3⟩, stp⟩ := RoadKit.superBack P.1 P.q.2.1 P.hz P.2.2.2.2.1 w1 w2 w3 w4 hn hK P.heap E (g := mkF m pc ls st) rfl hsize wc (argsL := argsL) (rest := st0) hlen hst (by show 2 * 0 + _ ≤ _; omega) (hb P.q.2.2 hd) (fun _ _ => ⟨has, P.heap, hc, hs⟩)
  dsimp only [Pt.U, Pt.locs, Pt.cells, Pt.slots] at *
  subst l1 l2 l3
  exact Go.tr stp (K v U _ L hQ (P.came X' (hF _ _ _ hQ).1 (hF _ _ _ hQ).2))
theorem Pos.callSW (P : Pos p l e R s m args below meth c code Z EL wl hS own vm0 T locs cells slots h) {index : Nat} {y : MethodName} {bytes : ByteArray} {maxL : Nat} {ret : Option FieldType} {as' : Array Value} {rc rs W : Nat} {Q : Option Value → Heap → List Loc → Prop} {argsL st0 : List Value} (w1 : (Cond.methodLink own index y).before a0 Z = true) (w2 : (Cond.static y).before a0 Z = true) (w3 : (Cond.initialized y.cls).before a0 Z = true) (w4 : (Cond.code y bytes maxL ret).before a0 Z = true) (hy : y.cls ≠ "java/lang/invoke/MethodHandle" ∧ y.cls ≠ "java/lang/invoke/VarHandle") (hK : BackS l R p e below (s.setVm vm0) args y 3 W (fun A a => a = as' ∧ A.U.heap = h ∧ A.cells + rc ≤ R.cells ∧ A.slots + rs ≤ R.slots) (fun A _ v B => ∃ L, Q v B.U.heap L ∧ B.locs = A.locs ++ L ∧ B.cells = A.cells + rc ∧ B.slots = A.slots + rs ∧ CHr Z EL vm0 h B.U.vm B.U.heap)) (hlen : ∀ sig, parseMethodDescriptor y.desc = some sig → argsL.length = sig.parameters.length) (hst : st = argsL.reverse ++ st0) (has : argsL.toArray = as') (hW : (st0.map fun v => v.category).sum ≤ W) (hsize : ls.size = c.maxLocals) (hc : cells + rc ≤ R.cells) (hs : slots + rs ≤ R.slots) (hF : ∀ v h' L, Q v h' L → Frw wl hS.size L) (hd : decode code pc = .ok (.invokestatic index, 3)) (hp : pc + 3 = pc1)
    (K : ∀ (v : Option Value) (T' : State) (h' : Heap) (L : List Loc), Q v h' L → Pos p l e R s m args below meth c code Z EL wl hS own T'.vm T' (locs ++ L) (cells + rc) (slots + rs) h' → CHr Z EL vm0 h T'.vm h' → Go p.tables e below G (T'.setTop (mkF m pc1 ls (v.toList ++ st0)))) : Go p.tables e below G (T.setTop (mkF m pc ls st)) := by
  subst hp
  obtain ⟨v, vm₁, ⟨U, Lx, cx, sx⟩, -, X', hS', hgr, ⟨L, hQ, l1, l2, l3, hC⟩, stp⟩ := RoadKit.callSS P.1 P.q.2.1 P.2.2.2.2.1 (mvT P.hz w1) (mvT P.hz w2) (mvT P.hz w3) (mvT P.hz w4) hy hK (g := mkF m pc ls st) rfl hsize (argsL := argsL) (rest := st0) hlen hst (by show 2 * 0 + _ ≤ _; omega) (hb P.q.2.2 hd) (fun _ _ => ⟨has, P.heap, hc, hs⟩)
  dsimp only [Pt.U, Pt.locs, Pt.cells, Pt.slots] at *
  subst l1 l2 l3
  rw [P.heap] at hgr
  exact Go.tr stp (K v U _ L hQ (P.cameW X' hS' hgr (hF _ _ _ hQ) hC) hC)
theorem Pos.callNW (P : Pos p l e R s m args below meth c code Z EL wl hS own vm0 T locs cells slots h) {index : Nat} {y : MethodName} {bytes : ByteArray} {maxL : Nat} {x : Addr} {as' : Array Value} {rc rs W : Nat} {Q : Option Value → Heap → List Loc → Prop} {argsL st0 : List Value} (hy1 : y.name = "<init>") (w1 : (Cond.methodLink own index y).before a0 Z = true) (w2 : (Cond.instanceMethod y).before a0 Z = true) (w4 : (Cond.code y bytes maxL none).before a0 Z = true) (hy : y.cls ≠ "java/lang/invoke/MethodHandle" ∧ y.cls ≠ "java/lang/invoke/VarHandle") (hK : BackS l R p e below (s.setVm vm0) args y 3 W (fun A a => a = as' ∧ A.U.heap = h ∧ A.cells + rc ≤ R.cells ∧ A.slots + rs ≤ R.slots) (fun A _ v B => ∃ L, Q v B.U.heap L ∧ B.locs = A.locs ++ L ∧ B.cells = A.cells + rc ∧ B.slots = A.slots + rs ∧ CHr Z EL vm0 h B.U.vm B.U.heap)) (hlen : ∀ sig, parseMethodDescriptor y.desc = some sig → argsL.length = sig.parameters.length) (hst : st = argsL.reverse ++ .ref x :: st0) (has : (.ref x :: argsL).toArray = as') (hW : (st0.map fun v => v.category).sum ≤ W) (hsize : ls.size = c.maxLocals) (hc : cells + rc ≤ R.cells) (hs : slots + rs ≤ R.slots) (hF : ∀ v h' L, Q v h' L → Frw wl hS.size L) (hd : decode code pc = .ok (.invokespecial index, 3)) (hp : pc + 3 = pc1)
    (K : ∀ (v : Option Value) (T' : State) (h' : Heap) (L : List Loc), Q v h' L → Pos p l e R s m args below meth c code Z EL wl hS own T'.vm T' (locs ++ L) (cells + rc) (slots + rs) h' → CHr Z EL vm0 h T'.vm h' → Go p.tables e below G (T'.setTop (mkF m pc1 ls (v.toList ++ st0)))) : Go p.tables e below G (T.setTop (mkF m pc ls st)) := by
  subst hp
  obtain ⟨v, vm₁, ⟨U, Lx, cx, sx⟩, -, X', hS', hgr, ⟨L, hQ, l1, l2, l3, hC⟩, stp⟩ := Stand.specialBackS P.1 P.q.2.1 hy1 P.2.2.2.2.1 (mvT P.hz w1) (mvT P.hz w2) (mvT P.hz w4) hy hK (g := mkF m pc ls st) rfl hsize (Steps.refl _) (a := x) (argsL := argsL) (rest := st0) hlen hst (by show 2 * 0 + _ ≤ _; omega) (hb P.q.2.2 hd) (fun _ _ => ⟨has, P.heap, hc, hs⟩)
  dsimp only [Pt.U, Pt.locs, Pt.cells, Pt.slots] at *
  subst l1 l2 l3
  rw [P.heap] at hgr
  exact Go.tr stp (K v U _ L hQ (P.cameW X' hS' hgr (hF _ _ _ hQ) hC) hC)
theorem Pos.callVW (P : Pos p l e R s m args below meth c code Z EL wl hS own vm0 T locs cells slots h) {index : Nat} {y z : MethodName} {x : Addr} {C : String} {as' : Array Value} {rc rs W : Nat} {Q : Option Value → Heap → List Loc → Prop} {argsL st0 : List Value} (E : Exa Z h x C) (w1 : (Cond.methodLink own index y).before a0 Z = true) (w2 : (Cond.declares y).before a0 Z = true) (w3 : (Cond.selects C y z).before a0 Z = true) (w4 : (Cond.instanceMethod z).before a0 Z = true) (nf : NotFace (s.setVm vm0) y) (hy : y.cls ≠ "java/lang/invoke/MethodHandle" ∧ y.cls ≠ "java/lang/invoke/VarHandle") (hK : BackS l R p e below (s.setVm vm0) args z 3 W (fun A a => a = as' ∧ A.U.heap = h ∧ A.cells + rc ≤ R.cells ∧ A.slots + rs ≤ R.slots) (fun A _ v B => ∃ L, Q v B.U.heap L ∧ B.locs = A.locs ++ L ∧ B.cells = A.cells + rc ∧ B.slots = A.slots + rs ∧ CHr Z EL vm0 h B.U.vm B.U.heap)) (hlen : ∀ sig, parseMethodDescriptor y.desc = some sig → argsL.length = sig.parameters.length) (hst : st = argsL.reverse ++ .ref x :: st0) (has : (.ref x :: argsL).toArray = as') (hW : (st0.map fun v => v.category).sum ≤ W) (hsize : ls.size = c.maxLocals) (hc : cells + rc ≤ R.cells) (hs : slots + rs ≤ R.slots) (hF : ∀ v h' L, Q v h' L → Frw wl hS.size L) (hd : decode code pc = .ok (.invokevirtual index, 3)) (hp : pc + 3 = pc1)
    (K : ∀ (v : Option Value) (T' : State) (h' : Heap) (L : List Loc), Q v h' L → Pos p l e R s m args below meth c code Z EL wl hS own T'.vm T' (locs ++ L) (cells + rc) (slots + rs) h' → CHr Z EL vm0 h T'.vm h' → Go p.tables e below G (T'.setTop (mkF m pc1 ls (v.toList ++ st0)))) : Go p.tables e below G (T.setTop (mkF m pc ls st)) := by
  subst hp
  obtain ⟨cq, kq, qa, qb, qc⟩ := isOf P.hz P.heap E
  obtain ⟨v, vm₁, ⟨U, Lx, cx, sx⟩, -, X', hS', hgr, ⟨L, hQ, l1, l2, l3, hC⟩, stp⟩ := Stand.virtualBackS P.1 P.q.2.1 (y := y) (z := z) P.2.2.2.2.1 (mvT P.hz w1) (mvT P.hz w2) nf (mvT P.hz w3) (mvT P.hz w4) hy hK qa qc (g := mkF m pc ls st) rfl hsize (Steps.refl _) (argsL := argsL) (rest := st0) hlen hst (by show 2 * 0 + _ ≤ _; omega) (hb P.q.2.2 hd) (fun _ _ => ⟨has, P.heap, hc, hs⟩)
  dsimp only [Pt.U, Pt.locs, Pt.cells, Pt.slots] at *
  subst l1 l2 l3
  rw [P.heap] at hgr
  exact Go.tr stp (K v U _ L hQ (P.cameW X' hS' hgr (hF _ _ _ hQ) hC) hC)
theorem Pos.callVUW (P : Pos p l e R s m args below meth c code Z EL wl hS own vm0 T locs cells slots h) {index : Nat} {y z : MethodName} {x : Addr} {C owner : String} {as' : Array Value} {rc rs W : Nat} {Q : Option Value → Heap → List Loc → Prop} {argsL st0 : List Value} (E : Exa Z h x C) (w1 : (Cond.methodLink own index y).before a0 Z = true) (w2 : (Cond.sameMethod y.cls owner y.name y.desc).before a0 Z = true) (w5 : (Cond.declares ⟨owner, y.name, y.desc⟩).before a0 Z = true) (hy : owner ≠ "java/lang/invoke/MethodHandle" ∧ owner ≠ "java/lang/invoke/VarHandle") (w3 : (Cond.selects C y z).before a0 Z = true) (w4 : (Cond.instanceMethod z).before a0 Z = true) (hK : BackS l R p e below (s.setVm vm0) args z 3 W (fun A a => a = as' ∧ A.U.heap = h ∧ A.cells + rc ≤ R.cells ∧ A.slots + rs ≤ R.slots) (fun A _ v B => ∃ L, Q v B.U.heap L ∧ B.locs = A.locs ++ L ∧ B.cells = A.cells + rc ∧ B.slots = A.slots + rs ∧ CHr Z EL vm0 h B.U.vm B.U.heap)) (hlen : ∀ sig, parseMethodDescriptor y.desc = some sig → argsL.length = sig.parameters.length) (hst : st = argsL.reverse ++ .ref x :: st0) (has : (.ref x :: argsL).toArray = as') (hW : (st0.map fun v => v.category).sum ≤ W) (hsize : ls.size = c.maxLocals) (hc : cells + rc ≤ R.cells) (hs : slots + rs ≤ R.slots) (hF : ∀ v h' L, Q v h' L → Frw wl hS.size L) (hd : decode code pc = .ok (.invokevirtual index, 3)) (hp : pc + 3 = pc1)
    (K : ∀ (v : Option Value) (T' : State) (h' : Heap) (L : List Loc), Q v h' L → Pos p l e R s m args below meth c code Z EL wl hS own T'.vm T' (locs ++ L) (cells + rc) (slots + rs) h' → CHr Z EL vm0 h T'.vm h' → Go p.tables e below G (T'.setTop (mkF m pc1 ls (v.toList ++ st0)))) : Go p.tables e below G (T.setTop (mkF m pc ls st)) := by
  subst hp
  obtain ⟨cq, kq, qa, qb, qc⟩ := isOf P.hz P.heap E
  obtain ⟨v, vm₁, ⟨U, Lx, cx, sx⟩, -, X', hS', hgr, ⟨L, hQ, l1, l2, l3, hC⟩, stp⟩ := Stand.virtualBackUpS P.1 P.q.2.1 (x := y) (y := z) P.2.2.2.2.1 (mvT P.hz w1) (mvT P.hz w2) (mvT P.hz w5) hy (mvT P.hz w3) (mvT P.hz w4) hK qa qc (g := mkF m pc ls st) rfl hsize (Steps.refl _) (argsL := argsL) (rest := st0) hlen hst (by show 2 * 0 + _ ≤ _; omega) (hb P.q.2.2 hd) (fun _ _ => ⟨has, P.heap, hc, hs⟩)
  dsimp only [Pt.U, Pt.locs, Pt.cells, Pt.slots] at *
  subst l1 l2 l3
  rw [P.heap] at hgr
  exact Go.tr stp (K v U _ L hQ (P.cameW X' hS' hgr (hF _ _ _ hQ) hC) hC)
theorem Pos.callIW (P : Pos p l e R s m args below meth c code Z EL wl hS own vm0 T locs cells slots h) {index count : Nat} {xi y : MethodName} {x : Addr} {C : String} {as' : Array Value} {rc rs W : Nat} {Q : Option Value → Heap → List Loc → Prop} {argsL st0 : List Value} (E : Exa Z h x C) (w1 : (Cond.methodLink own index xi).before a0 Z = true) (w2 : (Cond.declares xi).before a0 Z = true) (w3 : (Cond.interfaceMethod xi.cls xi.cls xi.name xi.desc).before a0 Z = true) (h3 : ((Cond.interfaceMethod xi.cls xi.cls xi.name xi.desc).onTables && (Cond.interfaceMethod xi.cls xi.cls xi.name xi.desc).keepsFace) = true) (w4 : (Cond.selects C xi y).before a0 Z = true) (w5 : (Cond.instanceMethod y).before a0 Z = true) (w6 : (Cond.publicMethod y).before a0 Z = true) (w7 : (Cond.unhidden C xi.name xi.desc).before a0 Z = true) (w8 : (Cond.castable C xi.cls).before a0 Z = true) (hy : xi.cls ≠ "java/lang/invoke/MethodHandle" ∧ xi.cls ≠ "java/lang/invoke/VarHandle") (hK : BackS l R p e below (s.setVm vm0) args y 5 W (fun A a => a = as' ∧ A.U.heap = h ∧ A.cells + rc ≤ R.cells ∧ A.slots + rs ≤ R.slots) (fun A _ v B => ∃ L, Q v B.U.heap L ∧ B.locs = A.locs ++ L ∧ B.cells = A.cells + rc ∧ B.slots = A.slots + rs ∧ CHr Z EL vm0 h B.U.vm B.U.heap)) (hlen : ∀ sig, parseMethodDescriptor xi.desc = some sig → argsL.length = sig.parameters.length) (hst : st = argsL.reverse ++ .ref x :: st0) (has : (.ref x :: argsL).toArray = as') (hW : (st0.map fun v => v.category).sum ≤ W) (hsize : ls.size = c.maxLocals) (hc : cells + rc ≤ R.cells) (hs : slots + rs ≤ R.slots) (hF : ∀ v h' L, Q v h' L → Frw wl hS.size L) (hd : decode code pc = .ok (.invokeinterface index count, 5)) (hp : pc + 5 = pc1)
    (K : ∀ (v : Option Value) (T' : State) (h' : Heap) (L : List Loc), Q v h' L → Pos p l e R s m args below meth c code Z EL wl hS own T'.vm T' (locs ++ L) (cells + rc) (slots + rs) h' → CHr Z EL vm0 h T'.vm h' → Go p.tables e below G (T'.setTop (mkF m pc1 ls (v.toList ++ st0)))) : Go p.tables e below G (T.setTop (mkF m pc ls st)) := by
  subst hp
  obtain ⟨cq, kq, qa, qb, qc⟩ := isOf P.hz P.heap E
  obtain ⟨v, vm₁, ⟨U, Lx, cx, sx⟩, -, X', hS', hgr, ⟨L, hQ, l1, l2, l3, hC⟩, stp⟩ := Stand.interfaceBackS P.1 P.q.2.1 P.2.2.2.2.1 (mvT P.hz w1) (mvT P.hz w2) (mvT P.hz w3 h3) (mvT P.hz w4) (mvT P.hz w5) (mvT P.hz w6) (mvT P.hz w7) (mvT P.hz w8) hy hK qa qb qc (g := mkF m pc ls st) rfl hsize (Steps.refl _) (argsL := argsL) (rest := st0) hlen hst (by show 2 * 0 + _ ≤ _; omega) (hb P.q.2.2 hd) (fun _ _ => ⟨has, P.heap, hc, hs⟩)
  dsimp only [Pt.U, Pt.locs, Pt.cells, Pt.slots] at *
  subst l1 l2 l3
  rw [P.heap] at hgr
  exact Go.tr stp (K v U _ L hQ (P.cameW X' hS' hgr (hF _ _ _ hQ) hC) hC)
/-- what a body leaves, narrow: nothing interned -/
def GN (s : State) (Q : Option Value → Heap → List Loc → Prop) (rm : Room) (o : Outcome) (U : State) : Prop := ∃ v L, o = .returned v ∧ Q v U.heap L ∧ FrameEnd s o U L rm.cells rm.slots
/-- wide -/
def GW (s : State) (Z : State) (EL : List (String × Nat)) (h0 : Heap) (Q : Option Value → Heap → List Loc → Prop) (rm : Room) (o : Outcome) (U : State) : Prop := ∃ v L, o = .returned v ∧ Q v U.heap L ∧ CHr Z EL s.vm h0 U.vm U.heap ∧ ReturnedEndW s o U L rm.cells rm.slots
theorem Pos.endN {Q : Option Value → Heap → List Loc → Prop} {v : Option Value} (P : Pos p l e R s m args below meth c code Z EL wl hS own s.vm T locs cells slots h) (hlk : meth.locks = false) (hv : meth.sig.returnType = none → v = none) (hc : cells ≤ R.cells) (hs : slots ≤ R.slots) (hQ : Q v h locs) {g : JFrame}
    (stp : ∀ fs, (∀ (f : JFrame) (acts : List Action), f.method = m → f.locked = none → f.entered = [] → (doReturn e (T.setTop f) acts v).1 = T.setFrames fs) → Steps p.tables e below (T.setTop g) (T.setFrames fs)) : Go p.tables e below (GN s Q R) (T.setTop g) := by
  obtain ⟨fs, hr, hrun, hended, hW, hsame⟩ := P.1.leave (v := v) hv hlk
  refine ⟨_, _, stp fs hr, hrun, hended, v, locs, rfl, ?_, ⟨_, rfl⟩, hW, hsame.mono hc hs⟩
  have : (T.setFrames fs).heap = h := P.heap
  rw [this]; exact hQ
theorem Pos.endW {Q : Option Value → Heap → List Loc → Prop} {v : Option Value} (P : Pos p l e R s m args below meth c code Z EL wl hS own vm0 T locs cells slots h) (hEL : EW Z a0 EL) (hlk : meth.locks = false) (hv : meth.sig.returnType = none → v = none) (hc : cells ≤ R.cells) (hs : slots ≤ R.slots) (hQ : Q v h locs) {g : JFrame}
    (stp : ∀ fs, (∀ (f : JFrame) (acts : List Action), f.method = m → f.locked = none → f.entered = [] → (doReturn e (T.setTop f) acts v).1 = T.setFrames fs) → Steps p.tables e below (T.setTop g) (T.setFrames fs)) : Go p.tables e below (GW s Z EL hS Q R) (T.setTop g) := by
  obtain ⟨X, eT, ⟨k0, q1, q2⟩, hZ, hown, N, n1, C, hx, hby⟩ := P
  have X2 := X.mono hc hs
  obtain ⟨fs, hr, hrun, hended, hEnd⟩ := X2.leaveW q1 (by rw [eT]; exact q2) (v := v) hv hlk
  have hh : (T.setFrames fs).heap = h := eT
  refine ⟨_, _, stp fs hr, hrun, hended, v, locs, rfl, by rw [hh]; exact hQ, ?_, hEnd⟩
  rw [hh]; show CHr Z EL s.vm hS T.vm h; exact C.trans (CHv.at X hZ hEL C.1)
theorem Pos.retN {Q : Option Value → Heap → List Loc → Prop} (P : Pos p l e R s m args below meth c code Z EL wl hS own s.vm T locs cells slots h) (hlk : meth.locks = false) (hret : meth.sig.returnType = none) (hd : decode code pc = .ok (.return_, 1)) (hc : cells ≤ R.cells) (hs : slots ≤ R.slots) (hQ : Q none h locs) : Go p.tables e below (GN s Q R) (T.setTop (mkF m pc ls [])) :=
  P.endN hlk (fun _ => rfl) hc hs hQ fun fs hr => P.1.returnOut P.q.2.1 hret (hb P.q.2.2 hd) hr
theorem Pos.retIN {Q : Option Value → Heap → List Loc → Prop} (P : Pos p l e R s m args below meth c code Z EL wl hS own s.vm T locs cells slots h) (hlk : meth.locks = false) (hret : meth.sig.returnType = some .int) {z : Int32} (hd : decode code pc = .ok (.ireturn, 1)) (hc : cells ≤ R.cells) (hs : slots ≤ R.slots) (hQ : Q (some (.int z)) h locs) : Go p.tables e below (GN s Q R) (T.setTop (mkF m pc ls (.int z :: st))) :=
  P.endN hlk (fun q => by rw [hret] at q; cases q) hc hs hQ fun fs hr => retOut P.1 P.q.2.1 hret rfl (Or.inl ⟨rfl, Or.inl rfl, z, rfl⟩) (hb P.q.2.2 hd) hr
theorem Pos.retVN {Q : Option Value → Heap → List Loc → Prop} (P : Pos p l e R s m args below meth c code Z EL wl hS own s.vm T locs cells slots h) (hlk : meth.locks = false) {t : FieldType} (hret : meth.sig.returnType = some t) (ht : t = .boolean ∨ t = .byte ∨ t = .char ∨ t = .short) {z : Int32} (hd : decode code pc = .ok (.ireturn, 1)) (hc : cells ≤ R.cells) (hs : slots ≤ R.slots) (hQ : Q (some (.int (nar t z))) h locs) : Go p.tables e below (GN s Q R) (T.setTop (mkF m pc ls (.int z :: st))) :=
  P.endN hlk (fun q => by rw [hret] at q; cases q) hc hs hQ fun fs hr => RoadKit.retN P.1 P.q.2.1 hret ht (hb P.q.2.2 hd) hr
theorem Pos.retAN {Q : Option Value → Heap → List Loc → Prop} (P : Pos p l e R s m args below meth c code Z EL wl hS own s.vm T locs cells slots h) (hlk : meth.locks = false) {t : FieldType} (hret : meth.sig.returnType = some t) (ht : t.isReference = true) {v : Value} (hv : v.isRef = true) (hn : narrow t v = v) (hd : decode code pc = .ok (.areturn, 1)) (hc : cells ≤ R.cells) (hs : slots ≤ R.slots) (hQ : Q (some v) h locs) : Go p.tables e below (GN s Q R) (T.setTop (mkF m pc ls (v :: st))) :=
  P.endN hlk (fun q => by rw [hret] at q; cases q) hc hs hQ fun fs hr => retOut P.1 P.q.2.1 hret hn (Or.inr (Or.inr (Or.inr (Or.inr ⟨rfl, ht, hv⟩)))) (hb P.q.2.2 hd) hr
theorem Pos.retDN {Q : Option Value → Heap → List Loc → Prop} (P : Pos p l e R s m args below meth c code Z EL wl hS own s.vm T locs cells slots h) (hlk : meth.locks = false) (hret : meth.sig.returnType = some .double) {z : UInt64} (hd : decode code pc = .ok (.dreturn, 1)) (hc : cells ≤ R.cells) (hs : slots ≤ R.slots) (hQ : Q (some (.double z)) h locs) : Go p.tables e below (GN s Q R) (T.setTop (mkF m pc ls (.double z :: st))) :=
  P.endN hlk (fun q => by rw [hret] at q; cases q) hc hs hQ fun fs hr => retOut P.1 P.q.2.1 hret rfl (Or.inr (Or.inr (Or.inl ⟨rfl, rfl, z, rfl⟩))) (hb P.q.2.2 hd) hr
theorem Pos.retLN {Q : Option Value → Heap → List Loc → Prop} (P : Pos p l e R s m args below meth c code Z EL wl hS own s.vm T locs cells slots h) (hlk : meth.locks = false) (hret : meth.sig.returnType = some .long) {z : Int64} (hd : decode code pc = .ok (.lreturn, 1)) (hc : cells ≤ R.cells) (hs : slots ≤ R.slots) (hQ : Q (some (.long z)) h locs) : Go p.tables e below (GN s Q R) (T.setTop (mkF m pc ls (.long z :: st))) :=
  P.endN hlk (fun q => by rw [hret] at q; cases q) hc hs hQ fun fs hr => retOut P.1 P.q.2.1 hret rfl (Or.inr (Or.inl ⟨rfl, rfl, z, rfl⟩)) (hb P.q.2.2 hd) hr
theorem Pos.retFN {Q : Option Value → Heap → List Loc → Prop} (P : Pos p l e R s m args below meth c code Z EL wl hS own s.vm T locs cells slots h) (hlk : meth.locks = false) (hret : meth.sig.returnType = some .float) {z : UInt32} (hd : decode code pc = .ok (.freturn, 1)) (hc : cells ≤ R.cells) (hs : slots ≤ R.slots) (hQ : Q (some (.float z)) h locs) : Go p.tables e below (GN s Q R) (T.setTop (mkF m pc ls (.float z :: st))) :=
  P.endN hlk (fun q => by rw [hret] at q; cases q) hc hs hQ fun fs hr => retOut P.1 P.q.2.1 hret rfl (Or.inr (Or.inr (Or.inr (Or.inl ⟨rfl, rfl, z, rfl⟩)))) (hb P.q.2.2 hd) hr
theorem Pos.retW {Q : Option Value → Heap → List Loc → Prop} (P : Pos p l e R s m args below meth c code Z EL wl hS own vm0 T locs cells slots h) (hEL : EW Z a0 EL) (hlk : meth.locks = false) (hret : meth.sig.returnType = none) (hd : decode code pc = .ok (.return_, 1)) (hc : cells ≤ R.cells) (hs : slots ≤ R.slots) (hQ : Q none h locs) : Go p.tables e below (GW s Z EL hS Q R) (T.setTop (mkF m pc ls [])) :=
  P.endW hEL hlk (fun _ => rfl) hc hs hQ fun fs hr => P.1.returnOut P.q.2.1 hret (hb P.q.2.2 hd) hr
theorem Pos.retIW {Q : Option Value → Heap → List Loc → Prop} (P : Pos p l e R s m args below meth c code Z EL wl hS own vm0 T locs cells slots h) (hEL : EW Z a0 EL) (hlk : meth.locks = false) (hret : meth.sig.returnType = some .int) {z : Int32} (hd : decode code pc = .ok (.ireturn, 1)) (hc : cells ≤ R.cells) (hs : slots ≤ R.slots) (hQ : Q (some (.int z)) h locs) : Go p.tables e below (GW s Z EL hS Q R) (T.setTop (mkF m pc ls (.int z :: st))) :=
  P.endW hEL hlk (fun q => by rw [hret] at q; cases q) hc hs hQ fun fs hr => retOut P.1 P.q.2.1 hret rfl (Or.inl ⟨rfl, Or.inl rfl, z, rfl⟩) (hb P.q.2.2 hd) hr
theorem Pos.retVW {Q : Option Value → Heap → List Loc → Prop} (P : Pos p l e R s m args below meth c code Z EL wl hS own vm0 T locs cells slots h) (hEL : EW Z a0 EL) (hlk : meth.locks = false) {t : FieldType} (hret : meth.sig.returnType = some t) (ht : t = .boolean ∨ t = .byte ∨ t = .char ∨ t = .short) {z : Int32} (hd : decode code pc = .ok (.ireturn, 1)) (hc : cells ≤ R.cells) (hs : slots ≤ R.slots) (hQ : Q (some (.int (nar t z))) h locs) : Go p.tables e below (GW s Z EL hS Q R) (T.setTop (mkF m pc ls (.int z :: st))) :=
  P.endW hEL hlk (fun q => by rw [hret] at q; cases q) hc hs hQ fun fs hr => RoadKit.retN P.1 P.q.2.1 hret ht (hb P.q.2.2 hd) hr
theorem Pos.retAW {Q : Option Value → Heap → List Loc → Prop} (P : Pos p l e R s m args below meth c code Z EL wl hS own vm0 T locs cells slots h) (hEL : EW Z a0 EL) (hlk : meth.locks = false) {t : FieldType} (hret : meth.sig.returnType = some t) (ht : t.isReference = true) {v : Value} (hv : v.isRef = true) (hn : narrow t v = v) (hd : decode code pc = .ok (.areturn, 1)) (hc : cells ≤ R.cells) (hs : slots ≤ R.slots) (hQ : Q (some v) h locs) : Go p.tables e below (GW s Z EL hS Q R) (T.setTop (mkF m pc ls (v :: st))) :=
  P.endW hEL hlk (fun q => by rw [hret] at q; cases q) hc hs hQ fun fs hr => retOut P.1 P.q.2.1 hret hn (Or.inr (Or.inr (Or.inr (Or.inr ⟨rfl, ht, hv⟩)))) (hb P.q.2.2 hd) hr
theorem Pos.retDW {Q : Option Value → Heap → List Loc → Prop} (P : Pos p l e R s m args below meth c code Z EL wl hS own vm0 T locs cells slots h) (hEL : EW Z a0 EL) (hlk : meth.locks = false) (hret : meth.sig.returnType = some .double) {z : UInt64} (hd : decode code pc = .ok (.dreturn, 1)) (hc : cells ≤ R.cells) (hs : slots ≤ R.slots) (hQ : Q (some (.double z)) h locs) : Go p.tables e below (GW s Z EL hS Q R) (T.setTop (mkF m pc ls (.double z :: st))) :=
  P.endW hEL hlk (fun q => by rw [hret] at q; cases q) hc hs hQ fun fs hr => retOut P.1 P.q.2.1 hret rfl (Or.inr (Or.inr (Or.inl ⟨rfl, rfl, z, rfl⟩))) (hb P.q.2.2 hd) hr
theorem Pos.retLW {Q : Option Value → Heap → List Loc → Prop} (P : Pos p l e R s m args below meth c code Z EL wl hS own vm0 T locs cells slots h) (hEL : EW Z a0 EL) (hlk : meth.locks = false) (hret : meth.sig.returnType = some .long) {z : Int64} (hd : decode code pc = .ok (.lreturn, 1)) (hc : cells ≤ R.cells) (hs : slots ≤ R.slots) (hQ : Q (some (.long z)) h locs) : Go p.tables e below (GW s Z EL hS Q R) (T.setTop (mkF m pc ls (.long z :: st))) :=
  P.endW hEL hlk (fun q => by rw [hret] at q; cases q) hc hs hQ fun fs hr => retOut P.1 P.q.2.1 hret rfl (Or.inr (Or.inl ⟨rfl, rfl, z, rfl⟩)) (hb P.q.2.2 hd) hr
theorem Pos.retFW {Q : Option Value → Heap → List Loc → Prop} (P : Pos p l e R s m args below meth c code Z EL wl hS own vm0 T locs cells slots h) (hEL : EW Z a0 EL) (hlk : meth.locks = false) (hret : meth.sig.returnType = some .float) {z : UInt32} (hd : decode code pc = .ok (.freturn, 1)) (hc : cells ≤ R.cells) (hs : slots ≤ R.slots) (hQ : Q (some (.float z)) h locs) : Go p.tables e below (GW s Z EL hS Q R) (T.setTop (mkF m pc ls (.float z :: st))) :=
  P.endW hEL hlk (fun q => by rw [hret] at q; cases q) hc hs hQ fun fs hr => retOut P.1 P.q.2.1 hret rfl (Or.inr (Or.inr (Or.inr (Or.inl ⟨rfl, rfl, z, rfl⟩)))) (hb P.q.2.2 hd) hr
end Heapy
section Met
/-- what a stack trace asks of the tables and of the frames beneath -/
abbrev KK : Program → Env → List Frame → State → Array Value → Prop := fun _ _ bl s _ => s.vm.MethodsKnown ∧ s.vm.FramesKnown bl
variable {l : Launch} {Z : State} {EL : List (String × Nat)} {y : MethodName} {bytes : ByteArray} {maxL : Nat} {ret : Option FieldType} {ws : List Jvm.Cond} {rm : Room} {as' : Array Value} {h0 : Heap} {Q : Option Value → Heap → List Loc → Prop} {a0 : Array Value}
/-- a body's contract, narrow (nothing interned) -/
def MetN (l : Launch) (Z : State) (y : MethodName) (bytes : ByteArray) (maxL : Nat) (ret : Option FieldType) (ws : List Jvm.Cond) (rm : Room) (as' : Array Value) (h0 : Heap) (Q : Option Value → Heap → List Loc → Prop) : Prop :=
  MetFree l y (head1 (Jvm.Cond.code y bytes maxL ret :: ws) rm) (fun a U => a = as' ∧ Z.Warmed39 U.vm ∧ U.heap = h0) (fun _ _ _ _ _ => True) (fun _ U o U' => GN U Q rm o U')
/-- .. wide; the places of ss are no booked String's -/
def MetW (l : Launch) (Z : State) (EL : List (String × Nat)) (y : MethodName) (bytes : ByteArray) (maxL : Nat) (ret : Option FieldType) (ws : List Jvm.Cond) (rm : Room) (as' : Array Value) (ss : List Addr) (h0 : Heap) (Q : Option Value → Heap → List Loc → Prop) : Prop :=
  MetFree l y (head1 (Jvm.Cond.code y bytes maxL ret :: ws) rm) (fun a U => a = as' ∧ Z.Warmed39 U.vm ∧ U.heap = h0 ∧ CHv Z EL U.vm h0 ∧ ∀ x ∈ ss, Safe Z EL U.vm h0 x) (fun _ _ _ _ _ => True) (fun _ U o U' => GW U Z EL h0 Q rm o U')
theorem MetN.mk {ls0 : Array Slot} (wl : List Addr) (hp : plainFor y = true) (hent : ∀ m, entryFrame m as' maxL = mkF m 0 ls0 [])
    (body : ∀ p e s m below meth c s₁, c.maxLocals = maxL → meth.sig.returnType = ret → meth.name = y.name → meth.locks = false → Pos p l e rm s m as' below meth c bytes Z [] wl h0 y.cls s.vm s₁ [] 0 0 h0 → Go p.tables e below (GN s Q rm) (s₁.setTop (mkF m 0 ls0 []))) : MetN l Z y bytes maxL ret ws rm as' h0 Q := by
  refine MetFree.of_bodySF hp hisR ?_
  intro p e s m args below meth c s₁ Bd hml hP hK
  obtain ⟨rfl, hZ, hh⟩ := hP
  have hown : s.vm.findClass y.cls = some m.cls := findClass_of_methodNamed Bd.named
  have hnm := (name_of_methodNamed Bd.named Bd.method).1
  have e0 : s₁.heap = h0 := by rw [← hh, Bd.state]; rfl
  have X0 : Stand p l e rm s m args below meth c s₁ [] 0 0 := Stand.of_body Bd
  have hC : CHv Z [] s.vm h0 := fun _ q => nomatch q
  rw [hent]
  exact body p e s m below meth c s₁ hml Bd.returns hnm Bd.notSynchronized ⟨X0, e0, ⟨0, (State.WarmedH.refl s).since _, Nat.zero_le _⟩, hZ, hown, Frw.nil, hh, CHr.refl hC, Bd.exec, Bd.bytes⟩
theorem MetW.mk {ls0 : Array Slot} {ss : List Addr} (wl : List Addr) (hp : plainFor y = true) (hent : ∀ m, entryFrame m as' maxL = mkF m 0 ls0 [])
    (body : ∀ p e s m below meth c s₁, c.maxLocals = maxL → meth.sig.returnType = ret → meth.name = y.name → meth.locks = false → (∀ x ∈ ss, Safe Z EL s.vm h0 x) → Pos p l e rm s m as' below meth c bytes Z EL wl h0 y.cls s.vm s₁ [] 0 0 h0 → Go p.tables e below (GW s Z EL h0 Q rm) (s₁.setTop (mkF m 0 ls0 []))) : MetW l Z EL y bytes maxL ret ws rm as' ss h0 Q := by
  refine MetFree.of_bodySF hp hisR ?_
  intro p e s m args below meth c s₁ Bd hml hP hK
  obtain ⟨rfl, hZ, hh, hC, hss⟩ := hP
  have hown : s.vm.findClass y.cls = some m.cls := findClass_of_methodNamed Bd.named
  have hnm := (name_of_methodNamed Bd.named Bd.method).1
  have e0 : s₁.heap = h0 := by rw [← hh, Bd.state]; rfl
  have X0 : Stand p l e rm s m args below meth c s₁ [] 0 0 := Stand.of_body Bd
  rw [hent]
  exact body p e s m below meth c s₁ hml Bd.returns hnm Bd.notSynchronized hss ⟨X0, e0, ⟨0, (State.WarmedH.refl s).since _, Nat.zero_le _⟩, hZ, hown, Frw.nil, hh, CHr.refl hC, Bd.exec, Bd.bytes⟩
def MetNK (l : Launch) (Z : State) (y : MethodName) (bytes : ByteArray) (maxL : Nat) (ret : Option FieldType) (ws : List Jvm.Cond) (rm : Room) (as' : Array Value) (h0 : Heap) (Q : Option Value → Heap → List Loc → Prop) : Prop :=
  MetFree l y (head1 (Jvm.Cond.code y bytes maxL ret :: ws) rm) (fun a U => a = as' ∧ Z.Warmed39 U.vm ∧ U.heap = h0) KK (fun _ U o U' => GN U Q rm o U')
def MetWK (l : Launch) (Z : State) (EL : List (String × Nat)) (y : MethodName) (bytes : ByteArray) (maxL : Nat) (ret : Option FieldType) (ws : List Jvm.Cond) (rm : Room) (as' : Array Value) (ss : List Addr) (h0 : Heap) (Q : Option Value → Heap → List Loc → Prop) : Prop :=
  MetFree l y (head1 (Jvm.Cond.code y bytes maxL ret :: ws) rm) (fun a U => a = as' ∧ Z.Warmed39 U.vm ∧ U.heap = h0 ∧ CHv Z EL U.vm h0 ∧ ∀ x ∈ ss, Safe Z EL U.vm h0 x) KK (fun _ U o U' => GW U Z EL h0 Q rm o U')
theorem MetNK.mk {ls0 : Array Slot} (wl : List Addr) (hp : plainFor y = true) (hent : ∀ m, entryFrame m as' maxL = mkF m 0 ls0 [])
    (body : ∀ p e s m below meth c s₁, c.maxLocals = maxL → meth.sig.returnType = ret → meth.name = y.name → meth.locks = false → s.vm.MethodsKnown → s.vm.FramesKnown below → Pos p l e rm s m as' below meth c bytes Z [] wl h0 y.cls s.vm s₁ [] 0 0 h0 → Go p.tables e below (GN s Q rm) (s₁.setTop (mkF m 0 ls0 []))) : MetNK l Z y bytes maxL ret ws rm as' h0 Q := by
  refine MetFree.of_bodySF hp hisR ?_
  intro p e s m args below meth c s₁ Bd hml hP hK
  obtain ⟨rfl, hZ, hh⟩ := hP
  have hown : s.vm.findClass y.cls = some m.cls := findClass_of_methodNamed Bd.named
  have hnm := (name_of_methodNamed Bd.named Bd.method).1
  have e0 : s₁.heap = h0 := by rw [← hh, Bd.state]; rfl
  have X0 : Stand p l e rm s m args below meth c s₁ [] 0 0 := Stand.of_body Bd
  have hC : CHv Z [] s.vm h0 := fun _ q => nomatch q
  rw [hent]
  exact body p e s m below meth c s₁ hml Bd.returns hnm Bd.notSynchronized hK.1 hK.2 ⟨X0, e0, ⟨0, (State.WarmedH.refl s).since _, Nat.zero_le _⟩, hZ, hown, Frw.nil, hh, CHr.refl hC, Bd.exec, Bd.bytes⟩
theorem MetWK.mk {ls0 : Array Slot} {ss : List Addr} (wl : List Addr) (hp : plainFor y = true) (hent : ∀ m, entryFrame m as' maxL = mkF m 0 ls0 [])
    (body : ∀ p e s m below meth c s₁, c.maxLocals = maxL → meth.sig.returnType = ret → meth.name = y.name → meth.locks = false → s.vm.MethodsKnown → s.vm.FramesKnown below → (∀ x ∈ ss, Safe Z EL s.vm h0 x) → Pos p l e rm s m as' below meth c bytes Z EL wl h0 y.cls s.vm s₁ [] 0 0 h0 → Go p.tables e below (GW s Z EL h0 Q rm) (s₁.setTop (mkF m 0 ls0 []))) : MetWK l Z EL y bytes maxL ret ws rm as' ss h0 Q := by
  refine MetFree.of_bodySF hp hisR ?_
  intro p e s m args below meth c s₁ Bd hml hP hK
  obtain ⟨rfl, hZ, hh, hC, hss⟩ := hP
  have hown : s.vm.findClass y.cls = some m.cls := findClass_of_methodNamed Bd.named
  have hnm := (name_of_methodNamed Bd.named Bd.method).1
  have e0 : s₁.heap = h0 := by rw [← hh, Bd.state]; rfl
  have X0 : Stand p l e rm s m args below meth c s₁ [] 0 0 := Stand.of_body Bd
  rw [hent]
  exact body p e s m below meth c s₁ hml Bd.returns hnm Bd.notSynchronized hK.1 hK.2 hss ⟨X0, e0, ⟨0, (State.WarmedH.refl s).since _, Nat.zero_le _⟩, hZ, hown, Frw.nil, hh, CHr.refl hC, Bd.exec, Bd.bytes⟩
variable {p : Program} {e : Env} {R : Room} {s : State} {args : Array Value} {below : List Frame} {vm0 : Vm} {len W : Nat} {m : MethodId} {meth : Method} {c : Code} {code : ByteArray} {wl : List Addr} {hS h : Heap} {own : String} {T : State} {locs : List Loc} {cells slots : Nat}
/-- a narrow contract pays a call -/
theorem MetN.pay (hM : MetN l Z y bytes maxL ret [] rm as' h Q) (P : Pos p l e R s m args below meth c code Z EL wl hS own vm0 T locs cells slots h) (wc : (Jvm.Cond.code y bytes maxL ret).before a0 Z = true) (wz : (Jvm.Cond.initialized y.cls).before a0 Z = true) (hf : rm.frames + 1 ≤ R.frames) (hl : W + (maxL + 11) + rm.locals ≤ R.locals) :
    Back l R p e below (s.setVm vm0) args y len W (fun A a => a = as' ∧ A.U.heap = h ∧ A.cells + rm.cells ≤ R.cells ∧ A.slots + rm.slots ≤ R.slots) (fun A _ v B => ∃ L, Q v B.U.heap L ∧ B.locs = A.locs ++ L ∧ B.cells = A.cells + rm.cells ∧ B.slots = A.slots + rm.slots) :=
  backOf hM P.hz wc wz hf hl
theorem MetNK.pay (hM : MetNK l Z y bytes maxL ret [] rm as' h Q) (P : Pos p l e R s m args below meth c code Z EL wl hS own vm0 T locs cells slots h) (hTK : s.vm.MethodsKnown) (hB : s.vm.FramesKnown below) (wc : (Jvm.Cond.code y bytes maxL ret).before a0 Z = true) (wz : (Jvm.Cond.initialized y.cls).before a0 Z = true) (hf : rm.frames + 1 ≤ R.frames) (hl : W + (maxL + 11) + rm.locals ≤ R.locals) :
    Back l R p e below (s.setVm vm0) args y len W (fun A a => a = as' ∧ A.U.heap = h ∧ A.cells + rm.cells ≤ R.cells ∧ A.slots + rm.slots ≤ R.slots) (fun A _ v B => ∃ L, Q v B.U.heap L ∧ B.locs = A.locs ++ L ∧ B.cells = A.cells + rm.cells ∧ B.slots = A.slots + rm.slots) :=
  backOfKL hM P.hz wc wz hf hl (Vm.MethodsKnown.alikeC P.alS hTK) (Vm.FramesKnown.alikeC P.alS hB)
/-- a wide one -/
theorem MetW.pay {ss : List Addr} (hM : MetW l Z EL y bytes maxL ret [] rm as' ss h Q) (P : Pos p l e R s m args below meth c code Z EL wl hS own vm0 T locs cells slots h) (hEL : EW Z a0 EL) (hss : ∀ x ∈ ss, x < h.size ∧ Safe Z EL vm0 h x) (wc : (Jvm.Cond.code y bytes maxL ret).before a0 Z = true) (wz : (Jvm.Cond.initialized y.cls).before a0 Z = true) (hf : rm.frames + 1 ≤ R.frames) (hl : W + (maxL + 11) + rm.locals ≤ R.locals) :
    BackS l R p e below (s.setVm vm0) args y len W (fun A a => a = as' ∧ A.U.heap = h ∧ A.cells + rm.cells ≤ R.cells ∧ A.slots + rm.slots ≤ R.slots) (fun A _ v B => ∃ L, Q v B.U.heap L ∧ B.locs = A.locs ++ L ∧ B.cells = A.cells + rm.cells ∧ B.slots = A.slots + rm.slots ∧ CHr Z EL vm0 h B.U.vm B.U.heap) :=
  BackS.of_freeW (bytes := bytes) (maxL := maxL) (ret := ret) (E := fun _ first o t L k n => k = rm.cells ∧ n = rm.slots ∧ (∃ v, o = .returned v ∧ Q v t.heap L) ∧ CHr Z EL first.vm h t.vm t.heap) hM hf hl
    (fun m meth c A a Y hp => have hU : Z.Warmed39 A.U.vm := wtrans (s := s.setVm vm0) P.hz Y.warmed
      ⟨by show (Jvm.Cond.and _ .tt).before a A.U = true; rw [Jvm.Cond.before_and, mv hU wc]; rfl, mv hU wc, mv hU wz, hp.2.2.1, hp.2.2.2⟩)
    (fun m meth c A a g mk Y hp => ⟨hp.1, wtrans (s := s.setVm vm0) P.hz Y.warmed, hp.2.1, (CHv.at Y P.hz hEL P.chv).1, fun x hx => (CHv.at Y P.hz hEL P.chv).safe (hss x hx).1 (hss x hx).2⟩) (fun _ _ _ _ _ _ _ _ _ => trivial)
    (fun _ _ _ _ ⟨v, L, h1, h2, h3, h4⟩ => ⟨L, _, _, h4, rfl, rfl, ⟨v, h1, h2⟩, h3⟩)
    (fun m meth c A a g mk v t L k n Y hp _ _ ⟨e1, e2, ⟨v', e3, e4⟩, e5⟩ => by
      cases e3; subst e1 e2
      exact ⟨L, e4, rfl, rfl, rfl, (CHv.at Y P.hz hEL P.chv).trans e5⟩)
end Met
/-- what a body that touches nothing says -/
def Pure (v : Option Value) (h0 : Heap) (u : Option Value) (h : Heap) (L : List Loc) : Prop := u = v ∧ L = [] ∧ h0 = h
theorem Pure.ok {v : Option Value} {h0 : Heap} {Z : State} {EL : List (String × Nat)} {vm0 : Vm} {wl : List Addr} {n : Nat} (H : CHv Z EL vm0 h0) : ∀ u h L, Pure v h0 u h L → Frw wl n L ∧ CHr Z EL vm0 h0 vm0 h := fun u h L q => by
  obtain ⟨-, rfl, rfl⟩ := q; exact ⟨Frw.nil, CHr.refl H⟩
theorem ns_root {Z : State} {a0 : Array Value} {O K : String} {n : Nat} (w : (Jvm.Cond.noSuperclass O).before a0 Z = true) (wk : (Jvm.Cond.instantiable K n).before a0 Z = true) (hn : O ≠ K) : NS Z O K := by
  obtain ⟨c, k, h1, h2, h3, -, -⟩ := Cond.noSuperclass_spec w
  obtain ⟨t, kt, g1, -⟩ := Cond.instantiable_spec wk
  have ne := ids_ne h1 g1 hn
  refine ⟨c, t, h1, g1, fun fuel => ?_⟩
  cases fuel with
  | zero => rfl
  | succ f => simp [Vm.isSubclassAux, ne, h2, h3]
theorem ns_no {Z : State} {a0 : Array Value} {C S K : String} {n : Nat} (w : (Jvm.Cond.superclass C S).before a0 Z = true) (wk : (Jvm.Cond.instantiable K n).before a0 Z = true) (N : NS Z C K) (hn : C ≠ K) : ∃ c t, Z.vm.findClass C = some c ∧ Z.vm.findClass K = some t ∧ Z.vm.assignable c t = false := by
  obtain ⟨c, t, h0, g0, n3⟩ := N
  obtain ⟨p, k, kp, h1, h2, h3, h4, h5, -, h7⟩ := Cond.superclass_spec h0 w
  obtain ⟨t', k', g1, g2, g5, g6, -⟩ := Cond.instantiable_spec wk
  cases g0.symm.trans g1
  have g7 : k'.isInterface = false := by cases q : k'.isInterface <;> simp [q] at g6 ⊢
  have ne := ids_ne h0 g0 hn
  refine ⟨c, t, h0, g0, ?_⟩
  show Z.vm.assignableAux (255 + 1) c t = false
  simp [Vm.assignableAux, ne, h2, g2, h5, g5, g7, Vm.isSubclass, n3]
theorem Ext.keepNew {h0 h h' : Heap} {wl : List Addr} (E : Ext h0 h) (K : Keep h h' wl) (q : ∀ x ∈ wl, h0.size ≤ x) : Ext h0 h' := ⟨Nat.le_trans E.1 K.1, fun a c r => K.2.1 a c (E.2 a c r) fun z => absurd (Array.getElem?_eq_some_iff.mp r).1 (Nat.not_lt.mpr (q a z))⟩
theorem Ext.trans {h0 h h' : Heap} (E : Ext h0 h) (E' : Ext h h') : Ext h0 h' := ⟨Nat.le_trans E.1 E'.1, fun a c r => E'.2 a c (E.2 a c r)⟩
theorem Ext.refl (h : Heap) : Ext h h := ⟨Nat.le_refl _, fun _ _ r => r⟩
theorem Ext.wrNew {h0 h h' : Heap} {a : Addr} {sl : Nat} {v : Value} (E : Ext h0 h) (Wq : Wr h h' a sl v) (q : h0.size ≤ a) : Ext h0 h' := Ext.keepNew E (Keep.of_wr Wq) (allS q all0)
theorem Ext.toKeep {h h' : Heap} (E : Ext h h') (wl : List Addr) : Keep h h' wl := (Keep.refl h wl).ext E
end W
end Jvm.Pilot.@@N@@
/- laws to paste: Road.backV, Road.codOf, Road.eqW, pair_says, shr0, shr1, chr8_lo8, lo8_mask, narrow_ch, fits_lo8 (cut by pick.py; bodies as the Statement names them) -/
namespace Jvm.Pilot.@@N@@
namespace StrChars
open Jvm Sem ClassFile Op Lib Jvm.Stand Jvm.Free.XT Jvm.Free.ALB Jvm.Free.JM Jvm.Free
open Jvm.Lib.Cold (StaticIs)
/-- a char array whose places are chars -/
def Ch (a : Addr) (A : Cell) (U : State) : Prop := Arr .char a A U ∧ Typed .char A
theorem Ch.mv {a : Addr} {A : Cell} {U U' : State} (h : Ch a A U) (hal : U.vm.Alike U'.vm) (hh : U'.heap = U.heap) : Ch a A U' := ⟨h.1.mv hal hh, h.2⟩
theorem Ch.keep {a : Addr} {A : Cell} {U U' : State} (h : Ch a A U) (hal : U.vm.Alike U'.vm) (hk : U'.heap[a]? = some A) : Ch a A U' := ⟨h.1.keep hal hk, h.2⟩
/-- what place i of a char[]'s cell holds -/
def cv (A : Cell) (i : Nat) : Int32 := match A.slots[i]? with | some (.int x) => x | _ => 0
theorem Ch.get {a : Addr} {A : Cell} {U : State} (h : Ch a A U) {i : Nat} (hi : i < A.slots.size) : A.slots[i]? = some (.int (cv A i)) := by
  have e := Array.getElem?_eq_getElem hi
  have f := h.2 i _ e
  unfold cv; rw [e]
  generalize A.slots[i] = v at f
  cases v <;> simp [fits] at f ⊢
/-- the byte that i2b leaves of a char -/
def lo8 (x : Int32) : Int32 := x.toInt8.toInt32
theorem fits_lo8 (y : Int32) : fits .byte (.int (lo8 y)) = true := by
  have h1 := y.toInt8.le_toInt
  have h2 := y.toInt8.toInt_lt
  simp only [lo8, fits, Bool.and_eq_true, decide_eq_true_eq, Int32.le_iff_toInt_le, Int8.toInt_toInt32, show (-128 : Int32).toInt = -128 from by decide, show (127 : Int32).toInt = 127 from by decide]
  omega
/-- A' is A but that each place j of lo .. hi - 1 holds f j -/
def Laid (A A' : Cell) (lo hi : Nat) (f : Nat → Value) : Prop := A'.cls = A.cls ∧ A'.vm = A.vm ∧ A'.slots.size = A.slots.size ∧ ∀ i, A'.slots[i]? = if lo ≤ i ∧ i < hi then some (f i) else A.slots[i]?
theorem Laid.zero (A : Cell) (lo : Nat) (f : Nat → Value) : Laid A A lo (lo + 0) f := ⟨rfl, rfl, rfl, fun i => by rw [if_neg (by omega)]⟩
theorem Laid.step {A Ak : Cell} {lo k : Nat} {f : Nat → Value} {v : Value} (h : Laid A Ak lo k f) (hlo : lo ≤ k) (hk : k < Ak.slots.size) (hv : v = f k) : Laid A (Ak.setSlot k v) lo (k + 1) f := by
  refine ⟨h.1, h.2.1, by simpa [Cell.setSlot] using h.2.2.1, fun i => ?_⟩
  by_cases e : k = i
  · subst e; rw [Cell.slots_setSlot_self v hk, if_pos (by omega), hv]
  · rw [Cell.slots_setSlot_ne v e, h.2.2.2 i]
    by_cases q : lo ≤ i ∧ i < k
    · rw [if_pos q, if_pos (by omega)]
    · rw [if_neg q, if_neg (by omega)]
def U16 : String := "java/lang/StringUTF16"
namespace Cmp5
def yN : MethodName := ⟨"java/lang/StringUTF16", "compress", "([CI[BII)I"⟩
abbrev yB : ByteArray := jdk_52_method_21_code
theorem d0 : decode yB 0 = .ok (.iconst 0, 1) := by decide +kernel
theorem d1 : decode yB 1 = .ok (.istore 5, 2) := by decide +kernel
theorem d3 : decode yB 3 = .ok (.iload 5, 2) := by decide +kernel
theorem d5 : decode yB 5 = .ok (.iload 4, 2) := by decide +kernel
theorem d7 : decode yB 7 = .ok (.if_icmp (.ge) 37, 3) := by decide +kernel
theorem d10 : decode yB 10 = .ok (.aload_n 0, 1) := by decide +kernel
theorem d11 : decode yB 11 = .ok (.iload_n 1, 1) := by decide +kernel
theorem d12 : decode yB 12 = .ok (.caload, 1) := by decide +kernel
theorem d13 : decode yB 13 = .ok (.istore 6, 2) := by decide +kernel
theorem d15 : decode yB 15 = .ok (.iload 6, 2) := by decide +kernel
theorem d17 : decode yB 17 = .ok (.sipush 255, 3) := by decide +kernel
theorem d20 : decode yB 20 = .ok (.if_icmp (.le) 6, 3) := by decide +kernel
theorem d26 : decode yB 26 = .ok (.aload_n 2, 1) := by decide +kernel
theorem d27 : decode yB 27 = .ok (.iload_n 3, 1) := by decide +kernel
theorem d28 : decode yB 28 = .ok (.iload 6, 2) := by decide +kernel
theorem d30 : decode yB 30 = .ok (.i2b, 1) := by decide +kernel
theorem d31 : decode yB 31 = .ok (.bastore, 1) := by decide +kernel
theorem d32 : decode yB 32 = .ok (.iinc 1 1, 3) := by decide +kernel
theorem d35 : decode yB 35 = .ok (.iinc 3 1, 3) := by decide +kernel
theorem d38 : decode yB 38 = .ok (.iinc 5 1, 3) := by decide +kernel
theorem d41 : decode yB 41 = .ok (.goto (-38), 3) := by decide +kernel
theorem d44 : decode yB 44 = .ok (.iload 4, 2) := by decide +kernel
theorem d46 : decode yB 46 = .ok (.ireturn, 1) := by decide +kernel
def site : List Cond := []
def tab : Cond := tabOf yN yB 7 (some .int) site
def P (b : Addr) (A : Cell) (d : Addr) (B : Cell) (o q len : Nat) (args : Array Value) (s : State) : Prop := args = #[.ref b, .int (Int32.ofNat o), .ref d, .int (Int32.ofNat q), .int (Int32.ofNat len)] ∧ Ch b A s ∧ Arr .byte d B s ∧ b ≠ d ∧ o + len ≤ A.slots.size ∧ q + len ≤ B.slots.size ∧ ∀ i, i < len → ¬ 255 < cv A (o + i)
def E (b : Addr) (A : Cell) (d : Addr) (B : Cell) (o q len : Nat) (r : Option Value) (s u : State) : Prop := r = some (.int (Int32.ofNat len)) ∧ ∃ B', Put d B' s u ∧ Laid B B' q (q + len) (fun j => Value.int (lo8 (cv A (o + (j - q)))))
/-- no char of the range above 255: len; the places written hold each char's low byte -/
theorem law (l : Launch) (b : Addr) (A : Cell) (d : Addr) (B : Cell) (o q len : Nat) : Law l yN 5 5 0 0 yB 7 (some .int) site (P b A d B o q len) (E b A d B o q len) (copyLocs d q len) 0 0 := by
  refine Law.of_walk (plainFor_of_name (by decide +kernel)) (by decide +kernel) (by decide +kernel) (by decide) (fun _ _ h => by rw [h.1]; rfl) (fun _ U U' hal hh h => ⟨h.1, h.2.1.mv hal hh, h.2.2.1.mv hal hh, h.2.2.2⟩) (fun r U U' V V' h1 hal h2 h => ⟨h.1, h.2.elim fun B' q => ⟨B', q.1.mv h1 h2, q.2⟩⟩) ?_
  intro p e s m args below meth c s₁ X0 hexec hbytes hml hret hlk hnm hown hh0 W hP
  obtain ⟨rfl, hA, hB, hne, l1, l2, hp⟩ := hP
  have c1 : Steps p.tables e below (s₁.setTop (entryFrame m #[.ref b, .int (Int32.ofNat o), .ref d, .int (Int32.ofNat q), .int (Int32.ofNat len)] 7)) (s₁.setTop (mkF m 0 #[.val (.ref b), .val (.int (Int32.ofNat o)), .val (.ref d), .val (.int (Int32.ofNat q)), .val (.int (Int32.ofNat len)), .unset, .unset] [])) := entry rfl
  have hA0 := hA.1.mv X0.warmed.alike hh0
  have hB0 := hB.mv X0.warmed.alike hh0
  have a31 := hA.1.2.2.2
  have c2 : Steps p.tables e below (s₁.setTop (entryFrame m #[.ref b, .int (Int32.ofNat o), .ref d, .int (Int32.ofNat q), .int (Int32.ofNat len)] 7)) (s₁.setTop (mkF m 3 #[.val (.ref b), .val (.int (Int32.ofNat o)), .val (.ref d), .val (.int (Int32.ofNat q)), .val (.int (Int32.ofNat len)), .val (.int 0), .unset] [])) := c1.trans (by
    refine iconstV X0.here hexec rfl 0 (hb hbytes d0) (by decide) ?_
    refine XS.istore X0.here hexec rfl (hb hbytes d1) rfl rfl ?_
    exact Steps.refl _)
  have loop : ∀ (r i : Nat), i + r = len → ∀ (z : Slot), (z = .unset ∨ ∃ w, z = .val w ∧ w.category = 1) → ∀ (Tl : State) (Bk : Cell), Stand p l e { frames := 0, locals := 0, cells := 0, slots := 0 } s m #[.ref b, .int (Int32.ofNat o), .ref d, .int (Int32.ofNat q), .int (Int32.ofNat len)] below meth c Tl ([] ++ copyLocs d q i) 0 0 → Put d Bk s₁ Tl → Laid B Bk q (q + i) (fun j => Value.int (lo8 (cv A (o + (j - q))))) →
      Steps p.tables e below (s₁.setTop (entryFrame m #[.ref b, .int (Int32.ofNat o), .ref d, .int (Int32.ofNat q), .int (Int32.ofNat len)] 7)) (Tl.setTop (mkF m 3 #[.val (.ref b), .val (.int (Int32.ofNat (o + i))), .val (.ref d), .val (.int (Int32.ofNat (q + i))), .val (.int (Int32.ofNat len)), .val (.int (Int32.ofNat i)), z] [])) → ∃ (T' : State) (B' : Cell) (z' : Slot), Stand p l e { frames := 0, locals := 0, cells := 0, slots := 0 } s m #[.ref b, .int (Int32.ofNat o), .ref d, .int (Int32.ofNat q), .int (Int32.ofNat len)] below meth c T' ([] ++ copyLocs d q len) 0 0 ∧ Put d B' s₁ T' ∧ Laid B B' q (q + len) (fun j => Value.int (lo8 (cv A (o + (j - q))))) ∧
      Steps p.tables e below (s₁.setTop (entryFrame m #[.ref b, .int (Int32.ofNat o), .ref d, .int (Int32.ofNat q), .int (Int32.ofNat len)] 7)) (T'.setTop (mkF m 3 #[.val (.ref b), .val (.int (Int32.ofNat (o + len))), .val (.ref d), .val (.int (Int32.ofNat (q + len))), .val (.int (Int32.ofNat len)), .val (.int (Int32.ofNat len)), z'] [])) := by
    intro r
    induction r with
    | zero =>
      intro i hi z hz Tl Bk Xl pl fl cl
      have hil : i = len := by omega
      rw [hil] at Xl fl cl
      exact ⟨Tl, Bk, z, Xl, pl, fl, cl⟩
    | succ r ih =>
      intro i hi z hz Tl Bk Xl pl fl cl
      have all := X0.warmed.alike.symm.trans Xl.warmed.alike
      have hAl := hA0.keep all (pl.other hne hA0.1)
      have hBk := hB0.like all pl.1 fl.1 fl.2.1 fl.2.2.1
      have hlt : q + i < Bk.slots.size := by rw [fl.2.2.1]; omega
      have c3 : Steps p.tables e below (s₁.setTop (entryFrame m #[.ref b, .int (Int32.ofNat o), .ref d, .int (Int32.ofNat q), .int (Int32.ofNat len)] 7)) (Tl.setTop (mkF m 12 #[.val (.ref b), .val (.int (Int32.ofNat (o + i))), .val (.ref d), .val (.int (Int32.ofNat (q + i))), .val (.int (Int32.ofNat len)), .val (.int (Int32.ofNat i)), z] [.int (Int32.ofNat (o + i)), .ref b])) := cl.trans (by
        refine XS.iload Xl.here hexec rfl (hb hbytes d3) rfl ?_
        refine XS.iload Xl.here hexec rfl (hb hbytes d5) rfl ?_
        refine XS.icmpNo Xl.here hexec rfl (hb hbytes d7) rfl (ii_ge_f (lt32 (by omega) (by omega))) ?_
        refine XS.aloadN Xl.here hexec rfl (hb hbytes d10) rfl rfl ?_
        refine XS.iloadN Xl.here hexec rfl (hb hbytes d11) rfl ?_
        exact Steps.refl _)
      have c4 : Steps p.tables e below (s₁.setTop (entryFrame m #[.ref b, .int (Int32.ofNat o), .ref d, .int (Int32.ofNat q), .int (Int32.ofNat len)] 7)) (Tl.setTop (mkF m 13 #[.val (.ref b), .val (.int (Int32.ofNat (o + i))), .val (.ref d), .val (.int (Int32.ofNat (q + i))), .val (.int (Int32.ofNat len)), .val (.int (Int32.ofNat i)), z] [.int (cv A (o + i))])) := c3.trans (by
        refine Xl.aget hexec hAl rfl (hA.get (i := o + i) (by omega)) rfl rfl (hb hbytes d12) ?_
        exact Steps.refl _)
      have c5 : Steps p.tables e below (s₁.setTop (entryFrame m #[.ref b, .int (Int32.ofNat o), .ref d, .int (Int32.ofNat q), .int (Int32.ofNat len)] 7)) (Tl.setTop (mkF m 15 #[.val (.ref b), .val (.int (Int32.ofNat (o + i))), .val (.ref d), .val (.int (Int32.ofNat (q + i))), .val (.int (Int32.ofNat len)), .val (.int (Int32.ofNat i)), .val (.int (cv A (o + i)))] [])) := c4.trans (by
        refine XS.istoreS Xl.here hexec rfl (hb hbytes d13) rfl rfl hz ?_
        exact Steps.refl _)
      have c6 : Steps p.tables e below (s₁.setTop (entryFrame m #[.ref b, .int (Int32.ofNat o), .ref d, .int (Int32.ofNat q), .int (Int32.ofNat len)] 7)) (Tl.setTop (mkF m 31 #[.val (.ref b), .val (.int (Int32.ofNat (o + i))), .val (.ref d), .val (.int (Int32.ofNat (q + i))), .val (.int (Int32.ofNat len)), .val (.int (Int32.ofNat i)), .val (.int (cv A (o + i)))] [.int (lo8 (cv A (o + i))), .int (Int32.ofNat (q + i)), .ref d])) := c5.trans (by
        refine XS.iload Xl.here hexec rfl (hb hbytes d15) rfl ?_
        refine sipushV Xl.here hexec rfl 255 (hb hbytes d17) (by decide) ?_
        refine XS.icmpYes Xl.here hexec rfl (pc0 := 20) rfl (hb hbytes d20) rfl (ii_le_t (hp i (by omega))) (by decide) rfl ?_
        refine XS.aloadN Xl.here hexec rfl (hb hbytes d26) rfl rfl ?_
        refine XS.iloadN Xl.here hexec rfl (hb hbytes d27) rfl ?_
        refine XS.iload Xl.here hexec rfl (hb hbytes d28) rfl ?_
        refine i2b Xl.here hexec rfl (hb hbytes d30) rfl ?_
        exact Steps.refl _)
      obtain ⟨T7, X7, p7, st7⟩ := Xl.aput hexec hBk rfl hlt rfl (fits_lo8 (cv A (o + i))) (g := (mkF m 31 #[.val (.ref b), .val (.int (Int32.ofNat (o + i))), .val (.ref d), .val (.int (Int32.ofNat (q + i))), .val (.int (Int32.ofNat len)), .val (.int (Int32.ofNat i)), .val (.int (cv A (o + i)))] [.int (lo8 (cv A (o + i))), .int (Int32.ofNat (q + i)), .ref d])) rfl (rest := []) rfl (hb hbytes d31)
      have c8 : Steps p.tables e below (s₁.setTop (entryFrame m #[.ref b, .int (Int32.ofNat o), .ref d, .int (Int32.ofNat q), .int (Int32.ofNat len)] 7)) (T7.setTop (mkF m 32 #[.val (.ref b), .val (.int (Int32.ofNat (o + i))), .val (.ref d), .val (.int (Int32.ofNat (q + i))), .val (.int (Int32.ofNat len)), .val (.int (Int32.ofNat i)), .val (.int (cv A (o + i)))] [])) := c6.trans (st7 _ (Steps.refl _))
      have c9 : Steps p.tables e below (s₁.setTop (entryFrame m #[.ref b, .int (Int32.ofNat o), .ref d, .int (Int32.ofNat q), .int (Int32.ofNat len)] 7)) (T7.setTop (mkF m 3 #[.val (.ref b), .val (.int (Int32.ofNat (o + i) + 1)), .val (.ref d), .val (.int (Int32.ofNat (q + i) + 1)), .val (.int (Int32.ofNat len)), .val (.int (Int32.ofNat i + 1)), .val (.int (cv A (o + i)))] [])) := c8.trans (by
        refine iincV X7.here hexec rfl 1 (hb hbytes d32) (by decide) rfl rfl ?_
        refine iincV X7.here hexec rfl 1 (hb hbytes d35) (by decide) rfl rfl ?_
        refine iincV X7.here hexec rfl 1 (hb hbytes d38) (by decide) rfl rfl ?_
        refine XS.goto X7.here hexec rfl (pc0 := 41) rfl (hb hbytes d41) (by decide) rfl ?_
        exact Steps.refl _)
      have c10 : Steps p.tables e below (s₁.setTop (entryFrame m #[.ref b, .int (Int32.ofNat o), .ref d, .int (Int32.ofNat q), .int (Int32.ofNat len)] 7)) (T7.setTop (mkF m 3 #[.val (.ref b), .val (.int (Int32.ofNat (o + (i + 1)))), .val (.ref d), .val (.int (Int32.ofNat (q + (i + 1)))), .val (.int (Int32.ofNat len)), .val (.int (Int32.ofNat (i + 1))), .val (.int (cv A (o + i)))] [])) := by
        have := c9
        rw [succ32, succ32, succ32] at this
        exact this
      exact ih (i + 1) (by omega) _ (Or.inr ⟨_, rfl, rfl⟩) T7 _ (by rw [copyLocs_step, ← List.append_assoc]; exact X7) (pl.trans p7) (fl.step (by omega) hlt (by simp)) c10
  obtain ⟨T9, B9, z9, X9, p9, f9, g9⟩ := loop len 0 (by omega) .unset (Or.inl rfl) s₁ B (by simpa [copyLocs] using X0) ⟨hB0.1, fun _ _ => rfl, rfl⟩ (Laid.zero _ _ _) c2
  have c11 : Steps p.tables e below (s₁.setTop (entryFrame m #[.ref b, .int (Int32.ofNat o), .ref d, .int (Int32.ofNat q), .int (Int32.ofNat len)] 7)) (T9.setTop (mkF m 46 #[.val (.ref b), .val (.int (Int32.ofNat (o + len))), .val (.ref d), .val (.int (Int32.ofNat (q + len))), .val (.int (Int32.ofNat len)), .val (.int (Int32.ofNat len)), z9] [.int (Int32.ofNat len)])) := g9.trans (by
    refine XS.iload X9.here hexec rfl (hb hbytes d3) rfl ?_
    refine XS.iload X9.here hexec rfl (hb hbytes d5) rfl ?_
    refine XS.icmpYes X9.here hexec rfl (pc0 := 7) rfl (hb hbytes d7) rfl (ii_ge_t (nlt32 (by omega) (Nat.le_refl _))) (by decide) rfl ?_
    refine XS.iload X9.here hexec rfl (hb hbytes d44) rfl ?_
    exact Steps.refl _)
  exact ⟨T9, some (.int (Int32.ofNat len)), _, _, _, X9, by simp, rfl, rfl, (fun h => by cases h), ⟨rfl, B9, p9.from hh0, f9⟩, fun fs hl => c11.trans (X9.ireturnOut hexec hret rfl (Or.inl rfl) (hb hbytes d46) hl)⟩
end Cmp5
namespace Cmp3
def yN : MethodName := ⟨"java/lang/StringUTF16", "compress", "([CII)[B"⟩
abbrev yB : ByteArray := jdk_52_method_16_code
theorem d0 : decode yB 0 = .ok (.iload_n 2, 1) := by decide +kernel
theorem d1 : decode yB 1 = .ok (.newarray .byte, 2) := by decide +kernel
theorem d3 : decode yB 3 = .ok (.astore_n 3, 1) := by decide +kernel
theorem d4 : decode yB 4 = .ok (.aload_n 0, 1) := by decide +kernel
theorem d5 : decode yB 5 = .ok (.iload_n 1, 1) := by decide +kernel
theorem d6 : decode yB 6 = .ok (.aload_n 3, 1) := by decide +kernel
theorem d7 : decode yB 7 = .ok (.iconst 0, 1) := by decide +kernel
theorem d8 : decode yB 8 = .ok (.iload_n 2, 1) := by decide +kernel
theorem d9 : decode yB 9 = .ok (.invokestatic 115, 3) := by decide +kernel
theorem d12 : decode yB 12 = .ok (.istore 4, 2) := by decide +kernel
theorem d14 : decode yB 14 = .ok (.iload 4, 2) := by decide +kernel
theorem d16 : decode yB 16 = .ok (.iload_n 2, 1) := by decide +kernel
theorem d17 : decode yB 17 = .ok (.if_icmp (.eq) 40, 3) := by decide +kernel
theorem d57 : decode yB 57 = .ok (.aload_n 3, 1) := by decide +kernel
theorem d58 : decode yB 58 = .ok (.areturn, 1) := by decide +kernel
def site : List Cond := [.arrayClass .byte, Cmp5.tab] ++ staticW U16 115 Cmp5.yN
def tab : Cond := tabOf yN yB 6 (some (.array .byte)) site
def P (b : Addr) (A : Cell) (o len : Nat) (args : Array Value) (s : State) : Prop := args = #[.ref b, .int (Int32.ofNat o), .int (Int32.ofNat len)] ∧ Ch b A s ∧ o + len ≤ A.slots.size ∧ len ≤ 536870912 ∧ ∀ i, i < len → ¬ 255 < cv A (o + i)
def E (b : Addr) (A : Cell) (o len : Nat) (r : Option Value) (s u : State) : Prop := NewArr .byte "[B" len (fun j => .int (lo8 (cv A (o + j)))) r s u ∧ u.heap.size = s.heap.size + 1
/-- no char of the range above 255: a new byte[] of their low bytes -/
theorem law (l : Launch) (b : Addr) (A : Cell) (o len : Nat) : Law l yN 3 3 1 18 yB 6 (some (.array .byte)) site (P b A o len) (E b A o len) [] 1 len := by
  refine Law.of_walk (plainFor_of_name (by decide +kernel)) (by decide +kernel) (by decide +kernel) (by decide) (fun _ _ h => by rw [h.1]; rfl) (fun _ U U' hal hh h => ⟨h.1, h.2.1.mv hal hh, h.2.2⟩) (fun r U U' V V' h1 hal h2 h => ⟨NewArr.mv r U U' V V' h1 hal h2 h.1, by rw [h1, h2]; exact h.2⟩) ?_
  intro p e s m args below meth c s₁ X0 hexec hbytes hml hret hlk hnm hown hh0 W hP
  obtain ⟨rfl, hA, l1, l2, hp⟩ := hP
  have a31 := hA.1.2.2.2
  have c1 : Steps p.tables e below (s₁.setTop (entryFrame m #[.ref b, .int (Int32.ofNat o), .int (Int32.ofNat len)] 6)) (s₁.setTop (mkF m 0 #[.val (.ref b), .val (.int (Int32.ofNat o)), .val (.int (Int32.ofNat len)), .unset, .unset, .unset] [])) := entry rfl
  have c2 : Steps p.tables e below (s₁.setTop (entryFrame m #[.ref b, .int (Int32.ofNat o), .int (Int32.ofNat len)] 6)) (s₁.setTop (mkF m 1 #[.val (.ref b), .val (.int (Int32.ofNat o)), .val (.int (Int32.ofNat len)), .unset, .unset, .unset] [.int (Int32.ofNat len)])) := c1.trans (by
    refine XS.iloadN X0.here hexec rfl (hb hbytes d0) rfl ?_
    exact Steps.refl _)
  obtain ⟨T3, B3, X3, ba3, bs3, bv3, bh3, bf3, st3⟩ := X0.anew hexec (atype := .byte) (wk W (.arrayClass .byte)) rfl (by show len * 1 ≤ _; omega) (by omega) (g := (mkF m 1 #[.val (.ref b), .val (.int (Int32.ofNat o)), .val (.int (Int32.ofNat len)), .unset, .unset, .unset] [.int (Int32.ofNat len)])) rfl (hb hbytes d1) (rest := []) rfl (Nat.le_refl _) (by show 0 + len ≤ len; omega)
  rw [hh0] at ba3 st3
  have kp3 : XT.Kept s T3 := (XT.Kept.of_eq hh0).push bh3
  have hA3 := hA.keep X3.warmed.alike (kp3 _ _ hA.1.1)
  have hne : b ≠ s.heap.size := hA.1.ne
  have c4 : Steps p.tables e below (s₁.setTop (entryFrame m #[.ref b, .int (Int32.ofNat o), .int (Int32.ofNat len)] 6)) (T3.setTop (mkF m 3 #[.val (.ref b), .val (.int (Int32.ofNat o)), .val (.int (Int32.ofNat len)), .unset, .unset, .unset] [.ref s.heap.size])) := c2.trans (st3 _ (Steps.refl _))
  have c5 : Steps p.tables e below (s₁.setTop (entryFrame m #[.ref b, .int (Int32.ofNat o), .int (Int32.ofNat len)] 6)) (T3.setTop (mkF m 9 #[.val (.ref b), .val (.int (Int32.ofNat o)), .val (.int (Int32.ofNat len)), .val (.ref s.heap.size), .unset, .unset] [.int (Int32.ofNat len), .int 0, .ref s.heap.size, .int (Int32.ofNat o), .ref b])) := c4.trans (by
    refine XS.astoreN X3.here hexec rfl (hb hbytes d3) rfl rfl rfl ?_
    refine XS.aloadN X3.here hexec rfl (hb hbytes d4) rfl rfl ?_
    refine XS.iloadN X3.here hexec rfl (hb hbytes d5) rfl ?_
    refine XS.aloadN X3.here hexec rfl (hb hbytes d6) rfl rfl ?_
    refine iconstV X3.here hexec rfl 0 (hb hbytes d7) (by decide) ?_
    refine XS.iloadN X3.here hexec rfl (hb hbytes d8) rfl ?_
    exact Steps.refl _)
  obtain ⟨v6, T6, X6, E6, g6⟩ := X3.callS hexec (Cmp5.law l b A s.heap.size B3 o 0 len) hown (wks W (staticW U16 115 Cmp5.yN)) (wk W Cmp5.tab) (W := 0) (Nat.le_of_ble_eq_true rfl) (Nat.le_of_ble_eq_true rfl) (Nat.le_refl _) (by show 0 + len + 0 ≤ len; omega) (g := (mkF m 9 #[.val (.ref b), .val (.int (Int32.ofNat o)), .val (.int (Int32.ofNat len)), .val (.ref s.heap.size), .unset, .unset] [.int (Int32.ofNat len), .int (Int32.ofNat 0), .ref s.heap.size, .int (Int32.ofNat o), .ref b])) rfl (by rw [hml]; rfl) c5 (argsL := [.ref b, .int (Int32.ofNat o), .ref s.heap.size, .int (Int32.ofNat 0), .int (Int32.ofNat len)]) (rest := []) rfl rfl (by show 2 * 0 + 0 ≤ _; decide) (hb hbytes d9) (⟨rfl, hA3, ba3, hne, l1, by rw [bs3]; simp, hp⟩)
  obtain ⟨rfl, B6, p6, f6⟩ := E6
  have c7 : Steps p.tables e below (s₁.setTop (entryFrame m #[.ref b, .int (Int32.ofNat o), .int (Int32.ofNat len)] 6)) (T6.setTop (mkF m 12 #[.val (.ref b), .val (.int (Int32.ofNat o)), .val (.int (Int32.ofNat len)), .val (.ref s.heap.size), .unset, .unset] [.int (Int32.ofNat len)])) := g6
  have c8 : Steps p.tables e below (s₁.setTop (entryFrame m #[.ref b, .int (Int32.ofNat o), .int (Int32.ofNat len)] 6)) (T6.setTop (mkF m 58 #[.val (.ref b), .val (.int (Int32.ofNat o)), .val (.int (Int32.ofNat len)), .val (.ref s.heap.size), .val (.int (Int32.ofNat len)), .unset] [.ref s.heap.size])) := c7.trans (by
    refine XS.istore X6.here hexec rfl (hb hbytes d12) rfl rfl ?_
    refine XS.iload X6.here hexec rfl (hb hbytes d14) rfl ?_
    refine XS.iloadN X6.here hexec rfl (hb hbytes d16) rfl ?_
    refine XS.icmpYes X6.here hexec rfl (pc0 := 17) rfl (hb hbytes d17) rfl (ii_eq_t rfl) (by decide) rfl ?_
    refine XS.aloadN X6.here hexec rfl (hb hbytes d57) rfl rfl ?_
    exact Steps.refl _)
  have X8 := X6.wide (L' := []) (cells' := 1) (slots' := len) (fun x hx hlt => by
    simp only [List.nil_append, copyLocs, List.mem_map, List.mem_range] at hx
    obtain ⟨i, -, rfl⟩ := hx
    exact absurd hlt (Nat.lt_irrefl _)) (Nat.le_refl _) (by omega)
  exact ⟨T6, some (.ref s.heap.size), _, _, _, X8, rfl, rfl, rfl, (fun h => by cases h), ⟨⟨rfl, B6, ba3.like (X3.warmed.alike.symm.trans X6.warmed.alike) p6.1 f6.1 f6.2.1 f6.2.2.1, f6.2.1.trans bv3, by rw [X6.warmed.alike.findClass, f6.1]; exact bf3, by rw [f6.2.2.1, bs3]; simp, fun j hj => by rw [f6.2.2.2 j, if_pos (by omega)]; rfl, kp3.put p6 (Nat.le_refl _)⟩, by rw [p6.2.2, bh3, hh0]; simp⟩, fun fs hl => c8.trans (X8.areturnOut hexec rfl hret rfl (hb hbytes d58) hl)⟩
end Cmp3
namespace CodL
def yN : MethodName := ⟨"java/lang/StringUTF16", "coderFromArrayLen", "([BI)B"⟩
abbrev yB : ByteArray := jdk_52_method_15_code
theorem d0 : decode yB 0 = .ok (.iload_n 1, 1) := by decide +kernel
theorem d1 : decode yB 1 = .ok (.aload_n 0, 1) := by decide +kernel
theorem d2 : decode yB 2 = .ok (.arraylength, 1) := by decide +kernel
theorem d3 : decode yB 3 = .ok (.isub, 1) := by decide +kernel
theorem d4 : decode yB 4 = .ok (.bipush 31, 2) := by decide +kernel
theorem d6 : decode yB 6 = .ok (.iushr, 1) := by decide +kernel
theorem d7 : decode yB 7 = .ok (.i2b, 1) := by decide +kernel
theorem d8 : decode yB 8 = .ok (.ireturn, 1) := by decide +kernel
def site : List Cond := []
def tab : Cond := tabOf yN yB 2 (some .byte) site
def P (d : Addr) (B : Cell) (args : Array Value) (s : State) : Prop := args = #[.ref d, .int (Int32.ofNat B.slots.size)] ∧ Arr .byte d B s
def E (r : Option Value) (s u : State) : Prop := XT.PureE (some (.int 0)) r s u
/-- an array as long as the number of chars: LATIN1 -/
theorem law (l : Launch) (d : Addr) (B : Cell) : Law l yN 2 2 0 0 yB 2 (some .byte) site (P d B) E [] 0 0 := by
  refine Law.of_walk (plainFor_of_name (by decide +kernel)) (by decide +kernel) (by decide +kernel) (by decide) (fun _ _ h => by rw [h.1]; rfl) (fun _ U U' hal hh h => ⟨h.1, h.2.mv hal hh⟩) (fun r U U' V V' h1 hal h2 h => XT.PureE.mv r U U' V V' h1 hal h2 h) ?_
  intro p e s m args below meth c s₁ X0 hexec hbytes hml hret hlk hnm hown hh0 W hP
  obtain ⟨rfl, hB⟩ := hP
  have hB0 := hB.mv X0.warmed.alike hh0
  have c1 : Steps p.tables e below (s₁.setTop (entryFrame m #[.ref d, .int (Int32.ofNat B.slots.size)] 2)) (s₁.setTop (mkF m 0 #[.val (.ref d), .val (.int (Int32.ofNat B.slots.size))] [])) := entry rfl
  have c2 : Steps p.tables e below (s₁.setTop (entryFrame m #[.ref d, .int (Int32.ofNat B.slots.size)] 2)) (s₁.setTop (mkF m 2 #[.val (.ref d), .val (.int (Int32.ofNat B.slots.size))] [.ref d, .int (Int32.ofNat B.slots.size)])) := c1.trans (by
    refine XS.iloadN X0.here hexec rfl (hb hbytes d0) rfl ?_
    refine XS.aloadN X0.here hexec rfl (hb hbytes d1) rfl rfl ?_
    exact Steps.refl _)
  have c3 : Steps p.tables e below (s₁.setTop (entryFrame m #[.ref d, .int (Int32.ofNat B.slots.size)] 2)) (s₁.setTop (mkF m 8 #[.val (.ref d), .val (.int (Int32.ofNat B.slots.size))] [.int (lo8 (ushr (Int32.ofNat B.slots.size - Int32.ofNat B.slots.size) 31))])) := c2.trans (by
    refine X0.alen hexec hB0 rfl rfl (hb hbytes d2) ?_
    refine XS.isub X0.here hexec rfl (hb hbytes d3) rfl ?_
    refine bipushV X0.here hexec rfl 31 (hb hbytes d4) (by decide) ?_
    refine iushr X0.here hexec rfl (hb hbytes d6) rfl ?_
    refine i2b X0.here hexec rfl (hb hbytes d7) rfl ?_
    exact Steps.refl _)
  have e0 : lo8 (ushr (Int32.ofNat B.slots.size - Int32.ofNat B.slots.size) 31) = 0 := by rw [Int32.sub_self]; decide
  rw [e0] at c3
  exact ⟨s₁, some (.int 0), _, _, _, X0, rfl, rfl, rfl, (fun h => by cases h), ⟨rfl, hh0⟩, fun fs hl => c3.trans (X0.ireturnOut hexec hret rfl (Or.inr (Or.inr (Or.inl rfl))) (hb hbytes d8) hl)⟩
end CodL
/-- the String at a is Latin-1 over a new byte[] (the heap's one new cell): the low bytes of the len chars of A from o on; every cell but a is kept -/
def Got (a : Addr) (D : Cell) (fV fC : Field) (A : Cell) (o len : Nat) (r : Option Value) (s u : State) : Prop := r = none ∧ ∃ D' V : Cell, Blank "java/lang/String" a D' u ∧ Same D D' [fV.slot, fC.slot] ∧ D'.slots[fV.slot]? = some (.ref s.heap.size) ∧ D'.slots[fC.slot]? = some (.int 0) ∧ Arr .byte s.heap.size V u ∧ V.vm = .none ∧ u.vm.findClass "[B" = some V.cls ∧ V.slots.size = len ∧ (∀ j, j < len → V.slots[j]? = some (.int (lo8 (cv A (o + j))))) ∧ (∀ (y : Addr) (c : Cell), y ≠ a → s.heap[y]? = some c → u.heap[y]? = some c) ∧ u.heap.size = s.heap.size + 1
theorem Got.mv {a : Addr} {D A : Cell} {fV fC : Field} {o len : Nat} : ∀ r (U U' V V' : State), U'.heap = U.heap → V.vm.Alike V'.vm → V'.heap = V.heap → Got a D fV fC A o len r U V → Got a D fV fC A o len r U' V' :=
  fun r U U' V V' h1 hal h2 ⟨e0, D', X, a1, a2, a3, a4, a5, a6, a7, a8, a9, a10, a11⟩ => ⟨e0, D', X, a1.mv hal h2, a2, by rw [h1]; exact a3, a4, by rw [h1]; exact a5.mv hal h2, a6, by rw [hal.findClass]; exact a7, a8, a9, by rw [h1, h2]; exact a10, by rw [h1, h2]; exact a11⟩
namespace New4
def yN : MethodName := ⟨"java/lang/String", "<init>", "([CIILjava/lang/Void;)V"⟩
abbrev yB : ByteArray := jdk_42_method_149_code
theorem d0 : decode yB 0 = .ok (.aload_n 0, 1) := by decide +kernel
theorem d1 : decode yB 1 = .ok (.invokespecial 1, 3) := by decide +kernel
theorem d4 : decode yB 4 = .ok (.iload_n 3, 1) := by decide +kernel
theorem d5 : decode yB 5 = .ok (.ifCond (.ne) 22, 3) := by decide +kernel
theorem d27 : decode yB 27 = .ok (.getstatic 38, 3) := by decide +kernel
theorem d30 : decode yB 30 = .ok (.ifCond (.eq) 28, 3) := by decide +kernel
theorem d33 : decode yB 33 = .ok (.aload_n 1, 1) := by decide +kernel
theorem d34 : decode yB 34 = .ok (.iload_n 2, 1) := by decide +kernel
theorem d35 : decode yB 35 = .ok (.iload_n 3, 1) := by decide +kernel
theorem d36 : decode yB 36 = .ok (.invokestatic 177, 3) := by decide +kernel
theorem d39 : decode yB 39 = .ok (.astore 5, 2) := by decide +kernel
theorem d41 : decode yB 41 = .ok (.aload_n 0, 1) := by decide +kernel
theorem d42 : decode yB 42 = .ok (.aload 5, 2) := by decide +kernel
theorem d44 : decode yB 44 = .ok (.iload_n 3, 1) := by decide +kernel
theorem d45 : decode yB 45 = .ok (.invokestatic 47, 3) := by decide +kernel
theorem d48 : decode yB 48 = .ok (.putfield 15, 3) := by decide +kernel
theorem d51 : decode yB 51 = .ok (.aload_n 0, 1) := by decide +kernel
theorem d52 : decode yB 52 = .ok (.aload 5, 2) := by decide +kernel
theorem d54 : decode yB 54 = .ok (.putfield 9, 3) := by decide +kernel
theorem d57 : decode yB 57 = .ok (.return_, 1) := by decide +kernel
def site : List Cond := [.fieldLink "java/lang/String" 38 "java/lang/String" "COMPACT_STRINGS" "Z", Cmp3.tab, CodL.tab, .laysFinal "java/lang/String" "java/lang/String" "value" "[B", .fieldLink "java/lang/String" 9 "java/lang/String" "value" "[B", .laysFinal "java/lang/String" "java/lang/String" "coder" "B", .fieldLink "java/lang/String" 15 "java/lang/String" "coder" "B"] ++ objW "java/lang/String" 1 ++ staticW "java/lang/String" 177 Cmp3.yN ++ staticW "java/lang/String" 47 CodL.yN
def tab : Cond := tabOf yN yB 6 none site
def P (a : Addr) (D : Cell) (fV fC : Field) (b : Addr) (A : Cell) (z : Int32) (o len : Nat) (args : Array Value) (s : State) : Prop := args = #[.ref a, .ref b, .int (Int32.ofNat o), .int (Int32.ofNat len), .null] ∧ Blank "java/lang/String" a D s ∧ Found "java/lang/String" "value" "[B" fV s ∧ Found "java/lang/String" "coder" "B" fC s ∧ Ch b A s ∧ StaticIs s "java/lang/String" "COMPACT_STRINGS" "Z" (.int z) ∧ ¬ z = 0 ∧ 0 < len ∧ o + len ≤ A.slots.size ∧ len ≤ 536870912 ∧ ∀ i, i < len → ¬ 255 < cv A (o + i)
def E (a : Addr) (D : Cell) (fV fC : Field) (A : Cell) (o len : Nat) (r : Option Value) (s u : State) : Prop := Got a D fV fC A o len r s u
/-- len > 0, no char of the range above 255: a Latin-1 String of their low bytes -/
theorem law (l : Launch) (a : Addr) (D : Cell) (fV fC : Field) (b : Addr) (A : Cell) (z : Int32) (o len : Nat) : Law l yN 5 4 2 35 yB 6 none site (P a D fV fC b A z o len) (E a D fV fC A o len) [⟨a, fC.slot⟩, ⟨a, fV.slot⟩] 1 len := by
  refine Law.of_walk (plainFor_of_name (by decide +kernel)) (by decide +kernel) (by decide +kernel) (by decide) (fun _ _ h => by rw [h.1]; rfl) (fun _ U U' hal hh h => ⟨h.1, h.2.1.mv hal hh, h.2.2.1.al hal, h.2.2.2.1.al hal, h.2.2.2.2.1.mv hal hh, h.2.2.2.2.2.1.there hal hh, h.2.2.2.2.2.2⟩) (fun r U U' V V' h1 hal h2 h => Got.mv r U U' V V' h1 hal h2 h) ?_
  intro p e s m args below meth c s₁ X0 hexec hbytes hml hret hlk hnm hown hh0 W hP
  obtain ⟨rfl, hB, f1, f2, hA, s1, hz, l0, l1, l2, hp⟩ := hP
  have a31 := hA.1.2.2.2
  have c1 : Steps p.tables e below (s₁.setTop (entryFrame m #[.ref a, .ref b, .int (Int32.ofNat o), .int (Int32.ofNat len), .null] 6)) (s₁.setTop (mkF m 0 #[.val (.ref a), .val (.ref b), .val (.int (Int32.ofNat o)), .val (.int (Int32.ofNat len)), .val .null, .unset] [])) := entry rfl
  have c2 : Steps p.tables e below (s₁.setTop (entryFrame m #[.ref a, .ref b, .int (Int32.ofNat o), .int (Int32.ofNat len), .null] 6)) (s₁.setTop (mkF m 1 #[.val (.ref a), .val (.ref b), .val (.int (Int32.ofNat o)), .val (.int (Int32.ofNat len)), .val .null, .unset] [.ref a])) := c1.trans (by
    refine XS.aloadN X0.here hexec rfl (hb hbytes d0) rfl rfl ?_
    exact Steps.refl _)
  obtain ⟨T3, X3, q3, st3⟩ := X0.oinit hexec hown (wks W (objW "java/lang/String" 1)) (g := (mkF m 1 #[.val (.ref a), .val (.ref b), .val (.int (Int32.ofNat o)), .val (.int (Int32.ofNat len)), .val .null, .unset] [.ref a])) rfl (by rw [hml]; rfl) (rest := []) rfl (hb hbytes d1) (W := 0) (by show 2 * 0 + 0 ≤ _; decide) (Nat.le_of_ble_eq_true rfl) (Nat.le_of_ble_eq_true rfl)
  have hh3 := q3.trans hh0
  have c4 : Steps p.tables e below (s₁.setTop (entryFrame m #[.ref a, .ref b, .int (Int32.ofNat o), .int (Int32.ofNat len), .null] 6)) (T3.setTop (mkF m 27 #[.val (.ref a), .val (.ref b), .val (.int (Int32.ofNat o)), .val (.int (Int32.ofNat len)), .val .null, .unset] [])) := (c2.trans (st3 _ (Steps.refl _))).trans (by
    refine XS.iloadN X3.here hexec rfl (hb hbytes d4) rfl ?_
    refine XS.ifYes X3.here hexec rfl (pc0 := 5) rfl (hb hbytes d5) rfl (i0_ne_t (nz32 (by omega) l0)) (by decide) rfl ?_
    exact Steps.refl _)
  obtain ⟨T5, X5, q5, st5⟩ := X3.sget hexec hown (wk W (.fieldLink "java/lang/String" 38 "java/lang/String" "COMPACT_STRINGS" "Z")) s1 (fun _ _ h => by rw [hh3]; exact h) (g := (mkF m 27 #[.val (.ref a), .val (.ref b), .val (.int (Int32.ofNat o)), .val (.int (Int32.ofNat len)), .val .null, .unset] [])) rfl (hb hbytes d27)
  have hh5 := q5.trans hh3
  have c6 : Steps p.tables e below (s₁.setTop (entryFrame m #[.ref a, .ref b, .int (Int32.ofNat o), .int (Int32.ofNat len), .null] 6)) (T5.setTop (mkF m 30 #[.val (.ref a), .val (.ref b), .val (.int (Int32.ofNat o)), .val (.int (Int32.ofNat len)), .val .null, .unset] [.int z])) := c4.trans (st5 _ (Steps.refl _))
  have c7 : Steps p.tables e below (s₁.setTop (entryFrame m #[.ref a, .ref b, .int (Int32.ofNat o), .int (Int32.ofNat len), .null] 6)) (T5.setTop (mkF m 36 #[.val (.ref a), .val (.ref b), .val (.int (Int32.ofNat o)), .val (.int (Int32.ofNat len)), .val .null, .unset] [.int (Int32.ofNat len), .int (Int32.ofNat o), .ref b])) := c6.trans (by
    refine XS.ifNo X5.here hexec rfl (hb hbytes d30) rfl (i0_eq_f hz) ?_
    refine XS.aloadN X5.here hexec rfl (hb hbytes d33) rfl rfl ?_
    refine XS.iloadN X5.here hexec rfl (hb hbytes d34) rfl ?_
    refine XS.iloadN X5.here hexec rfl (hb hbytes d35) rfl ?_
    exact Steps.refl _)
  obtain ⟨v8, T8, X8, E8, g8⟩ := X5.callS hexec (Cmp3.law l b A o len) hown (wks W (staticW "java/lang/String" 177 Cmp3.yN)) (wk W Cmp3.tab) (W := 0) (Nat.le_of_ble_eq_true rfl) (Nat.le_of_ble_eq_true rfl) (Nat.le_refl _) (by show 0 + len ≤ len; omega) (g := (mkF m 36 #[.val (.ref a), .val (.ref b), .val (.int (Int32.ofNat o)), .val (.int (Int32.ofNat len)), .val .null, .unset] [.int (Int32.ofNat len), .int (Int32.ofNat o), .ref b])) rfl (by rw [hml]; rfl) c7 (argsL := [.ref b, .int (Int32.ofNat o), .int (Int32.ofNat len)]) (rest := []) rfl rfl (by show 2 * 0 + 0 ≤ _; decide) (hb hbytes d36) (⟨rfl, hA.mv X5.warmed.alike hh5, l1, l2, hp⟩)
  obtain ⟨e8, z8⟩ := E8
  obtain ⟨rfl, N, n1, n2, n3, n4, n5, n6⟩ := NewArr.mv _ T5 s _ _ hh5.symm (Vm.Alike.refl _) rfl e8
  rw [hh5] at z8
  have hB1 := hB.keep X8.warmed.alike (n6 _ _ hB.1)
  have hne : s.heap.size ≠ a := (Nat.ne_of_lt (Array.getElem?_eq_some_iff.mp hB.1).1).symm
  have c9 : Steps p.tables e below (s₁.setTop (entryFrame m #[.ref a, .ref b, .int (Int32.ofNat o), .int (Int32.ofNat len), .null] 6)) (T8.setTop (mkF m 39 #[.val (.ref a), .val (.ref b), .val (.int (Int32.ofNat o)), .val (.int (Int32.ofNat len)), .val .null, .unset] [.ref s.heap.size])) := g8
  have c10 : Steps p.tables e below (s₁.setTop (entryFrame m #[.ref a, .ref b, .int (Int32.ofNat o), .int (Int32.ofNat len), .null] 6)) (T8.setTop (mkF m 45 #[.val (.ref a), .val (.ref b), .val (.int (Int32.ofNat o)), .val (.int (Int32.ofNat len)), .val .null, .val (.ref s.heap.size)] [.int (Int32.ofNat N.slots.size), .ref s.heap.size, .ref a])) := by
    have hc : Steps p.tables e below (s₁.setTop (entryFrame m #[.ref a, .ref b, .int (Int32.ofNat o), .int (Int32.ofNat len), .null] 6)) (T8.setTop (mkF m 45 #[.val (.ref a), .val (.ref b), .val (.int (Int32.ofNat o)), .val (.int (Int32.ofNat len)), .val .null, .val (.ref s.heap.size)] [.int (Int32.ofNat len), .ref s.heap.size, .ref a])) := c9.trans (by
      refine XS.astore X8.here hexec rfl (hb hbytes d39) rfl rfl rfl ?_
      refine XS.aloadN X8.here hexec rfl (hb hbytes d41) rfl rfl ?_
      refine XS.aload X8.here hexec rfl (hb hbytes d42) rfl rfl ?_
      refine XS.iloadN X8.here hexec rfl (hb hbytes d44) rfl ?_
      exact Steps.refl _)
    rw [n4]; exact hc
  obtain ⟨v11, T11, X11, E11, g11⟩ := X8.callS hexec (CodL.law l s.heap.size N) hown (wks W (staticW "java/lang/String" 47 CodL.yN)) (wk W CodL.tab) (W := 1) (Nat.le_of_ble_eq_true rfl) (Nat.le_of_ble_eq_true rfl) (Nat.le_refl _) (by show 0 + len + 0 ≤ len; omega) (g := (mkF m 45 #[.val (.ref a), .val (.ref b), .val (.int (Int32.ofNat o)), .val (.int (Int32.ofNat len)), .val .null, .val (.ref s.heap.size)] [.int (Int32.ofNat N.slots.size), .ref s.heap.size, .ref a])) rfl (by rw [hml]; rfl) c10 (argsL := [.ref s.heap.size, .int (Int32.ofNat N.slots.size)]) (rest := [.ref a]) rfl rfl (by show 2 * 0 + (1 + 0) ≤ _; decide) (hb hbytes d45) (⟨rfl, n1⟩)
  obtain ⟨rfl, q11⟩ := E11
  have hB11 := hB1.mv (X8.warmed.alike.symm.trans X11.warmed.alike) q11
  have c12 : Steps p.tables e below (s₁.setTop (entryFrame m #[.ref a, .ref b, .int (Int32.ofNat o), .int (Int32.ofNat len), .null] 6)) (T11.setTop (mkF m 48 #[.val (.ref a), .val (.ref b), .val (.int (Int32.ofNat o)), .val (.int (Int32.ofNat len)), .val .null, .val (.ref s.heap.size)] [.int 0, .ref a])) := g11
  obtain ⟨T13, X13, p13, bl13, sl13, st13⟩ := X11.finit hexec hown (wk W (.fieldLink "java/lang/String" 15 "java/lang/String" "coder" "B")) (Or.inr ⟨_, (wk W (.laysFinal "java/lang/String" "java/lang/String" "coder" "B"))⟩) (Or.inl ⟨rfl, hnm⟩) f2 (Or.inl rfl) hB11 (t := .byte) (by decide +kernel) rfl (g := (mkF m 48 #[.val (.ref a), .val (.ref b), .val (.int (Int32.ofNat o)), .val (.int (Int32.ofNat len)), .val .null, .val (.ref s.heap.size)] [.int 0, .ref a])) rfl (rest := []) rfl (hb hbytes d48)
  have c14 : Steps p.tables e below (s₁.setTop (entryFrame m #[.ref a, .ref b, .int (Int32.ofNat o), .int (Int32.ofNat len), .null] 6)) (T13.setTop (mkF m 54 #[.val (.ref a), .val (.ref b), .val (.int (Int32.ofNat o)), .val (.int (Int32.ofNat len)), .val .null, .val (.ref s.heap.size)] [.ref s.heap.size, .ref a])) := (c12.trans (st13 _ (Steps.refl _))).trans (by
    refine XS.aloadN X13.here hexec rfl (hb hbytes d51) rfl rfl ?_
    refine XS.aload X13.here hexec rfl (hb hbytes d52) rfl rfl ?_
    exact Steps.refl _)
  obtain ⟨T15, X15, p15, bl15, sl15, st15⟩ := X13.finit hexec hown (wk W (.fieldLink "java/lang/String" 9 "java/lang/String" "value" "[B")) (Or.inr ⟨_, (wk W (.laysFinal "java/lang/String" "java/lang/String" "value" "[B"))⟩) (Or.inl ⟨rfl, hnm⟩) f1 (Or.inl rfl) bl13 (t := (.array .byte)) (by decide +kernel) rfl (g := (mkF m 54 #[.val (.ref a), .val (.ref b), .val (.int (Int32.ofNat o)), .val (.int (Int32.ofNat len)), .val .null, .val (.ref s.heap.size)] [.ref s.heap.size, .ref a])) rfl (rest := []) rfl (hb hbytes d54)
  have c16 : Steps p.tables e below (s₁.setTop (entryFrame m #[.ref a, .ref b, .int (Int32.ofNat o), .int (Int32.ofNat len), .null] 6)) (T15.setTop (mkF m 57 #[.val (.ref a), .val (.ref b), .val (.int (Int32.ofNat o)), .val (.int (Int32.ofNat len)), .val .null, .val (.ref s.heap.size)] [])) := c14.trans (st15 _ (Steps.refl _))
  have ap := apart (Or.inr ⟨_, (wk W (.laysFinal "java/lang/String" "java/lang/String" "value" "[B"))⟩) (Or.inr ⟨_, (wk W (.laysFinal "java/lang/String" "java/lang/String" "coder" "B"))⟩) f1 f2 (t₁ := .array .byte) (t₂ := .byte) (by decide +kernel) (by decide +kernel) (by decide)
  have al := X8.warmed.alike.symm.trans X15.warmed.alike
  have n7 : T11.heap[s.heap.size]? = some N := by rw [q11]; exact n1.1
  exact ⟨T15, none, _, _, _, X15, by simp, rfl, by omega, (fun _ => rfl), ⟨rfl, _, N, bl15, ((Same.refl D _).set _ (by simp)).set _ (by simp), sl15, (Cell.slots_setSlot_ne _ ap).trans sl13, n1.keep al (p15.other hne (p13.other hne n7)), n2, by rw [al.findClass]; exact n3, n4, n5, fun y c h1 h2 => p15.other h1 (p13.other h1 (by rw [q11]; exact n6 y c h2)), by rw [p15.2.2, p13.2.2, q11]; exact z8⟩, fun fs hl => c16.trans (X15.returnOut hexec hret (hb hbytes d57) hl)⟩
end New4
namespace New1
def yN : MethodName := ⟨"java/lang/String", "<init>", "([C)V"⟩
abbrev yB : ByteArray := jdk_42_method_3_code
theorem d0 : decode yB 0 = .ok (.aload_n 0, 1) := by decide +kernel
theorem d1 : decode yB 1 = .ok (.aload_n 1, 1) := by decide +kernel
theorem d2 : decode yB 2 = .ok (.iconst 0, 1) := by decide +kernel
theorem d3 : decode yB 3 = .ok (.aload_n 1, 1) := by decide +kernel
theorem d4 : decode yB 4 = .ok (.arraylength, 1) := by decide +kernel
theorem d5 : decode yB 5 = .ok (.aconst_null, 1) := by decide +kernel
theorem d6 : decode yB 6 = .ok (.invokespecial 27, 3) := by decide +kernel
theorem d9 : decode yB 9 = .ok (.return_, 1) := by decide +kernel
def site : List Cond := [New4.tab] ++ initW "java/lang/String" 27 New4.yN
def tab : Cond := tabOf yN yB 2 none site
def P (a : Addr) (D : Cell) (fV fC : Field) (b : Addr) (A : Cell) (z : Int32) (args : Array Value) (s : State) : Prop := args = #[.ref a, .ref b] ∧ Blank "java/lang/String" a D s ∧ Found "java/lang/String" "value" "[B" fV s ∧ Found "java/lang/String" "coder" "B" fC s ∧ Ch b A s ∧ StaticIs s "java/lang/String" "COMPACT_STRINGS" "Z" (.int z) ∧ ¬ z = 0 ∧ 0 < A.slots.size ∧ A.slots.size ≤ 536870912 ∧ ∀ i, i < A.slots.size → ¬ 255 < cv A i
def E (a : Addr) (D : Cell) (fV fC : Field) (A : Cell) (r : Option Value) (s u : State) : Prop := Got a D fV fC A 0 A.slots.size r s u
/-- new String(chars), not empty, no char above 255: a Latin-1 String of their low bytes -/
theorem law (l : Launch) (a : Addr) (D : Cell) (fV fC : Field) (b : Addr) (A : Cell) (z : Int32) : Law l yN 2 1 3 52 yB 2 none site (P a D fV fC b A z) (E a D fV fC A) [⟨a, fC.slot⟩, ⟨a, fV.slot⟩] 1 A.slots.size := by
  refine Law.of_walk (plainFor_of_name (by decide +kernel)) (by decide +kernel) (by decide +kernel) (by decide) (fun _ _ h => by rw [h.1]; rfl) (fun _ U U' hal hh h => ⟨h.1, h.2.1.mv hal hh, h.2.2.1.al hal, h.2.2.2.1.al hal, h.2.2.2.2.1.mv hal hh, h.2.2.2.2.2.1.there hal hh, h.2.2.2.2.2.2⟩) (fun r U U' V V' h1 hal h2 h => Got.mv r U U' V V' h1 hal h2 h) ?_
  intro p e s m args below meth c s₁ X0 hexec hbytes hml hret hlk hnm hown hh0 W hP
  obtain ⟨rfl, hB, f1, f2, hA, s1, hz, l0, l2, hp⟩ := hP
  have c1 : Steps p.tables e below (s₁.setTop (entryFrame m #[.ref a, .ref b] 2)) (s₁.setTop (mkF m 0 #[.val (.ref a), .val (.ref b)] [])) := entry rfl
  have c2 : Steps p.tables e below (s₁.setTop (entryFrame m #[.ref a, .ref b] 2)) (s₁.setTop (mkF m 6 #[.val (.ref a), .val (.ref b)] [.null, .int (Int32.ofNat A.slots.size), .int 0, .ref b, .ref a])) := c1.trans (by
    refine XS.aloadN X0.here hexec rfl (hb hbytes d0) rfl rfl ?_
    refine XS.aloadN X0.here hexec rfl (hb hbytes d1) rfl rfl ?_
    refine iconstV X0.here hexec rfl 0 (hb hbytes d2) (by decide) ?_
    refine XS.aloadN X0.here hexec rfl (hb hbytes d3) rfl rfl ?_
    refine X0.alen hexec (hA.1.mv X0.warmed.alike hh0) rfl rfl (hb hbytes d4) ?_
    refine XS.aconstNull X0.here hexec rfl (hb hbytes d5) ?_
    exact Steps.refl _)
  obtain ⟨v3, T3, X3, E3, g3⟩ := X0.callN hexec (New4.law l a D fV fC b A z 0 A.slots.size) rfl hown (wks W (initW "java/lang/String" 27 New4.yN)) (W New4.tab (by simp only [site, List.mem_cons, List.mem_append, true_or, or_true])) (W := 0) (Nat.le_of_ble_eq_true rfl) (Nat.le_of_ble_eq_true rfl) (Nat.le_refl _) (by show 0 + A.slots.size ≤ A.slots.size; omega) (g := (mkF m 6 #[.val (.ref a), .val (.ref b)] [.null, .int (Int32.ofNat A.slots.size), .int (Int32.ofNat 0), .ref b, .ref a])) rfl (by rw [hml]; rfl) c2 (argsL := [.ref b, .int (Int32.ofNat 0), .int (Int32.ofNat A.slots.size), .null]) (rest := []) rfl rfl (by show 2 * 0 + 0 ≤ _; decide) (hb hbytes d6) (⟨rfl, hB.mv X0.warmed.alike hh0, f1.al X0.warmed.alike, f2.al X0.warmed.alike, hA.mv X0.warmed.alike hh0, s1.there X0.warmed.alike hh0, hz, l0, by omega, l2, fun i hi => by rw [Nat.zero_add]; exact hp i hi⟩)
  have e0 := Got.mv _ s₁ s _ _ hh0.symm (Vm.Alike.refl _) rfl E3
  obtain rfl := e0.1
  have c4 : Steps p.tables e below (s₁.setTop (entryFrame m #[.ref a, .ref b] 2)) (T3.setTop (mkF m 9 #[.val (.ref a), .val (.ref b)] [])) := g3
  exact ⟨T3, none, _, _, _, X3, by simp, rfl, by omega, (fun _ => rfl), e0, fun fs hl => c4.trans (X3.returnOut hexec hret (hb hbytes d9) hl)⟩
theorem pays {l : Launch} {R : Room} {p : Program} {e : Env} {below : List Frame} {s : State} {sargs : Array Value} {len W : Nat} (a : Addr) (D : Cell) (fV fC : Field) (b : Addr) (A : Cell) (z : Int32) (htab : tab.before sargs s = true) (hfr : 4 ≤ R.frames) (hlo : W + 65 ≤ R.locals) :
    Back l R p e below s sargs yN len W (fun A₁ a₁ => A₁.cells + 1 ≤ R.cells ∧ A₁.slots + A.slots.size ≤ R.slots ∧ P a D fV fC b A z a₁ A₁.U) (fun A₁ _ v₁ B₁ => E a D fV fC A v₁ A₁.U B₁.U ∧ B₁.locs = A₁.locs ++ [⟨a, fC.slot⟩, ⟨a, fV.slot⟩] ∧ B₁.cells = A₁.cells + 1 ∧ B₁.slots = A₁.slots + A.slots.size) :=
  (law l a D fV fC b A z).pays htab hfr (by omega)
end New1
/-- the byte, read back as charAt reads it, is the char -/
theorem lo8_mask {x : Int32} (h0 : ¬ x < 0) (h1 : ¬ 255 < x) : lo8 x &&& 255 = x := by
  have t : ∀ k : Fin 256, lo8 (Int32.ofNat k.val) &&& 255 = Int32.ofNat k.val := by decide +kernel
  rw [Int32.lt_iff_toInt_lt] at h0 h1
  have e0 : (0 : Int32).toInt = 0 := rfl
  have e1 : (255 : Int32).toInt = 255 := rfl
  obtain ⟨k, hk⟩ : ∃ k : Nat, x.toInt = k := ⟨x.toInt.toNat, by omega⟩
  have hx : x = Int32.ofNat k := Int32.toInt_inj.mp (by rw [hk, Int32.toInt_ofNat_small (by omega)])
  rw [hx]
  exact t ⟨k, by omega⟩
end StrChars
namespace StrChars.Road
open Jvm Sem ClassFile Op Lib Jvm.Stand Jvm.Free Jvm.Free.XT
open Jvm.Lib.Cold (StaticIs)
abbrev ST : String := "java/lang/String"
/-- every table word that New1's law asks, flat -/
abbrev words : List Jvm.Cond := [.code New1.yN New1.yB 2 none, .initialized ST, .methodLink ST 27 New4.yN, .instanceMethod New4.yN,
  .code New4.yN New4.yB 6 none, .fieldLink ST 38 ST "COMPACT_STRINGS" "Z", .laysFinal ST ST "value" "[B", .fieldLink ST 9 ST "value" "[B", .laysFinal ST ST "coder" "B", .fieldLink ST 15 ST "coder" "B",
  .methodLink ST 1 Lib.objectInit, .instanceMethod Lib.objectInit, .code Lib.objectInit ⟨#[0xb1]⟩ 1 none, .methodLink ST 177 Cmp3.yN, .static Cmp3.yN, .methodLink ST 47 CodL.yN, .static CodL.yN,
  .code Cmp3.yN Cmp3.yB 6 (some (.array .byte)), .initialized U16, .arrayClass .byte, .methodLink U16 115 Cmp5.yN, .static Cmp5.yN, .code Cmp5.yN Cmp5.yB 7 (some .int), .code CodL.yN CodL.yB 2 (some .byte)]
theorem tab_of {a : Array Value} {s : State} (h : ∀ w ∈ words, w.before a s = true) : New1.tab.before a s = true := by
  have h5 : Cmp5.tab.before a s = true := unparts (wk h (.code Cmp5.yN Cmp5.yB 7 (some .int))) (wks h (.initialized Cmp5.yN.cls :: Cmp5.site))
  have hc : CodL.tab.before a s = true := unparts (wk h (.code CodL.yN CodL.yB 2 (some .byte))) (wks h (.initialized CodL.yN.cls :: CodL.site))
  have q5 : ∀ w ∈ Cmp5.tab :: words, w.before a s = true := fun w hw => (List.mem_cons.mp hw).elim (fun e => e ▸ h5) (h w)
  have h3 : Cmp3.tab.before a s = true := unparts (wk q5 (.code Cmp3.yN Cmp3.yB 6 (some (.array .byte)))) (wks q5 (.initialized Cmp3.yN.cls :: Cmp3.site))
  have q3 : ∀ w ∈ Cmp3.tab :: CodL.tab :: words, w.before a s = true := fun w hw => (List.mem_cons.mp hw).elim (fun e => e ▸ h3) fun hw => (List.mem_cons.mp hw).elim (fun e => e ▸ hc) (h w)
  have h4 : New4.tab.before a s = true := unparts (wk q3 (.code New4.yN New4.yB 6 none)) (wks q3 (.initialized New4.yN.cls :: New4.site))
  have q4 : ∀ w ∈ New4.tab :: words, w.before a s = true := fun w hw => (List.mem_cons.mp hw).elim (fun e => e ▸ h4) (h w)
  exact unparts (wk q4 (.code New1.yN New1.yB 2 none)) (wks q4 (.initialized New1.yN.cls :: New1.site))
/-- the words ride from the start Z to the walk's own state -/
theorem moved {Z s : State} {a0 args : Array Value} (hZ : Z.Warmed39 s.vm) (hw : ∀ d ∈ words, d.before a0 Z = true) : ∀ d ∈ words, d.before args s = true := fun d hd => by
  have q := hw d hd
  have t : ∀ d ∈ words, d = .arrayClass .byte ∨ (d.onTables && d.keepsFace) = true := by decide +kernel
  rcases t d hd with rfl | t
  · exact RoadKit.mvA hZ q
  · exact RoadKit.mv hZ q t
/-- WHAT COMES BACK, over the tables of the start Z: h the heap at the call, h' behind it -/
def Q (Z : State) (x : Addr) (A : Cell) (h : Heap) (v : Option Value) (h' : Heap) (L : List Loc) : Prop := v = none ∧ (∀ y ∈ L, y.base = x) ∧ RoadKit.Keep h h' [x] ∧ h'.size = h.size + 1 ∧ RoadKit.Exa Z h' x ST ∧ RoadKit.Fld Z h' x ST "value" "[B" (.ref h.size) ∧ RoadKit.Fld Z h' x ST "coder" "B" (.int 0) ∧
  (∃ V : Cell, RoadKit.Arr Z h' h.size V .byte ∧ V.vm = .none ∧ Z.vm.findClass "[B" = some V.cls ∧ V.slots.size = A.slots.size ∧ ∀ j, j < A.slots.size → V.slots[j]? = some (.int (lo8 (cv A j)))) ∧
  ∀ (O n d : String) (w : Value), RoadKit.Fld Z h x O n d w → RoadKit.slotOf Z O n d ≠ RoadKit.slotOf Z ST "value" "[B" → RoadKit.slotOf Z O n d ≠ RoadKit.slotOf Z ST "coder" "B" → RoadKit.Fld Z h' x O n d w
/-- **new String(chars) AT A CALL, IN THE ROAD'S FORM**: for specialBack behind newO: x the fresh String, b the char[] with the cell A -/
theorem back {p : Program} {l : Launch} {e : Env} {R : Room} {s : State} {args : Array Value} {below : List Frame} {len W : Nat} {Z : State} {a0 : Array Value} {h : Heap} (hZ : Z.Warmed39 s.vm) (hw : ∀ d ∈ words, d.before a0 Z = true) {kI : Nat} (wi : (Jvm.Cond.instantiable ST kI).before a0 Z = true)
    {x b : Addr} {A : Cell} {z : Int32} {v0 c0 : Value} (E : RoadKit.Exa Z h x ST) (V : RoadKit.Fld Z h x ST "value" "[B" v0) (C : RoadKit.Fld Z h x ST "coder" "B" c0) (K : RoadKit.Arr Z h b A .char) (hty : Typed .char A) (S : RoadKit.Sta Z h ST "COMPACT_STRINGS" "Z" (.int z)) (hz : ¬ z = 0)
    (l0 : 0 < A.slots.size) (l2 : A.slots.size ≤ 536870912) (hp : ∀ i, i < A.slots.size → ¬ 255 < cv A i) (hfr : 4 ≤ R.frames) (hlo : W + 65 ≤ R.locals) :
    Back l R p e below s args New1.yN len W (fun P a => a = #[.ref x, .ref b] ∧ P.U.heap = h ∧ P.cells + 1 ≤ R.cells ∧ P.slots + A.slots.size ≤ R.slots)
      (fun P _ v B => ∃ L, Q Z x A h v B.U.heap L ∧ B.locs = P.locs ++ L ∧ B.cells = P.cells + 1 ∧ B.slots = P.slots + A.slots.size) := by
  intro m meth c P g ig mk a X hg hsize hdg hW hn hp'
  obtain ⟨rfl, rfl, r1, r2⟩ := hp'
  have al : Z.vm.Alike P.U.vm := hZ.alike.trans X.warmed.alike
  obtain ⟨D, cfV, kV, iV, fV, hD, gV, stV, knV, obV, asV, slV⟩ := id V
  obtain ⟨D', cfC, kC, iC, fC, hD', gC, stC, -, -, asC, slC⟩ := id C
  cases hD.symm.trans hD'
  obtain ⟨D2, kD, e1, e2, e3, e4, e5⟩ := id E
  cases hD.symm.trans e1
  obtain ⟨c2, k2, i1, i2, i3, -⟩ := Cond.instantiable_spec wi
  cases e2.symm.trans i1
  cases e3.symm.trans i2
  obtain ⟨kU, u1, u2⟩ := al.2.2 _ _ e3
  have hB : Blank ST x D P.U := ⟨hD, ⟨knV, fun q hq => by rw [hq] at obV; cases obV⟩, by rw [al.findClass]; exact e2, kU, u1, by rw [u2]; exact i3, by rw [u2]; exact e5 i3⟩
  have F1 : Found ST "value" "[B" fV P.U := ⟨SBG.found_only al ⟨cfV, kV, iV, gV⟩, stV⟩
  have F2 : Found ST "coder" "B" fC P.U := ⟨SBG.found_only al ⟨cfC, kC, iC, gC⟩, stC⟩
  have hA : Ch b A P.U := ⟨⟨K.1, State.isArrayOf_alike al K.2.1, K.2.2, by omega⟩, hty⟩
  have hS : StaticIs P.U ST "COMPACT_STRINGS" "Z" (.int z) := by
    obtain ⟨cfS, iS, kS, fS, st, cS, t1, t2, t3, t4, t5, t6, t7⟩ := S
    exact StaticIs.there (s := { Z with heap := P.U.heap }) ⟨cfS, iS, kS, fS, st, cS, t1, t2, t3, t4, t5, (fun q => by rw [q] at t6; cases t6), t7⟩ al rfl
  obtain ⟨v, B, X', ⟨⟨hv, E', V', q1, q2, q3, q4, q5, q6, q7, q8, q9, q10, q11⟩, hl, hc, hs⟩, st⟩ := New1.pays x D fV fC b A z (tab_of (moved hZ hw)) hfr hlo m meth c P g ig mk _ X hg hsize hdg hW hn ⟨r1, r2, rfl, hB, F1, F2, hA, hS, hz, l0, l2, hp⟩
  have al' : Z.vm.Alike B.U.vm := hZ.alike.trans X'.warmed.alike
  have hsz : E'.slots.size = D.slots.size := by
    obtain ⟨-, -, -, kB, w1, w2, w3⟩ := q1
    obtain ⟨kB', y1, y2⟩ := al'.2.2 _ _ e3
    rw [q2.2.1] at w1
    cases w1.symm.trans y1
    rw [w3, e5 i3, y2]
  refine ⟨v, B, X', ⟨_, ⟨hv, ?_, ⟨by omega, fun y cy hy hn' => q10 y cy (by simpa using hn') hy, fun y cy hy => ?_⟩, q11, ⟨E', _, q1.1, by rw [q2.2.1]; exact e2, by rw [q2.2.1]; exact e3, by rw [q2.1]; exact obV, fun _ => by rw [hsz]; exact e5 i3⟩,
    ⟨E', cfV, kV, iV, fV, q1.1, gV, stV, by rw [q2.1]; exact knV, by rw [q2.1]; exact obV, by rw [q2.2.1]; exact asV, q3⟩, ⟨E', cfC, kC, iC, fC, q1.1, gC, stC, by rw [q2.1]; exact knV, by rw [q2.1]; exact obV, by rw [q2.2.1]; exact asC, q4⟩,
    ⟨V', ⟨q5.1, State.isArrayOf_alike al'.symm q5.2.1, q5.2.2.1⟩, q6, by rw [← al'.findClass]; exact q7, q8, fun j hj => by have := q9 j hj; rwa [Nat.zero_add] at this⟩, fun O n d w F n1 n2 => ?_⟩, hl, hc, hs⟩, st⟩
  · intro y hy
    simp only [List.mem_cons, List.not_mem_nil, or_false] at hy
    rcases hy with rfl | rfl <;> rfl
  · by_cases q : y = x
    · subst q
      cases hD.symm.trans hy
      exact ⟨E', q1.1, q2.2.1, q2.1, hsz⟩
    · exact ⟨cy, q10 y cy q hy, rfl, rfl, rfl⟩
  · obtain ⟨D3, cf, k, i, f, g1, g2, g3, g4, g5, g6, g7⟩ := F
    cases hD.symm.trans g1
    simp only [RoadKit.slotOf, g2, gV, gC, Option.map_some, Option.getD_some] at n1 n2
    exact ⟨E', cf, k, i, f, q1.1, g2, g3, by rw [q2.1]; exact g4, by rw [q2.1]; exact g5, by rw [q2.2.1]; exact g6, by rw [q2.2.2 f.slot (by simp [n1, n2])]; exact g7⟩
end StrChars.Road
namespace StrChars.Road
open Jvm Sem ClassFile Op Lib Jvm.Stand Jvm.Free Jvm.Free.XT
/-- WHAT COMES BACK, the byte[] as a list of values -/
def QA (Z : State) (x : Addr) (zn : Int32) (cs : List Int32) (h : Heap) (v : Option Value) (h' : Heap) (L : List Loc) : Prop := v = none ∧ (∀ y ∈ L, y.base = x) ∧ RoadKit.Keep h h' [x] ∧ h'.size = h.size + 1 ∧ RoadKit.Exa Z h' x ST ∧ RoadKit.Fld Z h' x ST "value" "[B" (.ref h.size) ∧ RoadKit.Fld Z h' x ST "coder" "B" (.int 0) ∧
  (∃ kb, Z.vm.findClass "[B" = some kb ∧ RoadKit.Arv Z h' h.size kb .byte zn (cs.map fun c => .int (lo8 c)) (.int 0)) ∧
  ∀ (O n d : String) (w : Value), RoadKit.Fld Z h x O n d w → RoadKit.slotOf Z O n d ≠ RoadKit.slotOf Z ST "value" "[B" → RoadKit.slotOf Z O n d ≠ RoadKit.slotOf Z ST "coder" "B" → RoadKit.Fld Z h' x O n d w
/-- **new String(chars) AT A CALL, THE ARRAYS AS LISTS**: the char[] at b holds cs, not empty, no char above 255 -/
theorem backArv {p : Program} {l : Launch} {e : Env} {R : Room} {s : State} {args : Array Value} {below : List Frame} {len W : Nat} {Z : State} {a0 : Array Value} {h : Heap} (hZ : Z.Warmed39 s.vm) (hw : ∀ d ∈ words, d.before a0 Z = true) {kI : Nat} (wi : (Jvm.Cond.instantiable ST kI).before a0 Z = true)
    {x b : Addr} {k : ClassId} {zn z : Int32} {cs : List Int32} {dv v0 c0 : Value} (E : RoadKit.Exa Z h x ST) (V : RoadKit.Fld Z h x ST "value" "[B" v0) (C : RoadKit.Fld Z h x ST "coder" "B" c0) (K : RoadKit.Arv Z h b k .char zn (cs.map Value.int) dv) (S : RoadKit.Sta Z h ST "COMPACT_STRINGS" "Z" (.int z)) (hz : ¬ z = 0)
    (hlen : zn.toNatClampNeg = cs.length) (h0 : 0 < cs.length) (hbig : cs.length ≤ 536870912) (hall : ∀ c ∈ cs, ¬ 255 < c) (hfr : 4 ≤ R.frames) (hlo : W + 65 ≤ R.locals) :
    Back l R p e below s args New1.yN len W (fun P a => a = #[.ref x, .ref b] ∧ P.U.heap = h ∧ P.cells + 1 ≤ R.cells ∧ P.slots + cs.length ≤ R.slots)
      (fun P _ v B => ∃ L, QA Z x zn cs h v B.U.heap L ∧ B.locs = P.locs ++ L ∧ B.cells = P.cells + 1 ∧ B.slots = P.slots + cs.length) := by
  obtain ⟨A, K1, K2, K3, K4, K5, K6⟩ := K
  have e : A.slots.size = cs.length := K3.trans hlen
  have hat : ∀ (i : Nat) (hi : i < cs.length), A.slots[i]? = some (.int cs[i]) := fun i hi => by rw [K5 i (by omega)]; simp [List.getD_eq_getElem?_getD, hi]
  have hcv : ∀ (i : Nat) (hi : i < cs.length), cv A i = cs[i] := fun i hi => by unfold cv; rw [hat i hi]
  have hty : Typed .char A := fun i v hv => by
    have hi : i < A.slots.size := (Array.getElem?_eq_some_iff.mp hv).1
    have q := K5 i hi
    rw [hv] at q
    rw [Option.some.inj q]
    exact K6 i hi
  refine Back.mono (back hZ hw wi E V C K1 hty S hz (by omega) (by omega) (fun i hi => by rw [hcv i (by omega)]; exact hall _ (List.getElem_mem _)) hfr hlo) (fun P a hp => ⟨hp.1, hp.2.1, hp.2.2.1, by rw [e]; exact hp.2.2.2⟩) (fun P a v B hp hq => ?_)
  obtain ⟨L, ⟨q1, q2, q3, q4, q5, q6, q7, ⟨V', v1, v2, v3, v4, v5⟩, q9⟩, hl, hc, hs⟩ := hq
  refine ⟨L, ⟨q1, q2, q3, q4, q5, q6, q7, ⟨V'.cls, v3, V', v1, rfl, by rw [v4, e, hlen], K4, fun i hi => ?_, fun i hi => ?_⟩, q9⟩, hl, hc, by rw [hs, e]⟩
  · have hi' : i < cs.length := by omega
    rw [v5 i (by omega), hcv i hi']; simp [List.getD_eq_getElem?_getD, hi']
  · have hi' : i < cs.length := by omega
    simp only [List.getD_eq_getElem?_getD, List.getElem?_map, List.getElem?_eq_getElem hi', Option.map_some, Option.getD_some]
    exact fits_lo8 _
end StrChars.Road
namespace StrChars.Road
open Jvm Sem ClassFile Op Lib Jvm.Stand Jvm.Free Jvm.Free.XT
/-- WHAT COMES BACK, in the writer's own shape -/
def QV (Z : State) (x : Addr) (N : Int32) (bs : List Int32) (h : Heap) (n0 : Nat) (v : Option Value) (h' : Heap) (L : List Loc) : Prop := v = none ∧ RoadKit.Fr n0 L ∧ RoadKit.Keep h h' [x] ∧ RoadKit.Exa Z h' x ST ∧ RoadKit.Fld Z h' x ST "coder" "B" (.int 0) ∧
  ∃ (t : Addr) (kb : ClassId), n0 ≤ t ∧ h.size ≤ t ∧ ¬ t = x ∧ RoadKit.Fld Z h' x ST "value" "[B" (.ref t) ∧ RoadKit.Arv Z h' t kb .byte N (bs.map Value.int) (.int 0)
/-- **new String(chars) AT A CALL, FOR THE WRITER**: a char[] of n known ints, each 0 to 255 -/
theorem backV {p : Program} {l : Launch} {e : Env} {R : Room} {s : State} {args : Array Value} {below : List Frame} {len W : Nat} {Z : State} {a0 : Array Value} {h : Heap} (hZ : Z.Warmed39 s.vm) (hw : ∀ d ∈ words, d.before a0 Z = true) {kI : Nat} (wi : (Jvm.Cond.instantiable ST kI).before a0 Z = true)
    {x b : Addr} {kC : ClassId} {cs bs : List Int32} {d v0 c0 : Value} {z N : Int32} {n n0 : Nat} (hx0 : n0 ≤ x) (hh0 : n0 ≤ h.size) (E : RoadKit.Exa Z h x ST) (V : RoadKit.Fld Z h x ST "value" "[B" v0) (C : RoadKit.Fld Z h x ST "coder" "B" c0) (K : RoadKit.Arv Z h b kC .char N (cs.map Value.int) d) (S : RoadKit.Sta Z h ST "COMPACT_STRINGS" "Z" (.int z)) (hz : ¬ z = 0)
    (hn : cs.length = n) (hN : N = Int32.ofNat n) (l0 : 0 < n) (l2 : n ≤ 4000) (hp : ∀ c ∈ cs, ¬ c < 0 ∧ ¬ (255 : Int32) < c) (hb : bs = cs.map (fun c => c.toInt8.toInt32)) (hfr : 4 ≤ R.frames) (hlo : W + 65 ≤ R.locals) :
    Back l R p e below s args (⟨"java/lang/String", "<init>", "([C)V"⟩ : MethodName) len W (fun P a => a = #[.ref x, .ref b] ∧ P.U.heap = h ∧ P.cells + 1 ≤ R.cells ∧ P.slots + n ≤ R.slots)
      (fun P _ v B => ∃ L, QV Z x N bs h n0 v B.U.heap L ∧ B.locs = P.locs ++ L ∧ B.cells = P.cells + 1 ∧ B.slots = P.slots + n) := by
  subst hn hN hb
  refine Back.mono (backArv hZ hw wi E V C K S hz (n32 (by omega)) l0 (by omega) (fun c hc => (hp c hc).2) hfr hlo) (fun P a hp => hp) (fun P a v B hp hq => ?_)
  obtain ⟨L, ⟨q1, q2, q3, q4, q5, q6, q7, ⟨kb, v1, v2⟩, q9⟩, hl, hc, hs⟩ := hq
  exact ⟨L, ⟨q1, fun y hy => by rw [q2 y hy]; exact hx0, q3, q5, q7, h.size, kb, hh0, Nat.le_refl _, Nat.ne_of_gt E.lt, q6, by rw [List.map_map]; exact v2⟩, hl, hc, hs⟩
end StrChars.Road
namespace StrChars
open Jvm Sem ClassFile Op Lib Jvm.Stand Jvm.Free.XT Jvm.Free.ALB Jvm.Free.JM Jvm.Free
open Jvm.Lib.Cold (StaticIs)
def hi8 (x : Int32) : Int32 := lo8 (x >>> ((8 : Int32) &&& 31))
/-- what StringUTF16.getChar makes of two bytes -/
def pairCh (u v : Int32) : Int32 := (((u &&& 255) <<< ((0 : Int32) &&& 31)) ||| ((v &&& 255) <<< ((8 : Int32) &&& 31))).toUInt32.toUInt16.toUInt32.toInt32
theorem shr0 (c : Int32) : c >>> ((0 : Int32) &&& 31) = c := by
  have e : ((0 : Int32) &&& 31) = 0 := by decide
  rw [e]
  apply Int32.toBitVec_inj.mp
  rw [Int32.toBitVec_shiftRight]
  have e1 : ((0 : Int32).toBitVec.smod 32) = 0#32 := by decide
  rw [e1, BitVec.sshiftRight_eq']
  exact BitVec.sshiftRight_zero
theorem lo8_and (x : Int32) : (lo8 x &&& 255).toBitVec.toNat = x.toBitVec.toNat % 256 := by
  have h : (lo8 x).toBitVec = (x.toBitVec.signExtend 8).signExtend 32 := by rw [lo8, Int8.toBitVec_toInt32, Int32.toBitVec_toInt8]
  rw [Int32.toBitVec_and, BitVec.toNat_and, h]
  have e : ((x.toBitVec.signExtend 8).signExtend 32).toNat % 256 = x.toBitVec.toNat % 256 := by
    rw [BitVec.toNat_signExtend]
    have hlt := x.toBitVec.isLt
    simp only [BitVec.toNat_setWidth, BitVec.toNat_signExtend]
    split <;> split <;> omega
  rw [← e]
  exact Nat.and_two_pow_sub_one_eq_mod _ 8
theorem pair_says {c : Int32} (h0 : ¬ c < 0) (h1 : ¬ 65535 < c) : pairCh (lo8 c) (hi8 c) = c := by
  rw [Int32.lt_iff_toInt_lt] at h0 h1
  have e0 : (0 : Int32).toInt = 0 := rfl
  have e1 : (65535 : Int32).toInt = 65535 := rfl
  have hc : c.toInt = c.toBitVec.toNat := by
    have := c.toBitVec.isLt
    have e : c.toInt = c.toBitVec.toInt := rfl
    rw [e] at h0 h1
    rw [e]
    rw [BitVec.toInt_eq_toNat_cond] at h0 h1 ⊢
    split at h0 <;> split <;> omega
  have hn : c.toBitVec.toNat < 65536 := by omega
  have a1 := lo8_and c
  have a2 : (hi8 c &&& 255).toBitVec.toNat = c.toBitVec.toNat / 256 := by
    rw [hi8, lo8_and]
    have e : ((8 : Int32) &&& 31) = 8 := by decide
    rw [e, Int32.toBitVec_shiftRight]
    have e2 : ((8 : Int32).toBitVec.smod 32) = 8#32 := by decide
    rw [e2, BitVec.sshiftRight_eq', BitVec.toNat_sshiftRight_of_msb_false (by rw [BitVec.msb_eq_false_iff_two_mul_lt]; omega)]
    show c.toBitVec.toNat >>> 8 % 256 = _
    rw [Nat.shiftRight_eq_div_pow]
    omega
  unfold pairCh
  apply Int32.toBitVec_inj.mp
  apply BitVec.eq_of_toNat_eq
  have f0 : ((0 : Int32) &&& 31) = 0 := by decide
  have f8 : ((8 : Int32) &&& 31) = 8 := by decide
  rw [f0, f8]
  have g : (((lo8 c &&& 255) <<< (0 : Int32)) ||| ((hi8 c &&& 255) <<< (8 : Int32))).toBitVec.toNat = c.toBitVec.toNat := by
    rw [Int32.toBitVec_or, Int32.toBitVec_shiftLeft, Int32.toBitVec_shiftLeft]
    have s0 : ((0 : Int32).toBitVec.smod 32) = 0#32 := by decide
    have s8 : ((8 : Int32).toBitVec.smod 32) = 8#32 := by decide
    rw [s0, s8, BitVec.toNat_or]
    simp only [BitVec.shiftLeft_eq', BitVec.toNat_shiftLeft, a1, a2]
    show (c.toBitVec.toNat % 256) <<< 0 % 2 ^ 32 ||| (c.toBitVec.toNat / 256) <<< 8 % 2 ^ 32 = _
    rw [Nat.shiftLeft_zero, Nat.mod_eq_of_lt (show c.toBitVec.toNat % 256 < 2 ^ 32 by omega), Nat.mod_eq_of_lt (show (c.toBitVec.toNat / 256) <<< 8 < 2 ^ 32 by rw [Nat.shiftLeft_eq]; omega), Nat.or_comm, ← Nat.shiftLeft_add_eq_or_of_lt (by omega), Nat.shiftLeft_eq]
    omega
  show BitVec.toNat (((((lo8 c &&& 255) <<< (0 : Int32)) ||| ((hi8 c &&& 255) <<< (8 : Int32))).toBitVec.setWidth 16).setWidth 32) = _
  rw [BitVec.toNat_setWidth, BitVec.toNat_setWidth, g]
  omega
end StrChars
namespace StrChars
open Jvm Sem ClassFile Op Lib Jvm.Stand Jvm.Free.XT Jvm.Free.ALB Jvm.Free.JM Jvm.Free
open Jvm.Lib.Cold (StaticIs)
theorem shr1 {n : Nat} (h : 2 * n < 2 ^ 31) : Int32.ofNat (2 * n) >>> ((1 : Int32) &&& 31) = Int32.ofNat n := by
  have e : ((1 : Int32) &&& 31) = 1 := by decide
  rw [e]
  apply Int32.toBitVec_inj.mp
  rw [Int32.toBitVec_shiftRight]
  have e1 : ((1 : Int32).toBitVec.smod 32) = 1#32 := by decide
  have hm : (BitVec.ofNat 32 (2 * n)).toNat = 2 * n := by rw [BitVec.toNat_ofNat, Nat.mod_eq_of_lt (by omega)]
  rw [e1, BitVec.sshiftRight_eq']
  apply BitVec.eq_of_toNat_eq
  show ((BitVec.ofNat 32 (2 * n)).sshiftRight 1).toNat = (BitVec.ofNat 32 n).toNat
  rw [BitVec.toNat_sshiftRight_of_msb_false (by rw [BitVec.msb_eq_false_iff_two_mul_lt, hm]; omega), hm, BitVec.toNat_ofNat, Nat.shiftRight_eq_div_pow]
  omega
/-- charAt's cast of a byte read back -/
def chr8 (u : Int32) : Int32 := (u &&& 255).toUInt32.toUInt16.toUInt32.toInt32
theorem chr8_lo8 {c : Int32} (h0 : ¬ c < 0) (h1 : ¬ 255 < c) : chr8 (lo8 c) = c := by
  have t : ∀ k : Fin 256, (Int32.ofNat k.val).toUInt32.toUInt16.toUInt32.toInt32 = Int32.ofNat k.val := by decide +kernel
  unfold chr8
  rw [lo8_mask h0 h1]
  rw [Int32.lt_iff_toInt_lt] at h0 h1
  have e0 : (0 : Int32).toInt = 0 := rfl
  have e1 : (255 : Int32).toInt = 255 := rfl
  obtain ⟨k, hk⟩ : ∃ k : Nat, c.toInt = k := ⟨c.toInt.toNat, by omega⟩
  have hx : c = Int32.ofNat k := Int32.toInt_inj.mp (by rw [hk, Int32.toInt_ofNat_small (by omega)])
  rw [hx]
  exact t ⟨k, by omega⟩
theorem narrow_ch {c : Int32} (h0 : ¬ c < 0) (h1 : ¬ 65535 < c) : narrow .char (.int c) = .int c := by
  have q : narrow .char (.int (pairCh (lo8 c) (hi8 c))) = .int (pairCh (lo8 c) (hi8 c)) := narrow_c _
  rwa [pair_says h0 h1] at q
/-- the array's cell V codes the n chars f 0 .. f (n - 1) by the coder cd, as the JDK does: coder 1 just where some char is above 255 -/
def Cod (cd : Int32) (n : Nat) (f : Nat → Int32) (V : Cell) : Prop := (cd = 0 ∧ V.slots.size = n ∧ ∀ j, j < n → V.slots[j]? = some (.int (lo8 (f j))) ∧ ¬ 255 < f j) ∨ (cd = 1 ∧ V.slots.size = 2 * n ∧ (∀ j, j < n → V.slots[2 * j]? = some (.int (lo8 (f j))) ∧ V.slots[2 * j + 1]? = some (.int (hi8 (f j)))) ∧ ∃ j, j < n ∧ 255 < f j)
/-- **x is a String of the n chars f 0 .. f (n - 1)**, Latin-1 or UTF-16; its array at t has the cell V -/
def Txt (x t : Addr) (V : Cell) (cd : Int32) (n : Nat) (f : Nat → Int32) (U : State) : Prop := Exact "java/lang/String" x U ∧ Has x "java/lang/String" "value" "[B" (.ref t) U ∧ Has x "java/lang/String" "coder" "B" (.int cd) U ∧ XT.Arr .byte t V U ∧ Cod cd n f V ∧ ∀ j, j < n → ¬ f j < 0 ∧ ¬ 65535 < f j
theorem Txt.mv {x t : Addr} {V : Cell} {cd : Int32} {n : Nat} {f : Nat → Int32} {U U' : State} (h : Txt x t V cd n f U) (hal : U.vm.Alike U'.vm) (hh : U'.heap = U.heap) : Txt x t V cd n f U' := ⟨h.1.mv hal hh, h.2.1.mv hal hh, h.2.2.1.mv hal hh, h.2.2.2.1.mv hal hh, h.2.2.2.2⟩
end StrChars
namespace StrChars.Road
open Jvm Sem ClassFile Op Lib Jvm.Stand Jvm.Free Jvm.Free.XT
open Jvm.Lib.Cold (StaticIs)
theorem consq {a : Array Value} {s : State} {c : Jvm.Cond} {L : List Jvm.Cond} (h0 : c.before a s = true) (h : ∀ w ∈ L, w.before a s = true) : ∀ w ∈ c :: L, w.before a s = true := fun w hw => (List.mem_cons.mp hw).elim (fun e => e ▸ h0) (h w)
/-- the bytes of the chars cs, low before high -/
def wideBytes : List Int32 → List Value
  | [] => []
  | c :: cs => .int (lo8 c) :: .int (hi8 c) :: wideBytes cs
theorem wide_lo (d : Value) : ∀ (cs : List Int32) (j : Nat), j < cs.length → (wideBytes cs).getD (2 * j) d = .int (lo8 (cs.getD j 0))
  | [], j, h => absurd h (Nat.not_lt_zero j)
  | c :: cs, 0, _ => rfl
  | c :: cs, j + 1, h => by
    have q := wide_lo d cs j (by simpa using h)
    rw [show 2 * (j + 1) = 2 * j + 1 + 1 from by omega]
    simpa [wideBytes] using q
theorem wide_hi (d : Value) : ∀ (cs : List Int32) (j : Nat), j < cs.length → (wideBytes cs).getD (2 * j + 1) d = .int (hi8 (cs.getD j 0))
  | [], j, h => absurd h (Nat.not_lt_zero j)
  | c :: cs, 0, _ => rfl
  | c :: cs, j + 1, h => by
    have q := wide_hi d cs j (by simpa using h)
    rw [show 2 * (j + 1) + 1 = 2 * j + 1 + 1 + 1 from by omega]
    simpa [wideBytes] using q
theorem low_at (d : Value) (cs : List Int32) (j : Nat) (h : j < cs.length) : (cs.map fun c => Value.int (lo8 c)).getD j d = .int (lo8 (cs.getD j 0)) := by
  simp [List.getD_eq_getElem?_getD, h]
/-- an array of N2 bytes vs codes the chars cs by the coder cd -/
def CodA (cs : List Int32) (cd N2 : Int32) (vs : List Value) : Prop := (cd = 0 ∧ N2 = Int32.ofNat cs.length ∧ vs = (cs.map fun c => Value.int (lo8 c)) ∧ ∀ c ∈ cs, ¬ 255 < c) ∨ (cd = 1 ∧ N2 = Int32.ofNat (2 * cs.length) ∧ vs = wideBytes cs ∧ ∃ c ∈ cs, 255 < c)
theorem CodA.cod {cs : List Int32} {cd N2 : Int32} {vs : List Value} {V : Cell} (h : CodA cs cd N2 vs) (hn : 2 * cs.length < 2 ^ 31) (hs : V.slots.size = N2.toNatClampNeg) (hv : RoadKit.Has V vs (.int 0)) : Cod cd cs.length (fun j => cs.getD j 0) V := by
  rcases h with ⟨rfl, rfl, rfl, h⟩ | ⟨rfl, rfl, rfl, c, hc, hw⟩
  · rw [n32 (by omega)] at hs
    exact Or.inl ⟨rfl, hs, fun j hj => ⟨by rw [hv j (by omega), low_at _ _ _ hj], by
      have e : cs.getD j 0 = cs[j] := by simp [List.getD_eq_getElem?_getD, hj]
      show ¬ 255 < cs.getD j 0
      rw [e]; exact h _ (List.getElem_mem _)⟩⟩
  · rw [n32 (by omega)] at hs
    obtain ⟨j, hj, rfl⟩ := List.getElem_of_mem hc
    exact Or.inr ⟨rfl, hs, fun j hj => ⟨by rw [hv _ (by omega), wide_lo _ _ _ hj], by rw [hv _ (by omega), wide_hi _ _ _ hj]⟩, j, hj, by
      have e : cs.getD j 0 = cs[j] := by simp [List.getD_eq_getElem?_getD, hj]
      show 255 < cs.getD j 0
      rw [e]; exact hw⟩
/-- an object of exactly java/lang/String, its two fields found: as the laws ask it -/
theorem strObj {Z U : State} {a0 : Array Value} {kI : Nat} (wi : (Jvm.Cond.instantiable ST kI).before a0 Z = true) (al : Z.vm.Alike U.vm) {x : Addr} {v0 c0 : Value} (E : RoadKit.Exa Z U.heap x ST) (V : RoadKit.Fld Z U.heap x ST "value" "[B" v0) (C : RoadKit.Fld Z U.heap x ST "coder" "B" c0) :
    ∃ (D : Cell) (fV fC : Field), Blank ST x D U ∧ Found ST "value" "[B" fV U ∧ Found ST "coder" "B" fC U ∧ D.slots[fV.slot]? = some v0 ∧ D.slots[fC.slot]? = some c0 ∧ RoadKit.slotOf Z ST "value" "[B" = fV.slot ∧ RoadKit.slotOf Z ST "coder" "B" = fC.slot := by
  obtain ⟨D, cfV, kV, iV, fV, hD, gV, stV, knV, obV, asV, slV⟩ := V
  obtain ⟨D', cfC, kC, iC, fC, hD', gC, stC, -, -, asC, slC⟩ := C
  cases hD.symm.trans hD'
  obtain ⟨D2, kD, e1, e2, e3, e4, e5⟩ := E
  cases hD.symm.trans e1
  obtain ⟨c2, k2, i1, i2, i3, -⟩ := Cond.instantiable_spec wi
  cases e2.symm.trans i1
  cases e3.symm.trans i2
  obtain ⟨kU, u1, u2⟩ := al.2.2 _ _ e3
  exact ⟨D, fV, fC, ⟨hD, ⟨knV, fun q hq => by rw [hq] at obV; cases obV⟩, by rw [al.findClass]; exact e2, kU, u1, by rw [u2]; exact i3, by rw [u2]; exact e5 i3⟩, ⟨SBG.found_only al ⟨cfV, kV, iV, gV⟩, stV⟩, ⟨SBG.found_only al ⟨cfC, kC, iC, gC⟩, stC⟩, slV, slC, by simp [RoadKit.slotOf, gV], by simp [RoadKit.slotOf, gC]⟩
theorem sta_is {Z U : State} (al : Z.vm.Alike U.vm) {C n d : String} {v : Value} (S : RoadKit.Sta Z U.heap C n d v) : StaticIs U C n d v := by
  obtain ⟨cfS, iS, kS, fS, st, cS, t1, t2, t3, t4, t5, t6, t7⟩ := S
  exact StaticIs.there (s := { Z with heap := U.heap }) ⟨cfS, iS, kS, fS, st, cS, t1, t2, t3, t4, t5, (fun q => by rw [q] at t6; cases t6), t7⟩ al rfl
end StrChars.Road
namespace StrChars
open Jvm Sem ClassFile Op Lib Jvm.Stand Jvm.Free.XT Jvm.Free.ALB Jvm.Free.JM Jvm.Free
open Jvm.Lib.Cold (StaticIs)
/-- what place i of a byte[]'s cell holds -/
def yv (A : Cell) (i : Nat) : Int32 := match A.slots[i]? with | some (.int x) => x | _ => 0
theorem yv_get {a : Addr} {A : Cell} {U : State} (h : XT.Arr .byte a A U) (ht : Typed .byte A) {i : Nat} (hi : i < A.slots.size) : A.slots[i]? = some (.int (yv A i)) := by
  have e := Array.getElem?_eq_getElem hi
  have f := ht i _ e
  unfold yv; rw [e]
  generalize A.slots[i] = v at f
  cases v <;> simp [fits] at f ⊢
/-- the two arrays are equal, place for place -/
def EqC (A B : Cell) : Prop := A.slots.size = B.slots.size ∧ ∀ i, i < A.slots.size → yv A i = yv B i
/-- a boolean that says whether p -/
def Says01 (q : Prop) (r : Option Value) (s u : State) : Prop := ∃ v : Int32, r = some (.int v) ∧ u.heap = s.heap ∧ ((v = 1 ∧ q) ∨ (v = 0 ∧ ¬ q))
theorem Says01.mv {q : Prop} : ∀ r (U U' V V' : State), U'.heap = U.heap → V.vm.Alike V'.vm → V'.heap = V.heap → Says01 q r U V → Says01 q r U' V' :=
  fun r U U' V V' h1 _ h2 ⟨v, a, b, c⟩ => ⟨v, a, by rw [h1, h2]; exact b, c⟩
namespace LEq
def yN : MethodName := ⟨"java/lang/StringLatin1", "equals", "([B[B)Z"⟩
abbrev yB : ByteArray := jdk_43_method_13_code
theorem d0 : decode yB 0 = .ok (.aload_n 0, 1) := by decide +kernel
theorem d1 : decode yB 1 = .ok (.arraylength, 1) := by decide +kernel
theorem d2 : decode yB 2 = .ok (.aload_n 1, 1) := by decide +kernel
theorem d3 : decode yB 3 = .ok (.arraylength, 1) := by decide +kernel
theorem d4 : decode yB 4 = .ok (.if_icmp (.ne) 30, 3) := by decide +kernel
theorem d7 : decode yB 7 = .ok (.iconst 0, 1) := by decide +kernel
theorem d8 : decode yB 8 = .ok (.istore_n 2, 1) := by decide +kernel
theorem d9 : decode yB 9 = .ok (.iload_n 2, 1) := by decide +kernel
theorem d10 : decode yB 10 = .ok (.aload_n 0, 1) := by decide +kernel
theorem d11 : decode yB 11 = .ok (.arraylength, 1) := by decide +kernel
theorem d12 : decode yB 12 = .ok (.if_icmp (.ge) 20, 3) := by decide +kernel
theorem d15 : decode yB 15 = .ok (.aload_n 0, 1) := by decide +kernel
theorem d16 : decode yB 16 = .ok (.iload_n 2, 1) := by decide +kernel
theorem d17 : decode yB 17 = .ok (.baload, 1) := by decide +kernel
theorem d18 : decode yB 18 = .ok (.aload_n 1, 1) := by decide +kernel
theorem d19 : decode yB 19 = .ok (.iload_n 2, 1) := by decide +kernel
theorem d20 : decode yB 20 = .ok (.baload, 1) := by decide +kernel
theorem d21 : decode yB 21 = .ok (.if_icmp (.eq) 5, 3) := by decide +kernel
theorem d24 : decode yB 24 = .ok (.iconst 0, 1) := by decide +kernel
theorem d25 : decode yB 25 = .ok (.ireturn, 1) := by decide +kernel
theorem d26 : decode yB 26 = .ok (.iinc 2 1, 3) := by decide +kernel
theorem d29 : decode yB 29 = .ok (.goto (-20), 3) := by decide +kernel
theorem d32 : decode yB 32 = .ok (.iconst 1, 1) := by decide +kernel
theorem d33 : decode yB 33 = .ok (.ireturn, 1) := by decide +kernel
theorem d34 : decode yB 34 = .ok (.iconst 0, 1) := by decide +kernel
theorem d35 : decode yB 35 = .ok (.ireturn, 1) := by decide +kernel
def site : List Cond := []
def tab : Cond := tabOf yN yB 3 (some .boolean) site
def P (a : Addr) (A : Cell) (b : Addr) (B : Cell) (args : Array Value) (s : State) : Prop := args = #[.ref a, .ref b] ∧ XT.Arr .byte a A s ∧ Typed .byte A ∧ XT.Arr .byte b B s ∧ Typed .byte B
/-- whether two byte[] are equal, place for place -/
theorem law (l : Launch) (a : Addr) (A : Cell) (b : Addr) (B : Cell) : Law l yN 2 2 0 0 yB 3 (some .boolean) site (P a A b B) (Says01 (EqC A B)) [] 0 0 := by
  refine Law.of_walk (plainFor_of_name (by decide +kernel)) (by decide +kernel) (by decide +kernel) (by decide) (fun _ _ h => by rw [h.1]; rfl) (fun _ U U' hal hh h => ⟨h.1, h.2.1.mv hal hh, h.2.2.1, h.2.2.2.1.mv hal hh, h.2.2.2.2⟩) (fun r U U' V V' h1 hal h2 h => Says01.mv r U U' V V' h1 hal h2 h) ?_
  intro p e s m args below meth c s₁ X0 hexec hbytes hml hret hlk hnm hown hh0 W hP
  obtain ⟨rfl, hA, tA, hB, tB⟩ := hP
  have a31 := hA.2.2.2
  have b31 := hB.2.2.2
  have hA0 := hA.mv X0.warmed.alike hh0
  have hB0 := hB.mv X0.warmed.alike hh0
  have c1 : Steps p.tables e below (s₁.setTop (entryFrame m #[.ref a, .ref b] 3)) (s₁.setTop (mkF m 0 #[.val (.ref a), .val (.ref b), .unset] [])) := entry rfl
  have c2 : Steps p.tables e below (s₁.setTop (entryFrame m #[.ref a, .ref b] 3)) (s₁.setTop (mkF m 4 #[.val (.ref a), .val (.ref b), .unset] [.int (Int32.ofNat B.slots.size), .int (Int32.ofNat A.slots.size)])) := c1.trans (by
    refine XS.aloadN X0.here hexec rfl (hb hbytes d0) rfl rfl ?_
    refine X0.alen hexec hA0 rfl rfl (hb hbytes d1) ?_
    refine XS.aloadN X0.here hexec rfl (hb hbytes d2) rfl rfl ?_
    refine X0.alen hexec hB0 rfl rfl (hb hbytes d3) ?_
    exact Steps.refl _)
  by_cases hs : A.slots.size = B.slots.size
  · have c3 : Steps p.tables e below (s₁.setTop (entryFrame m #[.ref a, .ref b] 3)) (s₁.setTop (mkF m 9 #[.val (.ref a), .val (.ref b), .val (.int 0)] [])) := c2.trans (by
      refine XS.icmpNo X0.here hexec rfl (hb hbytes d4) rfl (ii_ne_f (by rw [hs])) ?_
      refine iconstV X0.here hexec rfl 0 (hb hbytes d7) (by decide) ?_
      refine XS.istoreN X0.here hexec rfl (hb hbytes d8) rfl rfl ?_
      exact Steps.refl _)
    have loop : ∀ (r i : Nat), i + r = A.slots.size → (∀ j, j < i → yv A j = yv B j) → Steps p.tables e below (s₁.setTop (entryFrame m #[.ref a, .ref b] 3)) (s₁.setTop (mkF m 9 #[.val (.ref a), .val (.ref b), .val (.int (Int32.ofNat i))] [])) → ∃ (pc : Nat) (Ls : Array Slot) (v : Int32), (pc = 25 ∨ pc = 33) ∧ ((v = 1 ∧ EqC A B) ∨ (v = 0 ∧ ¬ EqC A B)) ∧ Steps p.tables e below (s₁.setTop (entryFrame m #[.ref a, .ref b] 3)) (s₁.setTop (mkF m pc Ls [.int v])) := by
      intro r
      induction r with
      | zero =>
        intro i hi he cl
        exact ⟨33, _, 1, Or.inr rfl, Or.inl ⟨rfl, hs, fun j hj => he j (by omega)⟩, cl.trans (by
          refine XS.iloadN X0.here hexec rfl (hb hbytes d9) rfl ?_
          refine XS.aloadN X0.here hexec rfl (hb hbytes d10) rfl rfl ?_
          refine X0.alen hexec hA0 rfl rfl (hb hbytes d11) ?_
          refine XS.icmpYes X0.here hexec rfl (pc0 := 12) rfl (hb hbytes d12) rfl (ii_ge_t (nlt32 (by omega) (by omega))) (by decide) rfl ?_
          refine iconstV X0.here hexec rfl 1 (hb hbytes d32) (by decide) ?_
          exact Steps.refl _)⟩
      | succ r ih =>
        intro i hi he cl
        have c4 : Steps p.tables e below (s₁.setTop (entryFrame m #[.ref a, .ref b] 3)) (s₁.setTop (mkF m 21 #[.val (.ref a), .val (.ref b), .val (.int (Int32.ofNat i))] [.int (yv B i), .int (yv A i)])) := cl.trans (by
          refine XS.iloadN X0.here hexec rfl (hb hbytes d9) rfl ?_
          refine XS.aloadN X0.here hexec rfl (hb hbytes d10) rfl rfl ?_
          refine X0.alen hexec hA0 rfl rfl (hb hbytes d11) ?_
          refine XS.icmpNo X0.here hexec rfl (hb hbytes d12) rfl (ii_ge_f (lt32 (by omega) (by omega))) ?_
          refine XS.aloadN X0.here hexec rfl (hb hbytes d15) rfl rfl ?_
          refine XS.iloadN X0.here hexec rfl (hb hbytes d16) rfl ?_
          refine X0.aget hexec hA0 rfl (yv_get hA tA (i := i) (by omega)) rfl rfl (hb hbytes d17) ?_
          refine XS.aloadN X0.here hexec rfl (hb hbytes d18) rfl rfl ?_
          refine XS.iloadN X0.here hexec rfl (hb hbytes d19) rfl ?_
          refine X0.aget hexec hB0 rfl (yv_get hB tB (i := i) (by omega)) rfl rfl (hb hbytes d20) ?_
          exact Steps.refl _)
        by_cases hv : yv A i = yv B i
        · have c5 : Steps p.tables e below (s₁.setTop (entryFrame m #[.ref a, .ref b] 3)) (s₁.setTop (mkF m 9 #[.val (.ref a), .val (.ref b), .val (.int (Int32.ofNat i + 1))] [])) := c4.trans (by
            refine XS.icmpYes X0.here hexec rfl (pc0 := 21) rfl (hb hbytes d21) rfl (ii_eq_t hv) (by decide) rfl ?_
            refine iincV X0.here hexec rfl 1 (hb hbytes d26) (by decide) rfl rfl ?_
            refine XS.goto X0.here hexec rfl (pc0 := 29) rfl (hb hbytes d29) (by decide) rfl ?_
            exact Steps.refl _)
          rw [succ32] at c5
          exact ih (i + 1) (by omega) (fun j hj => by
            by_cases e : j = i
            · rw [e]; exact hv
            · exact he j (by omega)) c5
        · exact ⟨25, _, 0, Or.inl rfl, Or.inr ⟨rfl, fun q => hv (q.2 i (by omega))⟩, c4.trans (by
            refine XS.icmpNo X0.here hexec rfl (hb hbytes d21) rfl (ii_eq_f hv) ?_
            refine iconstV X0.here hexec rfl 0 (hb hbytes d24) (by decide) ?_
            exact Steps.refl _)⟩
    obtain ⟨pc, Ls, v, hpc, hv, cz⟩ := loop A.slots.size 0 (by omega) (fun j hj => absurd hj (Nat.not_lt_zero j)) c3
    have nv : narrow .boolean (.int v) = .int v := by rcases hv with ⟨rfl, -⟩ | ⟨rfl, -⟩ <;> rfl
    rcases hpc with rfl | rfl
    · exact ⟨s₁, some (.int v), _, _, _, X0, rfl, rfl, rfl, (fun h => by cases h), ⟨v, rfl, hh0, hv⟩, fun fs hl => cz.trans (X0.ireturnOut hexec hret nv (Or.inr (Or.inl rfl)) (hb hbytes d25) hl)⟩
    · exact ⟨s₁, some (.int v), _, _, _, X0, rfl, rfl, rfl, (fun h => by cases h), ⟨v, rfl, hh0, hv⟩, fun fs hl => cz.trans (X0.ireturnOut hexec hret nv (Or.inr (Or.inl rfl)) (hb hbytes d33) hl)⟩
  · have c3 : Steps p.tables e below (s₁.setTop (entryFrame m #[.ref a, .ref b] 3)) (s₁.setTop (mkF m 35 #[.val (.ref a), .val (.ref b), .unset] [.int 0])) := c2.trans (by
      refine XS.icmpYes X0.here hexec rfl (pc0 := 4) rfl (hb hbytes d4) rfl (ii_ne_t (ne32 a31 b31 hs)) (by decide) rfl ?_
      refine iconstV X0.here hexec rfl 0 (hb hbytes d34) (by decide) ?_
      exact Steps.refl _)
    exact ⟨s₁, some (.int 0), _, _, _, X0, rfl, rfl, rfl, (fun h => by cases h), ⟨0, rfl, hh0, Or.inr ⟨rfl, fun q => hs q.1⟩⟩, fun fs hl => c3.trans (X0.ireturnOut hexec hret rfl (Or.inr (Or.inl rfl)) (hb hbytes d35) hl)⟩
end LEq
theorem Cod.ty {cd : Int32} {n : Nat} {f : Nat → Int32} {V : Cell} (h : Cod cd n f V) : Typed .byte V := fun i v hv => by
  have hi : i < V.slots.size := (Array.getElem?_eq_some_iff.mp hv).1
  rcases h with ⟨-, k1, k2⟩ | ⟨-, k1, k2, -⟩
  · rw [(k2 i (by omega)).1] at hv; cases hv; exact fits_lo8 _
  · rcases Nat.mod_two_eq_zero_or_one i with e | e
    · obtain ⟨j, rfl⟩ : ∃ j, i = 2 * j := ⟨i / 2, by omega⟩
      rw [(k2 j (by omega)).1] at hv; cases hv; exact fits_lo8 _
    · obtain ⟨j, rfl⟩ : ∃ j, i = 2 * j + 1 := ⟨i / 2, by omega⟩
      rw [(k2 j (by omega)).2] at hv; cases hv; exact fits_lo8 _
/-- the same text -/
def SameT (n : Nat) (f : Nat → Int32) (k : Nat) (g : Nat → Int32) : Prop := n = k ∧ ∀ j, j < n → f j = g j
theorem lo8_inj {x y : Int32} (h0 : ¬ x < 0) (h1 : ¬ 255 < x) (k0 : ¬ y < 0) (k1 : ¬ 255 < y) (h : lo8 x = lo8 y) : x = y := by
  rw [← lo8_mask h0 h1, ← lo8_mask k0 k1, h]
/-- arrays coded by one coder are equal just where the texts are -/
theorem Cod.eqv {cd : Int32} {n k : Nat} {f g : Nat → Int32} {V V' : Cell} (h : Cod cd n f V) (h' : Cod cd k g V') (hf : ∀ j, j < n → ¬ f j < 0 ∧ ¬ 65535 < f j) (hg : ∀ j, j < k → ¬ g j < 0 ∧ ¬ 65535 < g j) : EqC V V' ↔ SameT n f k g := by
  have yvv : ∀ {W : Cell} {i : Nat} {x : Int32}, W.slots[i]? = some (.int x) → yv W i = x := fun q => by unfold yv; rw [q]
  rcases h with ⟨rfl, k1, k2⟩ | ⟨rfl, k1, k2, -⟩
  · rcases h' with ⟨-, m1, m2⟩ | ⟨e, -⟩
    · constructor
      · rintro ⟨e1, e2⟩
        refine ⟨by omega, fun j hj => ?_⟩
        have q := e2 j (by omega)
        rw [yvv (k2 j hj).1, yvv (m2 j (by omega)).1] at q
        exact lo8_inj (hf j hj).1 (k2 j hj).2 (hg j (by omega)).1 (m2 j (by omega)).2 q
      · rintro ⟨rfl, e2⟩
        refine ⟨by omega, fun j hj => ?_⟩
        rw [yvv (k2 j (by omega)).1, yvv (m2 j (by omega)).1, e2 j (by omega)]
    · exact absurd e (by decide)
  · rcases h' with ⟨e, -⟩ | ⟨-, m1, m2, -⟩
    · exact absurd e (by decide)
    · constructor
      · rintro ⟨e1, e2⟩
        refine ⟨by omega, fun j hj => ?_⟩
        have q1 := e2 (2 * j) (by omega)
        have q2 := e2 (2 * j + 1) (by omega)
        rw [yvv (k2 j hj).1, yvv (m2 j (by omega)).1] at q1
        rw [yvv (k2 j hj).2, yvv (m2 j (by omega)).2] at q2
        rw [← pair_says (hf j hj).1 (hf j hj).2, ← pair_says (hg j (by omega)).1 (hg j (by omega)).2, q1, q2]
      · rintro ⟨rfl, e2⟩
        refine ⟨by omega, fun i hi => ?_⟩
        rcases Nat.mod_two_eq_zero_or_one i with e | e
        · obtain ⟨j, rfl⟩ : ∃ j, i = 2 * j := ⟨i / 2, by omega⟩
          rw [yvv (k2 j (by omega)).1, yvv (m2 j (by omega)).1, e2 j (by omega)]
        · obtain ⟨j, rfl⟩ : ∃ j, i = 2 * j + 1 := ⟨i / 2, by omega⟩
          rw [yvv (k2 j (by omega)).2, yvv (m2 j (by omega)).2, e2 j (by omega)]
/-- two codings differ: so do the texts -/
theorem Cod.dif {cd cd' : Int32} {n k : Nat} {f g : Nat → Int32} {V V' : Cell} (h : Cod cd n f V) (h' : Cod cd' k g V') (hne : ¬ cd = cd') : ¬ SameT n f k g := by
  rintro ⟨rfl, e⟩
  rcases h with ⟨rfl, -, k2⟩ | ⟨rfl, -, -, j, hj, hw⟩
  · rcases h' with ⟨rfl, -⟩ | ⟨-, -, -, j, hj, hw⟩
    · exact hne rfl
    · exact (k2 j hj).2 (by rw [e j hj]; exact hw)
  · rcases h' with ⟨-, -, m2⟩ | ⟨rfl, -⟩
    · exact (m2 j hj).2 (by rw [← e j hj]; exact hw)
    · exact hne rfl
/-- an object of exactly C is an instance of C -/
theorem cinst {p : Program} {l : Launch} {e : Env} {R : Room} {s : State} {m : MethodId} {args : Array Value} {below : List Frame} {meth : Method} {c : Code} {T : State} {locs : List Loc} {cells slots : Nat} (X : Stand p l e R s m args below meth c T locs cells slots) (hexec : p.tables.exec = Jvm.exec) {own C : String} {index : Nat} (hown : s.vm.findClass own = some m.cls) (hlink : (Cond.classLink own index C).before args s = true) {a : Addr} (hE : Exact C a T)
    {g : JFrame} (hg : g.method = m) {rest : List Value} (hstack : g.stack = .ref a :: rest) (hdg : decode c.code g.pc = .ok (.instanceof index, 3)) :
    ∃ T', Stand p l e R s m args below meth c T' locs cells slots ∧ T'.heap = T.heap ∧ ∀ target, Steps p.tables e below (T'.setTop { g with pc := g.pc + 3, stack := .int 1 :: rest }) target → Steps p.tables e below (T.setTop g) target := by
  obtain ⟨cB, h1, D, h2, h3, h4⟩ := hE
  have h1' : s.vm.findClass C = some cB := by rw [← X.warmed.alike.findClass]; exact h1
  obtain ⟨vm', X', st⟩ := X.instanceofYes hexec hown hlink h2 h4 h1' (by rw [h3]; exact Jvm.Free.SB.assignable_self _ _) hg hstack hdg
  exact ⟨_, X', rfl, st⟩
theorem cself {p : Program} {l : Launch} {e : Env} {R : Room} {s : State} {m : MethodId} {args : Array Value} {below : List Frame} {meth : Method} {c : Code} {T : State} {locs : List Loc} {cells slots : Nat} (X : Stand p l e R s m args below meth c T locs cells slots) (hexec : p.tables.exec = Jvm.exec) {own C : String} {index : Nat} (hown : s.vm.findClass own = some m.cls) (hlink : (Cond.classLink own index C).before args s = true) {a : Addr} (hE : Exact C a T)
    {g : JFrame} (hg : g.method = m) {rest : List Value} (hstack : g.stack = .ref a :: rest) (hdg : decode c.code g.pc = .ok (.checkcast index, 3)) :
    ∃ T', Stand p l e R s m args below meth c T' locs cells slots ∧ T'.heap = T.heap ∧ ∀ target, Steps p.tables e below (T'.setTop { g with pc := g.pc + 3, stack := .ref a :: rest }) target → Steps p.tables e below (T.setTop g) target := by
  obtain ⟨cB, h1, D, h2, h3, h4⟩ := hE
  have h1' : s.vm.findClass C = some cB := by rw [← X.warmed.alike.findClass]; exact h1
  obtain ⟨vm', X', st⟩ := X.checkcastYes hexec hown hlink h2 h4 h1' (by rw [h3]; exact Jvm.Free.SB.assignable_self _ _) hg hstack hdg
  exact ⟨_, X', rfl, fun t h => st t (by rw [← hstack] at h; exact h)⟩
namespace SEq
def yN : MethodName := ⟨"java/lang/String", "equals", "(Ljava/lang/Object;)Z"⟩
abbrev yB : ByteArray := jdk_42_method_66_code
theorem d0 : decode yB 0 = .ok (.aload_n 0, 1) := by decide +kernel
theorem d1 : decode yB 1 = .ok (.aload_n 1, 1) := by decide +kernel
theorem d2 : decode yB 2 = .ok (.if_acmp (.ne) 5, 3) := by decide +kernel
theorem d5 : decode yB 5 = .ok (.iconst 1, 1) := by decide +kernel
theorem d6 : decode yB 6 = .ok (.ireturn, 1) := by decide +kernel
theorem d7 : decode yB 7 = .ok (.aload_n 1, 1) := by decide +kernel
theorem d8 : decode yB 8 = .ok (.instanceof 10, 3) := by decide +kernel
theorem d11 : decode yB 11 = .ok (.ifCond (.eq) 43, 3) := by decide +kernel
theorem d14 : decode yB 14 = .ok (.aload_n 1, 1) := by decide +kernel
theorem d15 : decode yB 15 = .ok (.checkcast 10, 3) := by decide +kernel
theorem d18 : decode yB 18 = .ok (.astore_n 2, 1) := by decide +kernel
theorem d19 : decode yB 19 = .ok (.getstatic 38, 3) := by decide +kernel
theorem d22 : decode yB 22 = .ok (.ifCond (.eq) 14, 3) := by decide +kernel
theorem d25 : decode yB 25 = .ok (.aload_n 0, 1) := by decide +kernel
theorem d26 : decode yB 26 = .ok (.getfield 15, 3) := by decide +kernel
theorem d29 : decode yB 29 = .ok (.aload_n 2, 1) := by decide +kernel
theorem d30 : decode yB 30 = .ok (.getfield 15, 3) := by decide +kernel
theorem d33 : decode yB 33 = .ok (.if_icmp (.ne) 21, 3) := by decide +kernel
theorem d36 : decode yB 36 = .ok (.aload_n 0, 1) := by decide +kernel
theorem d37 : decode yB 37 = .ok (.getfield 9, 3) := by decide +kernel
theorem d40 : decode yB 40 = .ok (.aload_n 2, 1) := by decide +kernel
theorem d41 : decode yB 41 = .ok (.getfield 9, 3) := by decide +kernel
theorem d44 : decode yB 44 = .ok (.invokestatic 541, 3) := by decide +kernel
theorem d47 : decode yB 47 = .ok (.ifCond (.eq) 7, 3) := by decide +kernel
theorem d50 : decode yB 50 = .ok (.iconst 1, 1) := by decide +kernel
theorem d51 : decode yB 51 = .ok (.goto 4, 3) := by decide +kernel
theorem d54 : decode yB 54 = .ok (.iconst 0, 1) := by decide +kernel
theorem d55 : decode yB 55 = .ok (.ireturn, 1) := by decide +kernel
def site : List Cond := [.classLink "java/lang/String" 10 "java/lang/String", .fieldLink "java/lang/String" 38 "java/lang/String" "COMPACT_STRINGS" "Z", .fieldLink "java/lang/String" 15 "java/lang/String" "coder" "B", .fieldLink "java/lang/String" 9 "java/lang/String" "value" "[B", LEq.tab] ++ staticW "java/lang/String" 541 LEq.yN
def tab : Cond := tabOf yN yB 3 (some .boolean) site
def P (x t : Addr) (V : Cell) (cd : Int32) (n : Nat) (f : Nat → Int32) (y t' : Addr) (V' : Cell) (cd' : Int32) (k : Nat) (g : Nat → Int32) (z : Int32) (args : Array Value) (s : State) : Prop := args = #[.ref x, .ref y] ∧ Txt x t V cd n f s ∧ Txt y t' V' cd' k g s ∧ StaticIs s "java/lang/String" "COMPACT_STRINGS" "Z" (.int z) ∧ ¬ z = 0
/-- equals(Object) of two Strings: whether the texts are the same -/
theorem law (l : Launch) (x t : Addr) (V : Cell) (cd : Int32) (n : Nat) (f : Nat → Int32) (y t' : Addr) (V' : Cell) (cd' : Int32) (k : Nat) (g : Nat → Int32) (z : Int32) : Law l yN 2 1 1 14 yB 3 (some .boolean) site (P x t V cd n f y t' V' cd' k g z) (Says01 (SameT n f k g)) [] 0 0 := by
  refine Law.of_walk (plainFor_of_name (by decide +kernel)) (by decide +kernel) (by decide +kernel) (by decide) (fun _ _ h => by rw [h.1]; rfl) (fun _ U U' hal hh h => ⟨h.1, h.2.1.mv hal hh, h.2.2.1.mv hal hh, h.2.2.2.1.there hal hh, h.2.2.2.2⟩) (fun r U U' V V' h1 hal h2 h => Says01.mv r U U' V V' h1 hal h2 h) ?_
  intro p e s m args below meth c s₁ X0 hexec hbytes hml hret hlk hnm hown hh0 W hP
  obtain ⟨rfl, hx, hy, s1, hz⟩ := hP
  have c1 : Steps p.tables e below (s₁.setTop (entryFrame m #[.ref x, .ref y] 3)) (s₁.setTop (mkF m 2 #[.val (.ref x), .val (.ref y), .unset] [.ref y, .ref x])) := Steps.trans (entry rfl) (by
    show Steps p.tables e below (s₁.setTop (mkF m 0 #[.val (.ref x), .val (.ref y), .unset] [])) _
    refine XS.aloadN X0.here hexec rfl (hb hbytes d0) rfl rfl ?_
    refine XS.aloadN X0.here hexec rfl (hb hbytes d1) rfl rfl ?_
    exact Steps.refl _)
  by_cases hxy : x = y
  · have c2 : Steps p.tables e below (s₁.setTop (entryFrame m #[.ref x, .ref y] 3)) (s₁.setTop (mkF m 6 #[.val (.ref x), .val (.ref y), .unset] [.int 1])) := c1.trans (by
      refine acmpNo X0.here hexec rfl (hb hbytes d2) rfl rfl rfl (by simp [acmp, hxy]) ?_
      refine iconstV X0.here hexec rfl 1 (hb hbytes d5) (by decide) ?_
      exact Steps.refl _)
    subst hxy
    have ec : cd = cd' := by
      obtain ⟨D, fd, a1, a2, a3⟩ := hx.2.2.1
      obtain ⟨D', fd', b1, b2, b3⟩ := hy.2.2.1
      cases a1.symm.trans b1
      obtain ⟨q1, q2, q3, q4⟩ := a2.1
      obtain ⟨r1, r2, r3, r4⟩ := b2.1
      cases q4.symm.trans r4
      cases a3.symm.trans b3; rfl
    have et : t = t' := by
      obtain ⟨D, fd, a1, a2, a3⟩ := hx.2.1
      obtain ⟨D', fd', b1, b2, b3⟩ := hy.2.1
      cases a1.symm.trans b1
      obtain ⟨q1, q2, q3, q4⟩ := a2.1
      obtain ⟨r1, r2, r3, r4⟩ := b2.1
      cases q4.symm.trans r4
      cases a3.symm.trans b3; rfl
    subst ec et
    have ev : V = V' := by cases hx.2.2.2.1.1.symm.trans hy.2.2.2.1.1; rfl
    subst ev
    have hs : SameT n f k g := (Cod.eqv hx.2.2.2.2.1 hy.2.2.2.2.1 hx.2.2.2.2.2 hy.2.2.2.2.2).mp ⟨rfl, fun _ _ => rfl⟩
    exact ⟨s₁, some (.int 1), _, _, _, X0, rfl, rfl, rfl, (fun h => by cases h), ⟨1, rfl, hh0, Or.inl ⟨rfl, hs⟩⟩, fun fs hl => c2.trans (X0.ireturnOut hexec hret rfl (Or.inr (Or.inl rfl)) (hb hbytes d6) hl)⟩
  · have c2 : Steps p.tables e below (s₁.setTop (entryFrame m #[.ref x, .ref y] 3)) (s₁.setTop (mkF m 8 #[.val (.ref x), .val (.ref y), .unset] [.ref y])) := c1.trans (by
      refine acmpYes X0.here hexec rfl (pc0 := 2) rfl (hb hbytes d2) rfl rfl rfl (by simp [acmp, hxy]) (by decide) rfl ?_
      refine XS.aloadN X0.here hexec rfl (hb hbytes d7) rfl rfl ?_
      exact Steps.refl _)
    obtain ⟨T3, X3, q3, st3⟩ := cinst X0 hexec hown (wk W (.classLink "java/lang/String" 10 "java/lang/String")) (hy.mv X0.warmed.alike hh0).1 (g := (mkF m 8 #[.val (.ref x), .val (.ref y), .unset] [.ref y])) rfl (rest := []) rfl (hb hbytes d8)
    have hh3 := q3.trans hh0
    have c4 : Steps p.tables e below (s₁.setTop (entryFrame m #[.ref x, .ref y] 3)) (T3.setTop (mkF m 15 #[.val (.ref x), .val (.ref y), .unset] [.ref y])) := (c2.trans (st3 _ (Steps.refl _))).trans (by
      refine XS.ifNo X3.here hexec rfl (hb hbytes d11) rfl (i0_eq_f (by decide)) ?_
      refine XS.aloadN X3.here hexec rfl (hb hbytes d14) rfl rfl ?_
      exact Steps.refl _)
    obtain ⟨T5, X5, q5, st5⟩ := cself X3 hexec hown (wk W (.classLink "java/lang/String" 10 "java/lang/String")) (hy.mv X3.warmed.alike hh3).1 (g := (mkF m 15 #[.val (.ref x), .val (.ref y), .unset] [.ref y])) rfl (rest := []) rfl (hb hbytes d15)
    have hh5 := q5.trans hh3
    have c6 : Steps p.tables e below (s₁.setTop (entryFrame m #[.ref x, .ref y] 3)) (T5.setTop (mkF m 19 #[.val (.ref x), .val (.ref y), .val (.ref y)] [])) := (c4.trans (st5 _ (Steps.refl _))).trans (by
      refine XS.astoreN X5.here hexec rfl (hb hbytes d18) rfl rfl rfl ?_
      exact Steps.refl _)
    obtain ⟨T7, X7, q7, st7⟩ := X5.sget hexec hown (wk W (.fieldLink "java/lang/String" 38 "java/lang/String" "COMPACT_STRINGS" "Z")) s1 (fun _ _ h => by rw [hh5]; exact h) (g := (mkF m 19 #[.val (.ref x), .val (.ref y), .val (.ref y)] [])) rfl (hb hbytes d19)
    have hh7 := q7.trans hh5
    have c8 : Steps p.tables e below (s₁.setTop (entryFrame m #[.ref x, .ref y] 3)) (T7.setTop (mkF m 26 #[.val (.ref x), .val (.ref y), .val (.ref y)] [.ref x])) := (c6.trans (st7 _ (Steps.refl _))).trans (by
      refine XS.ifNo X7.here hexec rfl (hb hbytes d22) rfl (i0_eq_f hz) ?_
      refine XS.aloadN X7.here hexec rfl (hb hbytes d25) rfl rfl ?_
      exact Steps.refl _)
    obtain ⟨T9, X9, q9, st9⟩ := X7.hget hexec hown (wk W (.fieldLink "java/lang/String" 15 "java/lang/String" "coder" "B")) (hx.mv X7.warmed.alike hh7).2.2.1 (g := (mkF m 26 #[.val (.ref x), .val (.ref y), .val (.ref y)] [.ref x])) rfl (rest := []) rfl (hb hbytes d26)
    have hh9 := q9.trans hh7
    have c10 : Steps p.tables e below (s₁.setTop (entryFrame m #[.ref x, .ref y] 3)) (T9.setTop (mkF m 30 #[.val (.ref x), .val (.ref y), .val (.ref y)] [.ref y, .int cd])) := (c8.trans (st9 _ (Steps.refl _))).trans (by
      refine XS.aloadN X9.here hexec rfl (hb hbytes d29) rfl rfl ?_
      exact Steps.refl _)
    obtain ⟨T11, X11, q11, st11⟩ := X9.hget hexec hown (wk W (.fieldLink "java/lang/String" 15 "java/lang/String" "coder" "B")) (hy.mv X9.warmed.alike hh9).2.2.1 (g := (mkF m 30 #[.val (.ref x), .val (.ref y), .val (.ref y)] [.ref y, .int cd])) rfl (rest := [.int cd]) rfl (hb hbytes d30)
    have hh11 := q11.trans hh9
    have c12 : Steps p.tables e below (s₁.setTop (entryFrame m #[.ref x, .ref y] 3)) (T11.setTop (mkF m 33 #[.val (.ref x), .val (.ref y), .val (.ref y)] [.int cd', .int cd])) := c10.trans (st11 _ (Steps.refl _))
    by_cases hcd : cd = cd'
    · subst hcd
      have c13 : Steps p.tables e below (s₁.setTop (entryFrame m #[.ref x, .ref y] 3)) (T11.setTop (mkF m 37 #[.val (.ref x), .val (.ref y), .val (.ref y)] [.ref x])) := c12.trans (by
        refine XS.icmpNo X11.here hexec rfl (hb hbytes d33) rfl (ii_ne_f rfl) ?_
        refine XS.aloadN X11.here hexec rfl (hb hbytes d36) rfl rfl ?_
        exact Steps.refl _)
      obtain ⟨T14, X14, q14, st14⟩ := X11.hget hexec hown (wk W (.fieldLink "java/lang/String" 9 "java/lang/String" "value" "[B")) (hx.mv X11.warmed.alike hh11).2.1 (g := (mkF m 37 #[.val (.ref x), .val (.ref y), .val (.ref y)] [.ref x])) rfl (rest := []) rfl (hb hbytes d37)
      have hh14 := q14.trans hh11
      have c15 : Steps p.tables e below (s₁.setTop (entryFrame m #[.ref x, .ref y] 3)) (T14.setTop (mkF m 41 #[.val (.ref x), .val (.ref y), .val (.ref y)] [.ref y, .ref t])) := (c13.trans (st14 _ (Steps.refl _))).trans (by
        refine XS.aloadN X14.here hexec rfl (hb hbytes d40) rfl rfl ?_
        exact Steps.refl _)
      obtain ⟨T16, X16, q16, st16⟩ := X14.hget hexec hown (wk W (.fieldLink "java/lang/String" 9 "java/lang/String" "value" "[B")) (hy.mv X14.warmed.alike hh14).2.1 (g := (mkF m 41 #[.val (.ref x), .val (.ref y), .val (.ref y)] [.ref y, .ref t])) rfl (rest := [.ref t]) rfl (hb hbytes d41)
      have hh16 := q16.trans hh14
      have c17 : Steps p.tables e below (s₁.setTop (entryFrame m #[.ref x, .ref y] 3)) (T16.setTop (mkF m 44 #[.val (.ref x), .val (.ref y), .val (.ref y)] [.ref t', .ref t])) := c15.trans (st16 _ (Steps.refl _))
      obtain ⟨v18, T18, X18, E18, g18⟩ := X16.callS hexec (LEq.law l t V t' V') hown (wks W (staticW "java/lang/String" 541 LEq.yN)) (wk W LEq.tab) (W := 0) (Nat.le_of_ble_eq_true rfl) (Nat.le_of_ble_eq_true rfl) (Nat.le_refl _) (Nat.le_refl _) (g := (mkF m 44 #[.val (.ref x), .val (.ref y), .val (.ref y)] [.ref t', .ref t])) rfl (by rw [hml]; rfl) c17 (argsL := [.ref t, .ref t']) (rest := []) rfl rfl (by show 2 * 0 + 0 ≤ _; decide) (hb hbytes d44) (⟨rfl, hx.2.2.2.1.mv X16.warmed.alike hh16, hx.2.2.2.2.1.ty, hy.2.2.2.1.mv X16.warmed.alike hh16, hy.2.2.2.2.1.ty⟩)
      obtain ⟨v, rfl, q18, hv⟩ := E18
      have iff := Cod.eqv hx.2.2.2.2.1 hy.2.2.2.2.1 hx.2.2.2.2.2 hy.2.2.2.2.2
      rcases hv with ⟨rfl, he⟩ | ⟨rfl, he⟩
      · have c19 : Steps p.tables e below (s₁.setTop (entryFrame m #[.ref x, .ref y] 3)) (T18.setTop (mkF m 55 #[.val (.ref x), .val (.ref y), .val (.ref y)] [.int 1])) := Steps.trans g18 (by
          refine XS.ifNo X18.here hexec rfl (hb hbytes d47) rfl (i0_eq_f (by decide)) ?_
          refine iconstV X18.here hexec rfl 1 (hb hbytes d50) (by decide) ?_
          refine XS.goto X18.here hexec rfl (pc0 := 51) rfl (hb hbytes d51) (by decide) rfl ?_
          exact Steps.refl _)
        exact ⟨T18, some (.int 1), _, _, _, X18, rfl, rfl, rfl, (fun h => by cases h), ⟨1, rfl, q18.trans hh16, Or.inl ⟨rfl, iff.mp he⟩⟩, fun fs hl => c19.trans (X18.ireturnOut hexec hret rfl (Or.inr (Or.inl rfl)) (hb hbytes d55) hl)⟩
      · have c19 : Steps p.tables e below (s₁.setTop (entryFrame m #[.ref x, .ref y] 3)) (T18.setTop (mkF m 55 #[.val (.ref x), .val (.ref y), .val (.ref y)] [.int 0])) := Steps.trans g18 (by
          refine XS.ifYes X18.here hexec rfl (pc0 := 47) rfl (hb hbytes d47) rfl (i0_eq_t rfl) (by decide) rfl ?_
          refine iconstV X18.here hexec rfl 0 (hb hbytes d54) (by decide) ?_
          exact Steps.refl _)
        exact ⟨T18, some (.int 0), _, _, _, X18, rfl, rfl, rfl, (fun h => by cases h), ⟨0, rfl, q18.trans hh16, Or.inr ⟨rfl, fun q => he (iff.mpr q)⟩⟩, fun fs hl => c19.trans (X18.ireturnOut hexec hret rfl (Or.inr (Or.inl rfl)) (hb hbytes d55) hl)⟩
    · have c13 : Steps p.tables e below (s₁.setTop (entryFrame m #[.ref x, .ref y] 3)) (T11.setTop (mkF m 55 #[.val (.ref x), .val (.ref y), .val (.ref y)] [.int 0])) := c12.trans (by
        refine XS.icmpYes X11.here hexec rfl (pc0 := 33) rfl (hb hbytes d33) rfl (ii_ne_t hcd) (by decide) rfl ?_
        refine iconstV X11.here hexec rfl 0 (hb hbytes d54) (by decide) ?_
        exact Steps.refl _)
      exact ⟨T11, some (.int 0), _, _, _, X11, rfl, rfl, rfl, (fun h => by cases h), ⟨0, rfl, hh11, Or.inr ⟨rfl, Cod.dif hx.2.2.2.2.1 hy.2.2.2.2.1 hcd⟩⟩, fun fs hl => c13.trans (X11.ireturnOut hexec hret rfl (Or.inr (Or.inl rfl)) (hb hbytes d55) hl)⟩
theorem pays {l : Launch} {R : Room} {p : Program} {e : Env} {below : List Frame} {s : State} {sargs : Array Value} {len W : Nat} (x t : Addr) (V : Cell) (cd : Int32) (n : Nat) (f : Nat → Int32) (y t' : Addr) (V' : Cell) (cd' : Int32) (k : Nat) (g : Nat → Int32) (z : Int32) (htab : tab.before sargs s = true) (hfr : 2 ≤ R.frames) (hlo : W + 28 ≤ R.locals) :
    Back l R p e below s sargs yN len W (fun A₁ a₁ => A₁.cells + 0 ≤ R.cells ∧ A₁.slots + 0 ≤ R.slots ∧ P x t V cd n f y t' V' cd' k g z a₁ A₁.U) (fun A₁ _ v₁ B₁ => Says01 (SameT n f k g) v₁ A₁.U B₁.U ∧ B₁.locs = A₁.locs ++ [] ∧ B₁.cells = A₁.cells + 0 ∧ B₁.slots = A₁.slots + 0) :=
  (law l x t V cd n f y t' V' cd' k g z).pays htab hfr (by omega)
end SEq
end StrChars
namespace StrChars.Road
open Jvm Sem ClassFile Op Lib Jvm.Stand Jvm.Free Jvm.Free.XT
open Jvm.Lib.Cold (StaticIs)
/-- the words of String.equals(Object) -/
abbrev wordsEq : List Jvm.Cond := [.code SEq.yN SEq.yB 3 (some .boolean), .initialized ST, .classLink ST 10 ST, .fieldLink ST 38 ST "COMPACT_STRINGS" "Z", .fieldLink ST 15 ST "coder" "B", .fieldLink ST 9 ST "value" "[B", .methodLink ST 541 LEq.yN, .static LEq.yN, .code LEq.yN LEq.yB 3 (some .boolean), .initialized "java/lang/StringLatin1"]
theorem tabEq_of {a : Array Value} {s : State} (h : ∀ w ∈ wordsEq, w.before a s = true) : SEq.tab.before a s = true := by
  have hl : LEq.tab.before a s = true := unparts (wk h (.code LEq.yN LEq.yB 3 (some .boolean))) (wks h (.initialized LEq.yN.cls :: LEq.site))
  have q := consq hl h
  exact unparts (wk q (.code SEq.yN SEq.yB 3 (some .boolean))) (wks q (.initialized SEq.yN.cls :: SEq.site))
theorem movedEq {Z s : State} {a0 args : Array Value} (hZ : Z.Warmed39 s.vm) (hw : ∀ d ∈ wordsEq, d.before a0 Z = true) : ∀ d ∈ wordsEq, d.before args s = true := fun d hd => by
  have t : ∀ d ∈ wordsEq, (d.onTables && d.keepsFace) = true := by decide +kernel
  exact RoadKit.mv hZ (hw d hd) (t d hd)
/-- the road's facts of a String, as the laws ask it -/
theorem txt_of {Z U : State} {a0 : Array Value} {kI : Nat} (wi : (Jvm.Cond.instantiable ST kI).before a0 Z = true) (al : Z.vm.Alike U.vm) {x t : Addr} {kb : ClassId} {cs : List Int32} {cd N2 : Int32} {vs : List Value} (E : RoadKit.Exa Z U.heap x ST) (V : RoadKit.Fld Z U.heap x ST "value" "[B" (.ref t)) (C : RoadKit.Fld Z U.heap x ST "coder" "B" (.int cd)) (K : RoadKit.Arv Z U.heap t kb .byte N2 vs (.int 0)) (hc : CodA cs cd N2 vs) (hb : ∀ c ∈ cs, ¬ c < 0 ∧ ¬ (65535 : Int32) < c) (l2 : cs.length ≤ 4000) :
    ∃ A, Txt x t A cd cs.length (fun j => cs.getD j 0) U := by
  obtain ⟨A, K1, K2, K3, K4, K5, K6⟩ := K
  have hcod := hc.cod (by omega) K3 K5
  obtain ⟨D, fV, fC, hB, F1, F2, g1, g2, -, -⟩ := strObj wi al E V C
  exact ⟨A, ⟨_, hB.2.2.1, D, hB.1, rfl, by cases q : D.vm <;> first | rfl | exact absurd q (hB.2.1.2 _)⟩, Has.of hB F1 g1, Has.of hB F2 g2, ⟨K1.1, State.isArrayOf_alike al K1.2.1, K1.2.2, by rcases hcod with ⟨-, q, -⟩ | ⟨-, q, -⟩ <;> omega⟩, hcod, fun j hj => by
    have e : cs.getD j 0 = cs[j] := by simp [List.getD_eq_getElem?_getD, hj]
    show ¬ cs.getD j 0 < 0 ∧ ¬ 65535 < cs.getD j 0
    rw [e]; exact hb _ (List.getElem_mem _)⟩
theorem same_list (cs ds : List Int32) : SameT cs.length (fun j => cs.getD j 0) ds.length (fun j => ds.getD j 0) ↔ cs = ds := by
  constructor
  · rintro ⟨e, q⟩
    refine List.ext_getElem e fun j h1 h2 => ?_
    have := q j h1
    simpa [List.getD_eq_getElem?_getD, h1, h2] using this
  · rintro rfl
    exact ⟨rfl, fun _ _ => rfl⟩
/-- **equals(Object) OF TWO SUCH STRINGS**: 1 just where the chars are the same -/
theorem eqW {p : Program} {l : Launch} {e : Env} {R : Room} {s : State} {args : Array Value} {below : List Frame} {len W : Nat} {Z : State} {a0 : Array Value} {h : Heap} (hZ : Z.Warmed39 s.vm) (hw : ∀ d ∈ wordsEq, d.before a0 Z = true) {kI : Nat} (wi : (Jvm.Cond.instantiable ST kI).before a0 Z = true)
    {x t : Addr} {kb : ClassId} {cs : List Int32} {cd N2 : Int32} {vs : List Value} (E : RoadKit.Exa Z h x ST) (V : RoadKit.Fld Z h x ST "value" "[B" (.ref t)) (C : RoadKit.Fld Z h x ST "coder" "B" (.int cd)) (K : RoadKit.Arv Z h t kb .byte N2 vs (.int 0)) (hc : CodA cs cd N2 vs) (hb : ∀ c ∈ cs, ¬ c < 0 ∧ ¬ (65535 : Int32) < c) (l2 : cs.length ≤ 4000)
    {y t' : Addr} {kb' : ClassId} {ds : List Int32} {cd' N2' : Int32} {vs' : List Value} (E' : RoadKit.Exa Z h y ST) (V' : RoadKit.Fld Z h y ST "value" "[B" (.ref t')) (C' : RoadKit.Fld Z h y ST "coder" "B" (.int cd')) (K' : RoadKit.Arv Z h t' kb' .byte N2' vs' (.int 0)) (hc' : CodA ds cd' N2' vs') (hb' : ∀ c ∈ ds, ¬ c < 0 ∧ ¬ (65535 : Int32) < c) (l2' : ds.length ≤ 4000)
    {z : Int32} (S : RoadKit.Sta Z h ST "COMPACT_STRINGS" "Z" (.int z)) (hz : ¬ z = 0) (hfr : 2 ≤ R.frames) (hlo : W + 28 ≤ R.locals) :
    Back l R p e below s args (⟨"java/lang/String", "equals", "(Ljava/lang/Object;)Z"⟩ : MethodName) len W (fun P a => a = #[.ref x, .ref y] ∧ P.U.heap = h ∧ P.cells + 0 ≤ R.cells ∧ P.slots + 0 ≤ R.slots)
      (fun P _ v B => ∃ L, (((v = some (.int 1) ∧ cs = ds) ∨ (v = some (.int 0) ∧ ¬ cs = ds)) ∧ L = [] ∧ B.U.heap = h) ∧ B.locs = P.locs ++ L ∧ B.cells = P.cells + 0 ∧ B.slots = P.slots + 0) := by
  intro m meth c P g ig mk a X hg hsize hdg hW hn hp'
  obtain ⟨rfl, rfl, r1, r2⟩ := hp'
  have al : Z.vm.Alike P.U.vm := hZ.alike.trans X.warmed.alike
  obtain ⟨A, hx⟩ := txt_of wi al E V C K hc hb l2
  obtain ⟨A', hy⟩ := txt_of wi al E' V' C' K' hc' hb' l2'
  obtain ⟨v, B, X', ⟨⟨w, hv, hh, hq⟩, hl, hk, hs⟩, st⟩ := SEq.pays x t A cd cs.length (fun j => cs.getD j 0) y t' A' cd' ds.length (fun j => ds.getD j 0) z (tabEq_of (movedEq hZ hw)) hfr hlo m meth c P g ig mk _ X hg hsize hdg hW hn ⟨r1, r2, rfl, hx, hy, sta_is al S, hz⟩
  refine ⟨v, B, X', ⟨[], ⟨?_, rfl, hh⟩, hl, hk, hs⟩, st⟩
  rcases hq with ⟨rfl, q⟩ | ⟨rfl, q⟩
  · exact Or.inl ⟨hv, (same_list cs ds).mp q⟩
  · exact Or.inr ⟨hv, fun e => q ((same_list cs ds).mpr e)⟩
end StrChars.Road
namespace StrChars.Road
open Jvm Sem ClassFile Op Lib Jvm.Stand Jvm.Free Jvm.Free.XT
open Jvm.Lib.Cold (StaticIs)
/-- what backV says of its String, as the contracts of this text ask it: cs's low bytes, coder 0 -/
theorem codOf {cs : List Int32} {n : Nat} (hn : cs.length = n) (hb : ∀ c ∈ cs, ¬ 255 < c) : CodA cs 0 (Int32.ofNat n) ((cs.map lo8).map Value.int) := Or.inl ⟨rfl, by rw [hn], by simp [List.map_map, Function.comp_def], hb⟩
end StrChars.Road
end Jvm.Pilot.@@N@@
namespace Jvm.Pilot.@@N@@
namespace W
open Jvm Jvm.ClassFile Sem Op Lib Jvm.Free Jvm.Stand Jvm.LawKit Jvm.RoadKit Bundle
/-- x is a String of the chars cs -/
def Str (Z : State) (h : Heap) (x : Addr) (cs : List Int32) : Prop := ∃ (t : Addr) (kb : ClassId) (N cd : Int32) (vs : List Value), Exa Z h x "java/lang/String" ∧ Fld Z h x "java/lang/String" "value" "[B" (.ref t) ∧ Fld Z h x "java/lang/String" "coder" "B" (.int cd) ∧ Arv Z h t kb .byte N vs (.int 0) ∧ StrChars.Road.CodA cs cd N vs ∧ (∀ c ∈ cs, ¬ c < 0 ∧ ¬ (65535 : Int32) < c) ∧ cs.length ≤ 4000
theorem Str.ext {Z : State} {h h' : Heap} {x : Addr} {cs : List Int32} (S : Str Z h x cs) (E : Ext h h') : Str Z h' x cs := by
  obtain ⟨t, kb, N, cd, vs, a, b, c, d, r⟩ := S; exact ⟨t, kb, N, cd, vs, a.ext E, b.ext E, c.ext E, d.ext E, r⟩
theorem Str.exa {Z : State} {h : Heap} {x : Addr} {cs : List Int32} (S : Str Z h x cs) : Exa Z h x "java/lang/String" := by
  obtain ⟨t, kb, N, cd, vs, a, r⟩ := S; exact a
theorem Str.keepExa {Z : State} {h h' : Heap} {x y : Addr} {cs : List Int32} {C : String} {n : Nat} {a0 : Array Value} (S : Str Z h x cs) (K : Keep h h' [y]) (E : Exa Z h y C) (wi : (Jvm.Cond.instantiable C n).before a0 Z = true) (hC : C ≠ "java/lang/String" := by decide) : Str Z h' x cs := by
  obtain ⟨t, kb, N, cd, vs, a, b, c, d, r⟩ := S
  have n1 : x ≠ y := Exa.ne a E (Ne.symm hC)
  have n2 : t ≠ y := Ne.symm (Exa.neArv E d wi)
  exact ⟨t, kb, N, cd, vs, a.keep K, b.keep K (ninS n1 nin0), c.keep K (ninS n1 nin0), d.keep K (ninS n2 nin0), r⟩
/-- null, or such a String -/
def OStr (Z : State) (h : Heap) (v : Value) (o : Option (List Int32)) : Prop := (v = .null ∧ o = none) ∨ ∃ a cs, v = .ref a ∧ o = some cs ∧ Str Z h a cs
theorem OStr.ext {Z : State} {h h' : Heap} {v : Value} {o : Option (List Int32)} (S : OStr Z h v o) (E : Ext h h') : OStr Z h' v o := by
  rcases S with q | ⟨a, cs, q1, q2, q3⟩
  · exact Or.inl q
  · exact Or.inr ⟨a, cs, q1, q2, q3.ext E⟩
theorem OStr.isRef {Z : State} {h : Heap} {v : Value} {o : Option (List Int32)} (S : OStr Z h v o) : v.isRef = true := by
  rcases S with ⟨rfl, -⟩ | ⟨a, cs, rfl, -⟩ <;> rfl
end W
end Jvm.Pilot.@@N@@
namespace Jvm.Pilot.@@N@@
namespace W
open Jvm Jvm.ClassFile Sem Op Lib Jvm.Free Jvm.Stand Jvm.LawKit Jvm.RoadKit Bundle
theorem i32 {n : Nat} (h : n < 2147483648) : (Int32.ofNat n).toInt = n := Int32.toInt_ofNat_of_lt h
theorem n32 {n : Nat} (h : n < 2147483648) : (Int32.ofNat n).toNatClampNeg = n := by rw [Int32.toNatClampNeg, i32 h]; rfl
theorem nn32 {n : Nat} (h : n < 2147483648) : ¬ Int32.ofNat n < 0 := by
  rw [Int32.lt_iff_toInt_lt, i32 h]; have e : (0 : Int32).toInt = 0 := rfl; omega
theorem lt32 {i n : Nat} (hi : i < 2147483648) (hn : n < 2147483648) : Int32.ofNat i < Int32.ofNat n ↔ i < n := by
  rw [Int32.lt_iff_toInt_lt, i32 hi, i32 hn]; omega
theorem eq32 {i n : Nat} (hi : i < 2147483648) (hn : n < 2147483648) : Int32.ofNat i = Int32.ofNat n ↔ i = n := by
  rw [← Int32.toInt_inj, i32 hi, i32 hn]; omega
theorem succ32 (i : Nat) : Int32.ofNat i + Int32.ofInt 1 = Int32.ofNat (i + 1) := by
  rw [Int32.ofNat_add]; rfl
theorem shl1 (n : Nat) : Int32.ofNat n <<< ((1 : Int32) &&& 31) = Int32.ofNat (2 * n) := by
  have e : ((1 : Int32) &&& 31) = 1 := by decide
  rw [e]
  apply Int32.toBitVec_inj.mp
  rw [Int32.toBitVec_shiftLeft]
  have e1 : ((1 : Int32).toBitVec.smod 32) = 1#32 := by decide
  rw [e1, BitVec.shiftLeft_eq']
  apply BitVec.eq_of_toNat_eq
  show ((BitVec.ofNat 32 n) <<< 1).toNat = (BitVec.ofNat 32 (2 * n)).toNat
  rw [BitVec.toNat_shiftLeft, BitVec.toNat_ofNat, BitVec.toNat_ofNat, Nat.shiftLeft_eq]
  omega
theorem nar8 (x : Int32) : nar .byte (StrChars.lo8 x) = StrChars.lo8 x := by
  show (x.toInt8.toInt32).toInt8.toInt32 = x.toInt8.toInt32
  rw [Int8.toInt8_toInt32]
theorem stI {ls ls2 : Array Slot} {k : Nat} {v : Int32} {o : Slot} (hold : ls[k]? = some o) (ho : One o) (h2 : ls.setIfInBounds k (.val (.int v)) = ls2) : storeLocals ls k (.int v) = some ls2 := by
  rw [← h2]; exact Jvm.Free.XS.store1 hold ho rfl
theorem safe0 {Z : State} {vm : Vm} {h : Heap} {x : Addr} : Safe Z [] vm h x := fun B => by obtain ⟨q, hq, -⟩ := B; cases hq
def upd (f : Nat → Int32) (i : Nat) (v : Int32) : Nat → Int32 := fun j => if j = i then v else f j
/-- the array a holds the n ints f 0 .. f (n - 1) -/
def Arg (Z : State) (h : Heap) (a : Addr) (k : ClassId) (ty : FieldType) (n : Nat) (f : Nat → Int32) : Prop := ∃ vs : List Value, Arv Z h a k ty (Int32.ofNat n) vs (.int 0) ∧ vs.length = n ∧ n < 2147483648 ∧ ∀ i, i < n → vs.getD i (.int 0) = .int (f i)
section A
variable {Z : State} {h h' : Heap} {a b : Addr} {k : ClassId} {ty : FieldType} {n : Nat} {f g : Nat → Int32}
theorem Arg.ext (A : Arg Z h a k ty n f) (E : Ext h h') : Arg Z h' a k ty n f := by obtain ⟨vs, q, r⟩ := A; exact ⟨vs, q.ext E, r⟩
theorem Arg.keep {ws : List Addr} (A : Arg Z h a k ty n f) (K : Keep h h' ws) (q : a ∉ ws) : Arg Z h' a k ty n f := by obtain ⟨vs, r, t⟩ := A; exact ⟨vs, r.keep K q, t⟩
theorem Arg.other {sl : Nat} {v : Value} (A : Arg Z h b k ty n f) (W : Wr h h' a sl v) (q : b ≠ a) : Arg Z h' b k ty n f := by obtain ⟨vs, r, t⟩ := A; exact ⟨vs, r.other W q, t⟩
theorem Arg.lt (A : Arg Z h a k ty n f) : a < h.size := by obtain ⟨vs, r, t⟩ := A; exact r.lt
theorem Arg.arv (A : Arg Z h a k ty n f) : ∃ vs, Arv Z h a k ty (Int32.ofNat n) vs (.int 0) := by obtain ⟨vs, r, t⟩ := A; exact ⟨vs, r⟩
theorem Arg.small (A : Arg Z h a k ty n f) : n < 2147483648 := by obtain ⟨vs, r, t, u, -⟩ := A; exact u
theorem Arg.congr (A : Arg Z h a k ty n f) (q : ∀ i, i < n → f i = g i) : Arg Z h a k ty n g := by obtain ⟨vs, r, t, u, w⟩ := A; exact ⟨vs, r, t, u, fun i hi => by rw [w i hi, q i hi]⟩
theorem Arg.new (hn : n < 2147483648) (V : Arv Z h a k ty (Int32.ofNat n) (List.replicate (Int32.ofNat n).toNatClampNeg (.int 0)) (.int 0)) : Arg Z h a k ty n (fun _ => 0) := ⟨_, V, by rw [List.length_replicate, n32 hn], hn, fun i hi => by
  rw [n32 hn]; simp [List.getD_eq_getElem?_getD, hi]⟩
end A
section P
variable {p : Program} {l : Launch} {e : Env} {R : Room} {s : State} {m : MethodId} {args : Array Value} {below : List Frame} {meth : Method} {c : Code} {code : ByteArray} {Z : State} {EL : List (String × Nat)} {wl : List Addr} {hS : Heap} {own : String} {vm0 : Vm} {T : State} {locs : List Loc} {cells slots : Nat} {h : Heap} {a0 : Array Value} {G : Outcome → State → Prop} {pc pc1 pc2 : Nat} {ls ls2 : Array Slot} {st : List Value}
theorem Pos.ldCg (P : Pos p l e R s m args below meth c code Z EL wl hS own vm0 T locs cells slots h) {a : Addr} {k : ClassId} {n i : Nat} {f : Nat → Int32} (V : Arg Z h a k .char n f) (hi : i < n) (hd : decode code pc = .ok (.caload, 1)) (hp : pc + 1 = pc1) (K : Go p.tables e below G (T.setTop (mkF m pc1 ls (.int (f i) :: st)))) : Go p.tables e below G (T.setTop (mkF m pc ls (.int (Int32.ofNat i) :: .ref a :: st))) := by
  obtain ⟨vs, r, t, u, w⟩ := V
  exact P.ldC r (nn32 (by omega)) (by rw [n32 (by omega), n32 u]; exact hi) (by rw [n32 (by omega)]; exact w i hi) hd hp K
theorem Pos.ldBg (P : Pos p l e R s m args below meth c code Z EL wl hS own vm0 T locs cells slots h) {a : Addr} {k : ClassId} {n i : Nat} {f : Nat → Int32} (V : Arg Z h a k .byte n f) (hi : i < n) (hd : decode code pc = .ok (.baload, 1)) (hp : pc + 1 = pc1) (K : Go p.tables e below G (T.setTop (mkF m pc1 ls (.int (f i) :: st)))) : Go p.tables e below G (T.setTop (mkF m pc ls (.int (Int32.ofNat i) :: .ref a :: st))) := by
  obtain ⟨vs, r, t, u, w⟩ := V
  exact P.ldB r (nn32 (by omega)) (by rw [n32 (by omega), n32 u]; exact hi) (by rw [n32 (by omega)]; exact w i hi) hd hp K
theorem Arg.set_ {a : Addr} {k : ClassId} {ty : FieldType} {n i : Nat} {f : Nat → Int32} {vs : List Value} {v : Int32} (V : Arv Z h a k ty (Int32.ofNat n) (vs.set i (.int v)) (.int 0)) (t : vs.length = n) (u : n < 2147483648) (w : ∀ i, i < n → vs.getD i (.int 0) = .int (f i)) : Arg Z h a k ty n (upd f i v) := by
  refine ⟨_, V, by rw [List.length_set]; exact t, u, fun j hj => ?_⟩
  simp only [List.getD_eq_getElem?_getD, List.getElem?_set, upd]
  by_cases q : i = j
  · subst q; simp [t, hj]
  · rw [if_neg q, if_neg (Ne.symm q), ← List.getD_eq_getElem?_getD]; exact w j hj
theorem Pos.stBg (P : Pos p l e R s m args below meth c code Z EL wl hS own vm0 T locs cells slots h) {a : Addr} {k : ClassId} {n i : Nat} {f : Nat → Int32} {x : Int32} (V : Arg Z h a k .byte n f) (hi : i < n) (ga : a ∈ wl ∨ hS.size ≤ a) (S : Safe Z EL vm0 h a) (hd : decode code pc = .ok (.bastore, 1)) (hp : pc + 1 = pc1)
    (K : ∀ (T' : State) (h' : Heap), Pos p l e R s m args below meth c code Z EL wl hS own vm0 T' (locs ++ [⟨a, (Int32.ofNat i).toNatClampNeg⟩]) cells slots h' → Wr h h' a (Int32.ofNat i).toNatClampNeg (.int (nar .byte x)) → Arg Z h' a k .byte n (upd f i (nar .byte x)) → Go p.tables e below G (T'.setTop (mkF m pc1 ls st))) : Go p.tables e below G (T.setTop (mkF m pc ls (.int x :: .int (Int32.ofNat i) :: .ref a :: st))) := by
  obtain ⟨vs, r, t, u, w⟩ := V
  exact P.stB r (nn32 (by omega)) (n32 (by omega)) (by omega) (by rw [n32 u, t]) ga S hd hp (fun T' h' P' W' V' => K T' h' P' W' (Arg.set_ V' t u w))
theorem Pos.stCg (P : Pos p l e R s m args below meth c code Z EL wl hS own vm0 T locs cells slots h) {a : Addr} {k : ClassId} {n i : Nat} {f : Nat → Int32} {x : Int32} (V : Arg Z h a k .char n f) (hi : i < n) (ga : a ∈ wl ∨ hS.size ≤ a) (S : Safe Z EL vm0 h a) (hd : decode code pc = .ok (.castore, 1)) (hp : pc + 1 = pc1)
    (K : ∀ (T' : State) (h' : Heap), Pos p l e R s m args below meth c code Z EL wl hS own vm0 T' (locs ++ [⟨a, (Int32.ofNat i).toNatClampNeg⟩]) cells slots h' → Wr h h' a (Int32.ofNat i).toNatClampNeg (.int (nar .char x)) → Arg Z h' a k .char n (upd f i (nar .char x)) → Go p.tables e below G (T'.setTop (mkF m pc1 ls st))) : Go p.tables e below G (T.setTop (mkF m pc ls (.int x :: .int (Int32.ofNat i) :: .ref a :: st))) := by
  obtain ⟨vs, r, t, u, w⟩ := V
  exact P.stC r (nn32 (by omega)) (n32 (by omega)) (by omega) (by rw [n32 u, t]) ga S hd hp (fun T' h' P' W' V' => K T' h' P' W' (Arg.set_ V' t u w))
theorem Pos.lenG (P : Pos p l e R s m args below meth c code Z EL wl hS own vm0 T locs cells slots h) {a : Addr} {k : ClassId} {ty : FieldType} {n : Nat} {f : Nat → Int32} (V : Arg Z h a k ty n f) (hd : decode code pc = .ok (.arraylength, 1)) (hp : pc + 1 = pc1) (K : Go p.tables e below G (T.setTop (mkF m pc1 ls (.int (Int32.ofNat n) :: st)))) : Go p.tables e below G (T.setTop (mkF m pc ls (.ref a :: st))) := by
  obtain ⟨vs, r⟩ := V.arv; exact P.len r hd hp K
end P
theorem Arg.list {Z : State} {h : Heap} {a : Addr} {k : ClassId} {ty : FieldType} {n : Nat} {f : Nat → Int32} {cs : List Int32} (A : Arg Z h a k ty n f) (hl : cs.length = n) (q : ∀ i, i < n → f i = cs.getD i 0) : Arv Z h a k ty (Int32.ofNat n) (cs.map Value.int) (.int 0) := by
  obtain ⟨vs, V, t, u, w⟩ := A
  refine V.pad (fun i => ?_)
  by_cases hi : i < n
  · rw [w i hi, q i hi]
    simp only [List.getD_eq_getElem?_getD, List.getElem?_map]
    rw [List.getElem?_eq_getElem (by omega)]; rfl
  · simp only [List.getD_eq_getElem?_getD]
    rw [List.getElem?_eq_none (by simp; omega), List.getElem?_eq_none (by omega)]
theorem Arg.safe {Z : State} {h : Heap} {a : Addr} {k : ClassId} {ty : FieldType} {n : Nat} {f : Nat → Int32} {EL : List (String × Nat)} {vm : Vm} (hal : Z.vm.Alike vm) (A : Arg Z h a k ty n f) (ht : ty ≠ .byte) : Safe Z EL vm h a := by
  obtain ⟨vs, V, -⟩ := A; exact Safe.arv hal V ht
/-- how n chars f lie in N bytes g, by the coder cd -/
def Cdd (n : Nat) (f : Nat → Int32) (cd : Int32) (N : Nat) (g : Nat → Int32) : Prop := (cd = 0 ∧ N = n ∧ ∀ i, i < n → g i = StrChars.lo8 (f i) ∧ ¬ (255 : Int32) < f i) ∨ (cd = 1 ∧ N = 2 * n ∧ (∀ i, i < n → g (2 * i) = StrChars.lo8 (f i) ∧ g (2 * i + 1) = StrChars.hi8 (f i)) ∧ ∃ i, i < n ∧ (255 : Int32) < f i)
/-- x is a String of the n chars f -/
def UStr (Z : State) (h : Heap) (x : Addr) (n : Nat) (f : Nat → Int32) : Prop := ∃ (t : Addr) (kb : ClassId) (cd : Int32) (N : Nat) (g : Nat → Int32), Exa Z h x "java/lang/String" ∧ Fld Z h x "java/lang/String" "value" "[B" (.ref t) ∧ Fld Z h x "java/lang/String" "coder" "B" (.int cd) ∧ Arg Z h t kb .byte N g ∧ Cdd n f cd N g ∧ (∀ i, i < n → ¬ f i < 0 ∧ ¬ (65535 : Int32) < f i) ∧ 2 * n < 2147483648
theorem UStr.ext {Z : State} {h h' : Heap} {x : Addr} {n : Nat} {f : Nat → Int32} (S : UStr Z h x n f) (E : Ext h h') : UStr Z h' x n f := by
  obtain ⟨t, kb, cd, N, g, a, b, c, d, r⟩ := S; exact ⟨t, kb, cd, N, g, a.ext E, b.ext E, c.ext E, d.ext E, r⟩
theorem UStr.exa {Z : State} {h : Heap} {x : Addr} {n : Nat} {f : Nat → Int32} (S : UStr Z h x n f) : Exa Z h x "java/lang/String" := by
  obtain ⟨t, kb, cd, N, g, a, r⟩ := S; exact a
theorem UStr.congr {Z : State} {h : Heap} {x : Addr} {n : Nat} {f f' : Nat → Int32} (S : UStr Z h x n f) (q : ∀ i, i < n → f i = f' i) : UStr Z h x n f' := by
  obtain ⟨t, kb, cd, N, g, a, b, c, d, r, u, w⟩ := S
  refine ⟨t, kb, cd, N, g, a, b, c, d, ?_, fun i hi => by rw [← q i hi]; exact u i hi, w⟩
  rcases r with ⟨r1, r2, r3⟩ | ⟨r1, r2, r3, j, r4, r5⟩
  · exact Or.inl ⟨r1, r2, fun i hi => by rw [← q i hi]; exact r3 i hi⟩
  · exact Or.inr ⟨r1, r2, fun i hi => by rw [← q i hi]; exact r3 i hi, j, r4, by rw [← q j r4]; exact r5⟩
theorem Arg.of {Z : State} {h : Heap} {a : Addr} {k : ClassId} {ty : FieldType} {vs : List Value} {f : Nat → Int32} (n : Nat) (V : Arv Z h a k ty (Int32.ofNat n) vs (.int 0)) (hl : vs.length = n) (hn : n < 2147483648) (w : ∀ i, i < n → vs.getD i (.int 0) = .int (f i)) : Arg Z h a k ty n f := ⟨vs, V, hl, hn, w⟩
theorem Cdd.cd {n : Nat} {f : Nat → Int32} {cd : Int32} {N : Nat} {g : Nat → Int32} (h : Cdd n f cd N g) : cd = 0 ∨ cd = 1 := h.imp (fun q => q.1) (fun q => q.1)
theorem Cdd.len {n : Nat} {f : Nat → Int32} {cd : Int32} {N : Nat} {g : Nat → Int32} (h : Cdd n f cd N g) (hn : 2 * n < 2147483648) : Int32.ofNat N >>> (cd &&& 31) = Int32.ofNat n := by
  rcases h with ⟨rfl, rfl, -⟩ | ⟨rfl, rfl, -⟩
  · exact StrChars.shr0 _
  · exact StrChars.shr1 hn
theorem Cdd.cfal {n : Nat} {f : Nat → Int32} {cd : Int32} {N : Nat} {g : Nat → Int32} (h : Cdd n f cd N g) (h0 : 0 < n) (hn : 2 * n < 2147483648) : (Jvm.Free.XT.ushr (Int32.ofNat n - Int32.ofNat N) 31).toInt8.toInt32 = cd := by
  rcases h with ⟨rfl, rfl, -⟩ | ⟨rfl, rfl, -⟩
  · rw [Int32.sub_self]; decide
  · have e : Jvm.Free.XT.ushr (Int32.ofNat n - Int32.ofNat (2 * n)) 31 = 1 := by
      unfold Jvm.Free.XT.ushr
      have e0 : ((31 : Int32) &&& 31).toUInt32 = 31 := by decide
      rw [e0]
      apply Int32.toBitVec_inj.mp
      apply BitVec.eq_of_toNat_eq
      show ((Int32.ofNat n - Int32.ofNat (2 * n)).toUInt32 >>> (31 : UInt32)).toNat = 1
      rw [UInt32.toNat_shiftRight]
      have e1 : (Int32.ofNat n - Int32.ofNat (2 * n)).toUInt32.toNat = 4294967296 - n := by
        show (BitVec.ofNat 32 n - BitVec.ofNat 32 (2 * n)).toNat = _
        rw [BitVec.toNat_sub, BitVec.toNat_ofNat, BitVec.toNat_ofNat]; omega
      rw [e1, Nat.shiftRight_eq_div_pow]
      show (4294967296 - n) / 2147483648 = 1
      omega
    rw [e]; decide
end W
end Jvm.Pilot.@@N@@
namespace Jvm.Pilot.@@N@@
namespace W
open Jvm Jvm.ClassFile Sem Op Lib Jvm.Free Jvm.Stand Jvm.LawKit Jvm.RoadKit Bundle
theorem declares_of {Z : State} {a0 : Array Value} {y : MethodName} {bytes : ByteArray} {maxL : Nat} {ret : Option FieldType} (wi : (Jvm.Cond.instanceMethod y).before a0 Z = true) (wc : (Jvm.Cond.code y bytes maxL ret).before a0 Z = true) : (Jvm.Cond.declares y).before a0 Z = true := by
  obtain ⟨mk, meth, hn, hm, hs, -⟩ := Cond.instanceMethod_spec wi
  obtain ⟨m2, cM, q1, -, -, -, -, -, -, hsig⟩ := Cond.code_spec hn wc
  cases hm.symm.trans q1
  simp [Cond.before, Cond.holds, Cond.value, hn, hm, hs, hsig]
/-- a class that declares a method of its own, and is no interface, finds it -/
theorem same_of {Z : State} {a0 : Array Value} {y z : MethodName} (wi : (Jvm.Cond.instanceMethod y).before a0 Z = true) (hz : z.cls = y.cls) (wz : (Jvm.Cond.instanceMethod z).before a0 Z = true) (nf : NotFace Z z) (hy : y.cls ≠ "java/lang/invoke/MethodHandle" ∧ y.cls ≠ "java/lang/invoke/VarHandle") : (Jvm.Cond.sameMethod y.cls y.cls y.name y.desc).before a0 Z = true := by
  obtain ⟨mk, meth, hn, hm, hs, -⟩ := Cond.instanceMethod_spec wi
  obtain ⟨mz, methz, hnz, -⟩ := Cond.instanceMethod_spec wz
  obtain ⟨k, hk, hi⟩ := nf mz hnz
  have hc := findClass_of_methodNamed hn
  have hcz := findClass_of_methodNamed hnz
  rw [hz, hc] at hcz
  have e : mk.cls = mz.cls := Option.some.inj hcz
  have hf := State.methodFound?_of_named hn hy
  have hn' : Z.methodNamed? ⟨y.cls, y.name, y.desc⟩ = some mk := hn
  simp [Cond.before, Cond.holds, Cond.value, hc, hf, hn', e, hk, hi]
theorem nf_of {s : State} {args : Array Value} {y z : MethodName} (hz : z.cls = y.cls) (wz : (Jvm.Cond.instanceMethod z).before args s = true) (nf : NotFace s z) : NotFace s y := fun r0 h0 => by
  obtain ⟨mz, methz, hnz, -⟩ := Cond.instanceMethod_spec wz
  obtain ⟨k, hk, hi⟩ := nf mz hnz
  have hc := findClass_of_methodNamed h0
  have hcz := findClass_of_methodNamed hnz
  rw [hz, hc] at hcz
  have e : r0.cls = mz.cls := Option.some.inj hcz
  exact ⟨k, by rw [e]; exact hk, hi⟩
/-- what a copy of q places leaves -/
def cpy (f g : Nat → Int32) (sp dp q : Nat) : Nat → Int32 := fun j => if dp ≤ j ∧ j < dp + q then f (sp + (j - dp)) else g j
section P
variable {p : Program} {l : Launch} {e : Env} {R : Room} {s : State} {m : MethodId} {args : Array Value} {below : List Frame} {meth : Method} {c : Code} {code : ByteArray} {Z : State} {EL : List (String × Nat)} {wl : List Addr} {hS : Heap} {own : String} {vm0 : Vm} {T : State} {locs : List Loc} {cells slots : Nat} {h : Heap} {a0 : Array Value} {G : Outcome → State → Prop} {pc pc1 pc2 : Nat} {ls ls2 : Array Slot} {st : List Value}
theorem Pos.copyB (P : Pos p l e R s m args below meth c code Z EL wl hS own vm0 T locs cells slots h) {index : Nat} {a b : Addr} {k k' : ClassId} {n N sp dp q W : Nat} {f g : Nat → Int32} (w1 : (Jvm.Cond.methodLink own index Jvm.Stand.acN).before a0 Z = true) (w2 : (Jvm.Cond.native Jvm.Stand.acN).before a0 Z = true) (w3 : (Jvm.Cond.static Jvm.Stand.acN).before a0 Z = true) (w4 : (Jvm.Cond.initialized "java/lang/System").before a0 Z = true) (A : Arg Z h a k .byte n f) (B : Arg Z h b k' .byte N g) (hsp : sp + q ≤ n) (hdp : dp + q ≤ N) (ga : b ∈ wl ∨ hS.size ≤ b) (S : Safe Z EL vm0 h b) (hsize : ls.size = c.maxLocals) (hf : 1 ≤ R.frames) (hW : (st.map fun v => v.category).sum ≤ W) (hl : W + 18 ≤ R.locals) (hd : decode code pc = .ok (.invokestatic index, 3)) (hp : pc + 3 = pc1)
    (K : ∀ (T' : State) (h' : Heap), Pos p l e R s m args below meth c code Z EL wl hS own vm0 T' (locs ++ Jvm.Stand.copyLocs b dp q) cells slots h' → Keep h h' [b] → Arg Z h' b k' .byte N (cpy f g sp dp q) → Go p.tables e below G (T'.setTop (mkF m pc1 ls st))) :
    Go p.tables e below G (T.setTop (mkF m pc ls (.int (Int32.ofNat q) :: .int (Int32.ofNat dp) :: .ref b :: .int (Int32.ofNat sp) :: .ref a :: st))) := by
  subst hp
  obtain ⟨vs, A, la, na, fa⟩ := A
  obtain ⟨vd, B, lb, nb, fb⟩ := B
  obtain ⟨cs, As, qs, Ss, -, Hs, Gs⟩ := A
  obtain ⟨cd, Ad, qd, Sd, Nd, Hd, Gd⟩ := B
  rw [n32 na] at Ss
  rw [n32 nb] at Sd
  obtain ⟨os, ks, hks, sc, hsk⟩ := State.isArrayOf_alike P.hz.alike As.2.1
  obtain ⟨od, kd, hkd, dc, hdk⟩ := State.isArrayOf_alike P.hz.alike Ad.2.1
  have gv : ∀ i, i < n → cs.slots.getD i .null = .int (f i) := fun i hi => by
    have := Hs i (by omega); rw [Array.getD_eq_getD_getElem?, this]; exact fa i hi
  have fv : ∀ i, i < n → fits .byte (.int (f i)) = true := fun i hi => by have := Gs i (by omega); rwa [fa i hi] at this
  have e1 : (Int32.ofNat sp).toNatClampNeg = sp := n32 (by omega)
  have e2 : (Int32.ofNat dp).toNatClampNeg = dp := n32 (by omega)
  have e3 : (Int32.ofNat q).toNatClampNeg = q := n32 (by omega)
  obtain ⟨vm₁, hW₁, X', stp⟩ := P.1.arraycopyK P.q.2.1 P.2.2.2.2.1 (mvT P.hz w1) (mvT P.hz w2) (mvT P.hz w3) (mvT P.hz w4) (src := a) (dst := b) (srcPos := Int32.ofNat sp) (destPos := Int32.ofNat dp) (n := Int32.ofNat q) (by rw [P.heap]; exact As.1) (by rw [P.heap]; exact Ad.1) os od As.2.2 Ad.2.2 hks hkd hsk hdk rfl (nn32 (by omega)) (nn32 (by omega)) (nn32 (by omega)) (by rw [i32 (by omega), i32 (by omega), Ss]; omega) (by rw [i32 (by omega), i32 (by omega), Sd]; omega)
    (fun vm₁ hw i hi => by rw [e3] at hi; rw [e1, gv (sp + i) (by omega)]; exact ⟨fv _ (by omega), trivial⟩) (g := mkF m pc ls (.int (Int32.ofNat q) :: .int (Int32.ofNat dp) :: .ref b :: .int (Int32.ofNat sp) :: .ref a :: st)) rfl hsize rfl (hb P.q.2.2 hd) hf (by
      have e : nativeFrameWords "java/lang/System" "arraycopy" 5 = 7 := by decide +kernel
      show 2 * 0 + _ + _ ≤ _; rw [e]; omega)
  rw [e2, e3] at X'
  have hbz : b < h.size := Ad.lt
  have cf : (copied cs cd (Int32.ofNat sp) (Int32.ofNat dp) (Int32.ofNat q)).cls = cd.cls ∧ (copied cs cd (Int32.ofNat sp) (Int32.ofNat dp) (Int32.ofNat q)).vm = cd.vm ∧ (copied cs cd (Int32.ofNat sp) (Int32.ofNat dp) (Int32.ofNat q)).slots.size = cd.slots.size := let q := cd.storeRun_facts (Int32.ofNat dp).toNatClampNeg (cs.stretch (Int32.ofNat sp).toNatClampNeg (Int32.ofNat q).toNatClampNeg); ⟨q.1, q.2.1, q.2.2.1⟩
  have sl : ∀ j, j < N → (copied cs cd (Int32.ofNat sp) (Int32.ofNat dp) (Int32.ofNat q)).slots[j]? = some (.int (cpy f g sp dp q j)) := fun j hj => by
    show (cd.storeRun _ (cs.stretch _ _)).slots[j]? = _
    have ll : (cs.stretch sp q).length = q := by simp [Cell.stretch]
    rw [e1, e2, e3, Cell.storeRun_get _ _ _ _ (by rw [ll, Sd]; exact hdp), ll]
    unfold cpy
    by_cases c1 : dp ≤ j ∧ j < dp + q
    · rw [if_pos c1, if_pos c1]
      have : (cs.stretch sp q)[j - dp]? = some (cs.slots.getD (sp + (j - dp)) .null) := by
        simp only [Cell.stretch, List.getElem?_map]; rw [List.getElem?_range (by omega)]; rfl
      rw [this, gv _ (by omega)]
    · rw [if_neg c1, if_neg c1]
      have := Hd j (by omega); rw [fb j hj] at this; exact this
  have fc : ∀ j, j < N → fits .byte (.int (cpy f g sp dp q j)) = true := fun j hj => by
    unfold cpy
    by_cases c1 : dp ≤ j ∧ j < dp + q
    · rw [if_pos c1]; exact fv _ (by omega)
    · rw [if_neg c1]; have := Gd j (by omega); rwa [fb j hj] at this
  generalize copied cs cd (Int32.ofNat sp) (Int32.ofNat dp) (Int32.ofNat q) = cc at *
  have eh : ((T.setVm vm₁).setCell b cc).heap = h.setIfInBounds b cc := by rw [← P.heap]; rfl
  have KK : Keep h (h.setIfInBounds b cc) [b] := by
    refine ⟨by simp, fun x c q r => ?_, fun x c q => ?_⟩
    · have : b ≠ x := fun z => r (by simp [z])
      rw [Array.getElem?_setIfInBounds_ne this]; exact q
    · by_cases u : b = x
      · subst u; cases Ad.1.symm.trans q
        exact ⟨_, by rw [Array.getElem?_setIfInBounds_self_of_lt hbz], cf.1, cf.2.1, cf.2.2⟩
      · exact ⟨c, by rw [Array.getElem?_setIfInBounds_ne u]; exact q, rfl, rfl, rfl⟩
  have AA : Arg Z (h.setIfInBounds b cc) b k' .byte N (cpy f g sp dp q) := by
    have gd : ∀ j, j < N → ((List.range N).map fun j => Value.int (cpy f g sp dp q j)).getD j (.int 0) = .int (cpy f g sp dp q j) := fun j hj => by
      rw [List.getD_eq_getElem?_getD, List.getElem?_map, List.getElem?_range hj]; rfl
    refine ⟨(List.range N).map fun j => Value.int (cpy f g sp dp q j), ⟨cc, ⟨by rw [Array.getElem?_setIfInBounds_self_of_lt hbz], ?_, by rw [cf.2.1]; exact Ad.2.2⟩, cf.1.trans qd, by rw [cf.2.2, Sd, n32 nb], Nd, fun j hj => ?_, fun j hj => ?_⟩, by simp, nb, gd⟩
    · have := Ad.2.1; unfold State.isArrayOf at this ⊢; rw [cf.1, cf.2.1]; exact this
    · rw [cf.2.2, Sd] at hj; rw [gd j hj]; exact sl j hj
    · rw [cf.2.2, Sd] at hj; rw [gd j hj]; exact fc j hj
  have PP := P.came X' (fun y hy => by rw [copyLocs_base hy]; exact ga) (by rw [eh]; exact CHr.keep KK (sfS S sf0) P.chv)
  rw [eh] at PP
  exact Go.via stp (K _ _ PP KK AA)
end P
end W
end Jvm.Pilot.@@N@@
namespace Jvm.Pilot.@@N@@
namespace W
open Jvm Jvm.ClassFile Sem Op Lib Jvm.Free Jvm.Stand Jvm.LawKit Jvm.RoadKit Bundle
def QEq (cs ds : List Int32) (h0 : Heap) (v : Option Value) (h : Heap) (L : List Loc) : Prop := ((v = some (.int 1) ∧ cs = ds) ∨ (v = some (.int 0) ∧ ¬ cs = ds)) ∧ L = [] ∧ h0 = h
theorem QEq.ok {cs ds : List Int32} {h0 : Heap} {Z : State} {EL : List (String × Nat)} {vm0 : Vm} {wl : List Addr} {n : Nat} (H : CHv Z EL vm0 h0) : ∀ u h L, QEq cs ds h0 u h L → Frw wl n L ∧ CHr Z EL vm0 h0 vm0 h := fun u h L q => by
  obtain ⟨-, rfl, rfl⟩ := q; exact ⟨Frw.nil, CHr.refl H⟩
theorem Str.eqPay {p : Program} {l : Launch} {e : Env} {R : Room} {s : State} {args : Array Value} {below : List Frame} {len k : Nat} {Z : State} {a0 : Array Value} {h : Heap} {vm0 : Vm} (hZ : Z.Warmed39 (s.setVm vm0).vm) (hw : ∀ d ∈ StrChars.Road.wordsEq, d.before a0 Z = true) (wi : (Jvm.Cond.instantiable "java/lang/String" 4).before a0 Z = true) {x y : Addr} {cs ds : List Int32} (S1 : Str Z h x cs) (S2 : Str Z h y ds) {z : Int32} (C : Sta Z h "java/lang/String" "COMPACT_STRINGS" "Z" (.int z)) (hz : ¬ z = 0) (hfr : 2 ≤ R.frames) (hlo : k + 28 ≤ R.locals) :
    Back l R p e below (s.setVm vm0) args (⟨"java/lang/String", "equals", "(Ljava/lang/Object;)Z"⟩ : MethodName) len k (fun P a => a = #[.ref x, .ref y] ∧ P.U.heap = h ∧ P.cells + 0 ≤ R.cells ∧ P.slots + 0 ≤ R.slots)
      (fun P _ v B => ∃ L, QEq cs ds h v B.U.heap L ∧ B.locs = P.locs ++ L ∧ B.cells = P.cells + 0 ∧ B.slots = P.slots + 0) := by
  obtain ⟨t, kb, N, cd, vs, a, b, c, d, f, g, i⟩ := S1
  obtain ⟨t', kb', N', cd', vs', a', b', c', d', f', g', i'⟩ := S2
  exact Back.mono (StrChars.Road.eqW hZ hw wi a b c d f g i a' b' c' d' f' g' i' C hz hfr hlo) (fun _ _ q => q) (fun _ _ _ _ _ q => by obtain ⟨L, ⟨q1, q2, q3⟩, r⟩ := q; exact ⟨L, ⟨q1, q2, q3.symm⟩, r⟩)
end W
end Jvm.Pilot.@@N@@
namespace Jvm.Pilot.@@N@@
open Jvm Jvm.ClassFile Sem Op Lib Jvm.Free Jvm.Stand Jvm.LawKit Jvm.RoadKit Bundle Jvm.Pilot.@@N@@.Jvm.D
theorem wd {a0 : Array Value} {Z : State} (hw : ∀ d ∈ tables_1, d.before a0 Z = true) {k : Nat} {d : Jvm.Cond} (h : tables_1[k]? = some d) : d.before a0 Z = true := hw d (List.mem_of_getElem? h)
abbrev ownEL : List (String × Nat) := [("com/example/triage/triage/search/CaseTopics$Topic", 47), ("com/example/triage/triage/search/TopicQueryPinLaw", 25)]
theorem own_atoms : ∀ d ∈ Bundle.stringAtoms, d ∈ tables_1 := by decide +kernel
theorem own_consts : ∀ p ∈ ownEL, p ∈ consts_1 := by decide +kernel
theorem own_words : ∀ d ∈ StrChars.Road.words, d ∈ tables_1 := by decide +kernel
theorem own_wordsEq : ∀ d ∈ StrChars.Road.wordsEq, d ∈ tables_1 := by decide +kernel
theorem own_up {c : Int32} (h : ¬ (255 : Int32) < c) : ¬ (65535 : Int32) < c := by
  rw [Int32.lt_iff_toInt_lt] at h ⊢
  have e0 : (255 : Int32).toInt = 255 := rfl
  have e1 : (65535 : Int32).toInt = 65535 := rfl
  omega
theorem own_m255 (x : Int32) : ¬ (x &&& 255) < 0 ∧ ¬ (255 : Int32) < (x &&& 255) := by
  have q := c_mask x 255 8 (by decide) (by decide)
  have e0 : (0 : Int32).toInt = 0 := rfl
  have e1 : (255 : Int32).toInt = 255 := rfl
  rw [Int32.lt_iff_toInt_lt, Int32.lt_iff_toInt_lt]; omega
theorem own_nar255 (x : Int32) : nar .char (x &&& 255) = x &&& 255 := i2c_mask x
theorem own_mask3 (x : Int32) : (x &&& 3) = 0 ∨ (x &&& 3) = 1 ∨ (x &&& 3) = 2 ∨ (x &&& 3) = 3 := by
  have q := c_mask x 3 2 (by decide) (by decide)
  have r : (x &&& 3).toInt = 0 ∨ (x &&& 3).toInt = 1 ∨ (x &&& 3).toInt = 2 ∨ (x &&& 3).toInt = 3 := by omega
  rcases r with r | r | r | r
  · exact Or.inl (Int32.toInt_inj.mp r)
  · exact Or.inr (Or.inl (Int32.toInt_inj.mp r))
  · exact Or.inr (Or.inr (Or.inl (Int32.toInt_inj.mp r)))
  · exact Or.inr (Or.inr (Or.inr (Int32.toInt_inj.mp r)))
theorem own_rem (y : Int32) (k : Int32) (h : 0 ≤ y.toInt) (hk : 0 < k.toInt) : (y - y / k * k).toInt = y.toInt % k.toInt := by
  have d : (y / k).toInt = y.toInt / k.toInt := by
    rw [Int32.toInt_div, Int.tdiv_eq_ediv_of_nonneg h]
    have h1 : 0 ≤ y.toInt / k.toInt := Int.ediv_nonneg h (by omega)
    have h2 : y.toInt / k.toInt ≤ y.toInt := Int.ediv_le_self _ h
    have h3 := y.toInt_lt
    rw [Int.bmod_eq_of_le (by omega) (by omega)]
  have e := Int.mul_ediv_add_emod y.toInt k.toInt
  have e' : y.toInt / k.toInt * k.toInt = k.toInt * (y.toInt / k.toInt) := Int.mul_comm _ _
  have m0 := Int.emod_nonneg y.toInt (show k.toInt ≠ 0 by omega)
  have h0 : 0 ≤ k.toInt * (y.toInt / k.toInt) := Int.mul_nonneg (by omega) (Int.ediv_nonneg h (by omega))
  have h3 := y.toInt_lt
  have q : (y / k * k).toInt = y.toInt / k.toInt * k.toInt := by
    rw [Int32.toInt_mul, d, Int.bmod_eq_of_le (by omega) (by omega)]
  rw [Int32.toInt_sub, q, Int.bmod_eq_of_le (by omega) (by omega)]; omega
theorem own_eqI {args : Array Value} {first s : State} {o : Option Outcome} {idx : List Nat} {t : Term} {k : Int32} (h : (Jvm.Cond.eq t (.int k)).value args first o s idx = some true) : t.eval args first o idx s = some (.int k) := by
  obtain ⟨x, y, e1, e2, -, k2⟩ := cmp_v (Or.inl h)
  cases Option.some.inj ((Term.int_eval k).symm.trans e2)
  obtain ⟨z, rfl⟩ := k2
  rw [e1, gotT (Cond.eq_ints e1 e2) h]
theorem own_rf {C : String} {v : Value} (h : v.isRef = true) : narrow (.object C) v = v ∧ fits (.object C) v = true := by cases v <;> first | (cases h; done) | exact ⟨rfl, rfl⟩
theorem d7_0 : decode jdk_32_method_1_code 0 = .ok (.getstatic 1, 3) := by decide +kernel
theorem d7_3 : decode jdk_32_method_1_code 3 = .ok (.astore_n 0, 1) := by decide +kernel
theorem d7_4 : decode jdk_32_method_1_code 4 = .ok (.aload_n 0, 1) := by decide +kernel
theorem d7_5 : decode jdk_32_method_1_code 5 = .ok (.areturn, 1) := by decide +kernel
theorem d8_0 : decode prog_40_method_1_code 0 = .ok (.aload_n 0, 1) := by decide +kernel
theorem d8_1 : decode prog_40_method_1_code 1 = .ok (.invokespecial 1, 3) := by decide +kernel
theorem d8_4 : decode prog_40_method_1_code 4 = .ok (.aload_n 0, 1) := by decide +kernel
theorem d8_5 : decode prog_40_method_1_code 5 = .ok (.iload_n 1, 1) := by decide +kernel
theorem d8_6 : decode prog_40_method_1_code 6 = .ok (.putfield 7, 3) := by decide +kernel
theorem d8_9 : decode prog_40_method_1_code 9 = .ok (.aload_n 0, 1) := by decide +kernel
theorem d8_10 : decode prog_40_method_1_code 10 = .ok (.aload_n 2, 1) := by decide +kernel
theorem d8_11 : decode prog_40_method_1_code 11 = .ok (.putfield 13, 3) := by decide +kernel
theorem d8_14 : decode prog_40_method_1_code 14 = .ok (.aload_n 0, 1) := by decide +kernel
theorem d8_15 : decode prog_40_method_1_code 15 = .ok (.aload_n 3, 1) := by decide +kernel
theorem d8_16 : decode prog_40_method_1_code 16 = .ok (.putfield 17, 3) := by decide +kernel
theorem d8_19 : decode prog_40_method_1_code 19 = .ok (.aload_n 0, 1) := by decide +kernel
theorem d8_20 : decode prog_40_method_1_code 20 = .ok (.aload 4, 2) := by decide +kernel
theorem d8_22 : decode prog_40_method_1_code 22 = .ok (.putfield 21, 3) := by decide +kernel
theorem d8_25 : decode prog_40_method_1_code 25 = .ok (.aload_n 0, 1) := by decide +kernel
theorem d8_26 : decode prog_40_method_1_code 26 = .ok (.aload 5, 2) := by decide +kernel
theorem d8_28 : decode prog_40_method_1_code 28 = .ok (.putfield 24, 3) := by decide +kernel
theorem d8_31 : decode prog_40_method_1_code 31 = .ok (.return_, 1) := by decide +kernel
theorem d9_0 : decode jdk_30_method_1_code 0 = .ok (.aload_n 0, 1) := by decide +kernel
theorem d9_1 : decode jdk_30_method_1_code 1 = .ok (.invokespecial 1, 3) := by decide +kernel
theorem d9_4 : decode jdk_30_method_1_code 4 = .ok (.return_, 1) := by decide +kernel
theorem d10_0 : decode prog_40_method_2_code 0 = .ok (.aload_n 1, 1) := by decide +kernel
theorem d10_1 : decode prog_40_method_2_code 1 = .ok (.getstatic 28, 3) := by decide +kernel
theorem d10_4 : decode prog_40_method_2_code 4 = .ok (.if_acmp .ne 10, 3) := by decide +kernel
theorem d10_7 : decode prog_40_method_2_code 7 = .ok (.aload_n 0, 1) := by decide +kernel
theorem d10_8 : decode prog_40_method_2_code 8 = .ok (.getfield 21, 3) := by decide +kernel
theorem d10_11 : decode prog_40_method_2_code 11 = .ok (.goto 7, 3) := by decide +kernel
theorem d10_14 : decode prog_40_method_2_code 14 = .ok (.aload_n 0, 1) := by decide +kernel
theorem d10_15 : decode prog_40_method_2_code 15 = .ok (.getfield 17, 3) := by decide +kernel
theorem d10_18 : decode prog_40_method_2_code 18 = .ok (.astore_n 3, 1) := by decide +kernel
theorem d10_19 : decode prog_40_method_2_code 19 = .ok (.iload_n 2, 1) := by decide +kernel
theorem d10_20 : decode prog_40_method_2_code 20 = .ok (.ifCond .eq 46, 3) := by decide +kernel
theorem d10_23 : decode prog_40_method_2_code 23 = .ok (.aload_n 0, 1) := by decide +kernel
theorem d10_24 : decode prog_40_method_2_code 24 = .ok (.getfield 24, 3) := by decide +kernel
theorem d10_27 : decode prog_40_method_2_code 27 = .ok (.invokevirtual 34, 3) := by decide +kernel
theorem d10_30 : decode prog_40_method_2_code 30 = .ok (.ifCond .eq 36, 3) := by decide +kernel
theorem d10_33 : decode prog_40_method_2_code 33 = .ok (.new 40, 3) := by decide +kernel
theorem d10_36 : decode prog_40_method_2_code 36 = .ok (.dup, 1) := by decide +kernel
theorem d10_37 : decode prog_40_method_2_code 37 = .ok (.invokespecial 42, 3) := by decide +kernel
theorem d10_40 : decode prog_40_method_2_code 40 = .ok (.aload_n 3, 1) := by decide +kernel
theorem d10_41 : decode prog_40_method_2_code 41 = .ok (.invokevirtual 43, 3) := by decide +kernel
theorem d10_44 : decode prog_40_method_2_code 44 = .ok (.ldc 47, 2) := by decide +kernel
theorem d10_46 : decode prog_40_method_2_code 46 = .ok (.invokevirtual 43, 3) := by decide +kernel
theorem d10_49 : decode prog_40_method_2_code 49 = .ok (.aload_n 0, 1) := by decide +kernel
theorem d10_50 : decode prog_40_method_2_code 50 = .ok (.getfield 24, 3) := by decide +kernel
theorem d10_53 : decode prog_40_method_2_code 53 = .ok (.invokevirtual 49, 3) := by decide +kernel
theorem d10_56 : decode prog_40_method_2_code 56 = .ok (.checkcast 53, 3) := by decide +kernel
theorem d10_59 : decode prog_40_method_2_code 59 = .ok (.invokevirtual 43, 3) := by decide +kernel
theorem d10_62 : decode prog_40_method_2_code 62 = .ok (.invokevirtual 55, 3) := by decide +kernel
theorem d10_65 : decode prog_40_method_2_code 65 = .ok (.astore_n 3, 1) := by decide +kernel
theorem d10_66 : decode prog_40_method_2_code 66 = .ok (.aload_n 3, 1) := by decide +kernel
theorem d10_67 : decode prog_40_method_2_code 67 = .ok (.areturn, 1) := by decide +kernel
theorem d13_0 : decode jdk_32_method_3_code 0 = .ok (.new 2, 3) := by decide +kernel
theorem d13_3 : decode jdk_32_method_3_code 3 = .ok (.dup, 1) := by decide +kernel
theorem d13_4 : decode jdk_32_method_3_code 4 = .ok (.aload_n 0, 1) := by decide +kernel
theorem d13_5 : decode jdk_32_method_3_code 5 = .ok (.invokestatic 17, 3) := by decide +kernel
theorem d13_8 : decode jdk_32_method_3_code 8 = .ok (.invokespecial 23, 3) := by decide +kernel
theorem d13_11 : decode jdk_32_method_3_code 11 = .ok (.areturn, 1) := by decide +kernel
theorem d14_0 : decode jdk_31_method_10_code 0 = .ok (.aload_n 0, 1) := by decide +kernel
theorem d14_1 : decode jdk_31_method_10_code 1 = .ok (.ifnonnull 11, 3) := by decide +kernel
theorem d14_12 : decode jdk_31_method_10_code 12 = .ok (.aload_n 0, 1) := by decide +kernel
theorem d14_13 : decode jdk_31_method_10_code 13 = .ok (.areturn, 1) := by decide +kernel
theorem d15_0 : decode jdk_32_method_2_code 0 = .ok (.aload_n 0, 1) := by decide +kernel
theorem d15_1 : decode jdk_32_method_2_code 1 = .ok (.invokespecial 7, 3) := by decide +kernel
theorem d15_4 : decode jdk_32_method_2_code 4 = .ok (.aload_n 0, 1) := by decide +kernel
theorem d15_5 : decode jdk_32_method_2_code 5 = .ok (.aload_n 1, 1) := by decide +kernel
theorem d15_6 : decode jdk_32_method_2_code 6 = .ok (.putfield 13, 3) := by decide +kernel
theorem d15_9 : decode jdk_32_method_2_code 9 = .ok (.return_, 1) := by decide +kernel
theorem d16_0 : decode jdk_32_method_6_code 0 = .ok (.aload_n 0, 1) := by decide +kernel
theorem d16_1 : decode jdk_32_method_6_code 1 = .ok (.getfield 13, 3) := by decide +kernel
theorem d16_4 : decode jdk_32_method_6_code 4 = .ok (.ifnull 7, 3) := by decide +kernel
theorem d16_7 : decode jdk_32_method_6_code 7 = .ok (.iconst 1, 1) := by decide +kernel
theorem d16_8 : decode jdk_32_method_6_code 8 = .ok (.goto 4, 3) := by decide +kernel
theorem d16_11 : decode jdk_32_method_6_code 11 = .ok (.iconst 0, 1) := by decide +kernel
theorem d16_12 : decode jdk_32_method_6_code 12 = .ok (.ireturn, 1) := by decide +kernel
theorem d17_0 : decode jdk_67_method_1_code 0 = .ok (.aload_n 0, 1) := by decide +kernel
theorem d17_1 : decode jdk_67_method_1_code 1 = .ok (.bipush 16, 2) := by decide +kernel
theorem d17_3 : decode jdk_67_method_1_code 3 = .ok (.invokespecial 1, 3) := by decide +kernel
theorem d17_6 : decode jdk_67_method_1_code 6 = .ok (.return_, 1) := by decide +kernel
theorem d18_0 : decode jdk_68_method_2_code 0 = .ok (.aload_n 0, 1) := by decide +kernel
theorem d18_1 : decode jdk_68_method_2_code 1 = .ok (.invokespecial 3, 3) := by decide +kernel
theorem d18_4 : decode jdk_68_method_2_code 4 = .ok (.getstatic 18, 3) := by decide +kernel
theorem d18_7 : decode jdk_68_method_2_code 7 = .ok (.ifCond .eq 18, 3) := by decide +kernel
theorem d18_10 : decode jdk_68_method_2_code 10 = .ok (.aload_n 0, 1) := by decide +kernel
theorem d18_11 : decode jdk_68_method_2_code 11 = .ok (.iload_n 1, 1) := by decide +kernel
theorem d18_12 : decode jdk_68_method_2_code 12 = .ok (.newarray .byte, 2) := by decide +kernel
theorem d18_14 : decode jdk_68_method_2_code 14 = .ok (.putfield 15, 3) := by decide +kernel
theorem d18_17 : decode jdk_68_method_2_code 17 = .ok (.aload_n 0, 1) := by decide +kernel
theorem d18_18 : decode jdk_68_method_2_code 18 = .ok (.iconst 0, 1) := by decide +kernel
theorem d18_19 : decode jdk_68_method_2_code 19 = .ok (.putfield 22, 3) := by decide +kernel
theorem d18_22 : decode jdk_68_method_2_code 22 = .ok (.goto 16, 3) := by decide +kernel
theorem d18_38 : decode jdk_68_method_2_code 38 = .ok (.return_, 1) := by decide +kernel
theorem d19_0 : decode jdk_67_method_7_code 0 = .ok (.aload_n 0, 1) := by decide +kernel
theorem d19_1 : decode jdk_67_method_7_code 1 = .ok (.aload_n 1, 1) := by decide +kernel
theorem d19_2 : decode jdk_67_method_7_code 2 = .ok (.invokespecial 29, 3) := by decide +kernel
theorem d19_5 : decode jdk_67_method_7_code 5 = .ok (.pop, 1) := by decide +kernel
theorem d19_6 : decode jdk_67_method_7_code 6 = .ok (.aload_n 0, 1) := by decide +kernel
theorem d19_7 : decode jdk_67_method_7_code 7 = .ok (.areturn, 1) := by decide +kernel
theorem d20_0 : decode jdk_68_method_22_code 0 = .ok (.aload_n 1, 1) := by decide +kernel
theorem d20_1 : decode jdk_68_method_22_code 1 = .ok (.ifnonnull 8, 3) := by decide +kernel
theorem d20_9 : decode jdk_68_method_22_code 9 = .ok (.aload_n 1, 1) := by decide +kernel
theorem d20_10 : decode jdk_68_method_22_code 10 = .ok (.invokevirtual 32, 3) := by decide +kernel
theorem d20_13 : decode jdk_68_method_22_code 13 = .ok (.istore_n 2, 1) := by decide +kernel
theorem d20_14 : decode jdk_68_method_22_code 14 = .ok (.aload_n 0, 1) := by decide +kernel
theorem d20_15 : decode jdk_68_method_22_code 15 = .ok (.aload_n 0, 1) := by decide +kernel
theorem d20_16 : decode jdk_68_method_22_code 16 = .ok (.getfield 79, 3) := by decide +kernel
theorem d20_19 : decode jdk_68_method_22_code 19 = .ok (.iload_n 2, 1) := by decide +kernel
theorem d20_20 : decode jdk_68_method_22_code 20 = .ok (.iadd, 1) := by decide +kernel
theorem d20_21 : decode jdk_68_method_22_code 21 = .ok (.invokevirtual 100, 3) := by decide +kernel
theorem d20_24 : decode jdk_68_method_22_code 24 = .ok (.aload_n 0, 1) := by decide +kernel
theorem d20_25 : decode jdk_68_method_22_code 25 = .ok (.aload_n 0, 1) := by decide +kernel
theorem d20_26 : decode jdk_68_method_22_code 26 = .ok (.getfield 79, 3) := by decide +kernel
theorem d20_29 : decode jdk_68_method_22_code 29 = .ok (.aload_n 1, 1) := by decide +kernel
theorem d20_30 : decode jdk_68_method_22_code 30 = .ok (.invokevirtual 208, 3) := by decide +kernel
theorem d20_33 : decode jdk_68_method_22_code 33 = .ok (.aload_n 0, 1) := by decide +kernel
theorem d20_34 : decode jdk_68_method_22_code 34 = .ok (.dup, 1) := by decide +kernel
theorem d20_35 : decode jdk_68_method_22_code 35 = .ok (.getfield 79, 3) := by decide +kernel
theorem d20_38 : decode jdk_68_method_22_code 38 = .ok (.iload_n 2, 1) := by decide +kernel
theorem d20_39 : decode jdk_68_method_22_code 39 = .ok (.iadd, 1) := by decide +kernel
theorem d20_40 : decode jdk_68_method_22_code 40 = .ok (.putfield 79, 3) := by decide +kernel
theorem d20_43 : decode jdk_68_method_22_code 43 = .ok (.aload_n 0, 1) := by decide +kernel
theorem d20_44 : decode jdk_68_method_22_code 44 = .ok (.areturn, 1) := by decide +kernel
theorem d21_0 : decode jdk_42_method_54_code 0 = .ok (.aload_n 0, 1) := by decide +kernel
theorem d21_1 : decode jdk_42_method_54_code 1 = .ok (.getfield 9, 3) := by decide +kernel
theorem d21_4 : decode jdk_42_method_54_code 4 = .ok (.arraylength, 1) := by decide +kernel
theorem d21_5 : decode jdk_42_method_54_code 5 = .ok (.aload_n 0, 1) := by decide +kernel
theorem d21_6 : decode jdk_42_method_54_code 6 = .ok (.invokevirtual 335, 3) := by decide +kernel
theorem d21_9 : decode jdk_42_method_54_code 9 = .ok (.ishr, 1) := by decide +kernel
theorem d21_10 : decode jdk_42_method_54_code 10 = .ok (.ireturn, 1) := by decide +kernel
theorem d22_0 : decode jdk_42_method_152_code 0 = .ok (.getstatic 38, 3) := by decide +kernel
theorem d22_3 : decode jdk_42_method_152_code 3 = .ok (.ifCond .eq 10, 3) := by decide +kernel
theorem d22_6 : decode jdk_42_method_152_code 6 = .ok (.aload_n 0, 1) := by decide +kernel
theorem d22_7 : decode jdk_42_method_152_code 7 = .ok (.getfield 15, 3) := by decide +kernel
theorem d22_10 : decode jdk_42_method_152_code 10 = .ok (.goto 4, 3) := by decide +kernel
theorem d22_14 : decode jdk_42_method_152_code 14 = .ok (.ireturn, 1) := by decide +kernel
theorem d23_0 : decode jdk_68_method_9_code 0 = .ok (.aload_n 0, 1) := by decide +kernel
theorem d23_1 : decode jdk_68_method_9_code 1 = .ok (.getfield 15, 3) := by decide +kernel
theorem d23_4 : decode jdk_68_method_9_code 4 = .ok (.arraylength, 1) := by decide +kernel
theorem d23_5 : decode jdk_68_method_9_code 5 = .ok (.aload_n 0, 1) := by decide +kernel
theorem d23_6 : decode jdk_68_method_9_code 6 = .ok (.getfield 22, 3) := by decide +kernel
theorem d23_9 : decode jdk_68_method_9_code 9 = .ok (.ishr, 1) := by decide +kernel
theorem d23_10 : decode jdk_68_method_9_code 10 = .ok (.istore_n 2, 1) := by decide +kernel
theorem d23_11 : decode jdk_68_method_9_code 11 = .ok (.iload_n 1, 1) := by decide +kernel
theorem d23_12 : decode jdk_68_method_9_code 12 = .ok (.iload_n 2, 1) := by decide +kernel
theorem d23_13 : decode jdk_68_method_9_code 13 = .ok (.isub, 1) := by decide +kernel
theorem d23_14 : decode jdk_68_method_9_code 14 = .ok (.ifCond .le 24, 3) := by decide +kernel
theorem d23_38 : decode jdk_68_method_9_code 38 = .ok (.return_, 1) := by decide +kernel
theorem d24_0 : decode jdk_68_method_73_code 0 = .ok (.aload_n 0, 1) := by decide +kernel
theorem d24_1 : decode jdk_68_method_73_code 1 = .ok (.aload_n 2, 1) := by decide +kernel
theorem d24_2 : decode jdk_68_method_73_code 2 = .ok (.invokevirtual 397, 3) := by decide +kernel
theorem d24_5 : decode jdk_68_method_73_code 5 = .ok (.aload_n 2, 1) := by decide +kernel
theorem d24_6 : decode jdk_68_method_73_code 6 = .ok (.aload_n 0, 1) := by decide +kernel
theorem d24_7 : decode jdk_68_method_73_code 7 = .ok (.getfield 15, 3) := by decide +kernel
theorem d24_10 : decode jdk_68_method_73_code 10 = .ok (.iload_n 1, 1) := by decide +kernel
theorem d24_11 : decode jdk_68_method_73_code 11 = .ok (.aload_n 0, 1) := by decide +kernel
theorem d24_12 : decode jdk_68_method_73_code 12 = .ok (.getfield 22, 3) := by decide +kernel
theorem d24_15 : decode jdk_68_method_73_code 15 = .ok (.invokevirtual 399, 3) := by decide +kernel
theorem d24_18 : decode jdk_68_method_73_code 18 = .ok (.return_, 1) := by decide +kernel
theorem d25_0 : decode jdk_68_method_71_code 0 = .ok (.getstatic 18, 3) := by decide +kernel
theorem d25_3 : decode jdk_68_method_71_code 3 = .ok (.ifCond .eq 18, 3) := by decide +kernel
theorem d25_6 : decode jdk_68_method_71_code 6 = .ok (.aload_n 0, 1) := by decide +kernel
theorem d25_7 : decode jdk_68_method_71_code 7 = .ok (.getfield 22, 3) := by decide +kernel
theorem d25_10 : decode jdk_68_method_71_code 10 = .ok (.aload_n 1, 1) := by decide +kernel
theorem d25_11 : decode jdk_68_method_71_code 11 = .ok (.invokevirtual 40, 3) := by decide +kernel
theorem d25_14 : decode jdk_68_method_71_code 14 = .ok (.if_icmp .eq 7, 3) := by decide +kernel
theorem d25_21 : decode jdk_68_method_71_code 21 = .ok (.return_, 1) := by decide +kernel
theorem d26_0 : decode jdk_42_method_147_code 0 = .ok (.aload_n 0, 1) := by decide +kernel
theorem d26_1 : decode jdk_42_method_147_code 1 = .ok (.invokevirtual 335, 3) := by decide +kernel
theorem d26_4 : decode jdk_42_method_147_code 4 = .ok (.iload_n 3, 1) := by decide +kernel
theorem d26_5 : decode jdk_42_method_147_code 5 = .ok (.if_icmp .ne 23, 3) := by decide +kernel
theorem d26_8 : decode jdk_42_method_147_code 8 = .ok (.aload_n 0, 1) := by decide +kernel
theorem d26_9 : decode jdk_42_method_147_code 9 = .ok (.getfield 9, 3) := by decide +kernel
theorem d26_12 : decode jdk_42_method_147_code 12 = .ok (.iconst 0, 1) := by decide +kernel
theorem d26_13 : decode jdk_42_method_147_code 13 = .ok (.aload_n 1, 1) := by decide +kernel
theorem d26_14 : decode jdk_42_method_147_code 14 = .ok (.iload_n 2, 1) := by decide +kernel
theorem d26_15 : decode jdk_42_method_147_code 15 = .ok (.iload_n 3, 1) := by decide +kernel
theorem d26_16 : decode jdk_42_method_147_code 16 = .ok (.ishl, 1) := by decide +kernel
theorem d26_17 : decode jdk_42_method_147_code 17 = .ok (.aload_n 0, 1) := by decide +kernel
theorem d26_18 : decode jdk_42_method_147_code 18 = .ok (.getfield 9, 3) := by decide +kernel
theorem d26_21 : decode jdk_42_method_147_code 21 = .ok (.arraylength, 1) := by decide +kernel
theorem d26_22 : decode jdk_42_method_147_code 22 = .ok (.invokestatic 212, 3) := by decide +kernel
theorem d26_25 : decode jdk_42_method_147_code 25 = .ok (.goto 18, 3) := by decide +kernel
theorem d26_43 : decode jdk_42_method_147_code 43 = .ok (.return_, 1) := by decide +kernel
theorem d27_0 : decode jdk_32_method_5_code 0 = .ok (.aload_n 0, 1) := by decide +kernel
theorem d27_1 : decode jdk_32_method_5_code 1 = .ok (.getfield 13, 3) := by decide +kernel
theorem d27_4 : decode jdk_32_method_5_code 4 = .ok (.ifnonnull 13, 3) := by decide +kernel
theorem d27_17 : decode jdk_32_method_5_code 17 = .ok (.aload_n 0, 1) := by decide +kernel
theorem d27_18 : decode jdk_32_method_5_code 18 = .ok (.getfield 13, 3) := by decide +kernel
theorem d27_21 : decode jdk_32_method_5_code 21 = .ok (.areturn, 1) := by decide +kernel
theorem d28_0 : decode jdk_67_method_42_code 0 = .ok (.new 18, 3) := by decide +kernel
theorem d28_3 : decode jdk_67_method_42_code 3 = .ok (.dup, 1) := by decide +kernel
theorem d28_4 : decode jdk_67_method_42_code 4 = .ok (.aload_n 0, 1) := by decide +kernel
theorem d28_5 : decode jdk_67_method_42_code 5 = .ok (.invokespecial 137, 3) := by decide +kernel
theorem d28_8 : decode jdk_67_method_42_code 8 = .ok (.areturn, 1) := by decide +kernel
theorem d29_0 : decode jdk_42_method_53_code 0 = .ok (.aload_n 0, 1) := by decide +kernel
theorem d29_1 : decode jdk_42_method_53_code 1 = .ok (.aload_n 1, 1) := by decide +kernel
theorem d29_2 : decode jdk_42_method_53_code 2 = .ok (.aconst_null, 1) := by decide +kernel
theorem d29_3 : decode jdk_42_method_53_code 3 = .ok (.invokespecial 489, 3) := by decide +kernel
theorem d29_6 : decode jdk_42_method_53_code 6 = .ok (.return_, 1) := by decide +kernel
theorem d30_0 : decode jdk_42_method_150_code 0 = .ok (.aload_n 0, 1) := by decide +kernel
theorem d30_1 : decode jdk_42_method_150_code 1 = .ok (.invokespecial 1, 3) := by decide +kernel
theorem d30_4 : decode jdk_42_method_150_code 4 = .ok (.aload_n 1, 1) := by decide +kernel
theorem d30_5 : decode jdk_42_method_150_code 5 = .ok (.invokevirtual 552, 3) := by decide +kernel
theorem d30_8 : decode jdk_42_method_150_code 8 = .ok (.astore_n 3, 1) := by decide +kernel
theorem d30_9 : decode jdk_42_method_150_code 9 = .ok (.aload_n 1, 1) := by decide +kernel
theorem d30_10 : decode jdk_42_method_150_code 10 = .ok (.invokevirtual 549, 3) := by decide +kernel
theorem d30_13 : decode jdk_42_method_150_code 13 = .ok (.istore 4, 2) := by decide +kernel
theorem d30_15 : decode jdk_42_method_150_code 15 = .ok (.aload_n 1, 1) := by decide +kernel
theorem d30_16 : decode jdk_42_method_150_code 16 = .ok (.invokevirtual 1047, 3) := by decide +kernel
theorem d30_19 : decode jdk_42_method_150_code 19 = .ok (.ifCond .eq 22, 3) := by decide +kernel
theorem d30_22 : decode jdk_42_method_150_code 22 = .ok (.aload_n 0, 1) := by decide +kernel
theorem d30_23 : decode jdk_42_method_150_code 23 = .ok (.iconst 0, 1) := by decide +kernel
theorem d30_24 : decode jdk_42_method_150_code 24 = .ok (.putfield 15, 3) := by decide +kernel
theorem d30_27 : decode jdk_42_method_150_code 27 = .ok (.aload_n 0, 1) := by decide +kernel
theorem d30_28 : decode jdk_42_method_150_code 28 = .ok (.aload_n 3, 1) := by decide +kernel
theorem d30_29 : decode jdk_42_method_150_code 29 = .ok (.iconst 0, 1) := by decide +kernel
theorem d30_30 : decode jdk_42_method_150_code 30 = .ok (.iload 4, 2) := by decide +kernel
theorem d30_32 : decode jdk_42_method_150_code 32 = .ok (.invokestatic 54, 3) := by decide +kernel
theorem d30_35 : decode jdk_42_method_150_code 35 = .ok (.putfield 9, 3) := by decide +kernel
theorem d30_38 : decode jdk_42_method_150_code 38 = .ok (.goto 59, 3) := by decide +kernel
theorem d30_97 : decode jdk_42_method_150_code 97 = .ok (.return_, 1) := by decide +kernel
theorem d31_0 : decode jdk_68_method_64_code 0 = .ok (.aload_n 0, 1) := by decide +kernel
theorem d31_1 : decode jdk_68_method_64_code 1 = .ok (.getfield 15, 3) := by decide +kernel
theorem d31_4 : decode jdk_68_method_64_code 4 = .ok (.areturn, 1) := by decide +kernel
theorem d32_0 : decode jdk_67_method_93_code 0 = .ok (.aload_n 0, 1) := by decide +kernel
theorem d32_1 : decode jdk_67_method_93_code 1 = .ok (.invokespecial 343, 3) := by decide +kernel
theorem d32_4 : decode jdk_67_method_93_code 4 = .ok (.ireturn, 1) := by decide +kernel
theorem d33_0 : decode jdk_68_method_6_code 0 = .ok (.aload_n 0, 1) := by decide +kernel
theorem d33_1 : decode jdk_68_method_6_code 1 = .ok (.getfield 79, 3) := by decide +kernel
theorem d33_4 : decode jdk_68_method_6_code 4 = .ok (.ireturn, 1) := by decide +kernel
theorem d34_0 : decode jdk_68_method_68_code 0 = .ok (.getstatic 18, 3) := by decide +kernel
theorem d34_3 : decode jdk_68_method_68_code 3 = .ok (.ifCond .eq 14, 3) := by decide +kernel
theorem d34_6 : decode jdk_68_method_68_code 6 = .ok (.aload_n 0, 1) := by decide +kernel
theorem d34_7 : decode jdk_68_method_68_code 7 = .ok (.getfield 22, 3) := by decide +kernel
theorem d34_10 : decode jdk_68_method_68_code 10 = .ok (.ifCond .ne 7, 3) := by decide +kernel
theorem d34_13 : decode jdk_68_method_68_code 13 = .ok (.iconst 1, 1) := by decide +kernel
theorem d34_14 : decode jdk_68_method_68_code 14 = .ok (.goto 4, 3) := by decide +kernel
theorem d34_18 : decode jdk_68_method_68_code 18 = .ok (.ireturn, 1) := by decide +kernel
theorem d35_0 : decode jdk_65_method_132_code 0 = .ok (.iload_n 1, 1) := by decide +kernel
theorem d35_1 : decode jdk_65_method_132_code 1 = .ok (.ifCond .ne 9, 3) := by decide +kernel
theorem d35_4 : decode jdk_65_method_132_code 4 = .ok (.iload_n 2, 1) := by decide +kernel
theorem d35_5 : decode jdk_65_method_132_code 5 = .ok (.aload_n 0, 1) := by decide +kernel
theorem d35_6 : decode jdk_65_method_132_code 6 = .ok (.arraylength, 1) := by decide +kernel
theorem d35_7 : decode jdk_65_method_132_code 7 = .ok (.if_icmp .eq 10, 3) := by decide +kernel
theorem d35_10 : decode jdk_65_method_132_code 10 = .ok (.aload_n 0, 1) := by decide +kernel
theorem d35_11 : decode jdk_65_method_132_code 11 = .ok (.iload_n 1, 1) := by decide +kernel
theorem d35_12 : decode jdk_65_method_132_code 12 = .ok (.iload_n 2, 1) := by decide +kernel
theorem d35_13 : decode jdk_65_method_132_code 13 = .ok (.invokestatic 339, 3) := by decide +kernel
theorem d35_16 : decode jdk_65_method_132_code 16 = .ok (.areturn, 1) := by decide +kernel
theorem d36_0 : decode jdk_65_method_133_code 0 = .ok (.iload_n 1, 1) := by decide +kernel
theorem d36_1 : decode jdk_65_method_133_code 1 = .ok (.iload_n 2, 1) := by decide +kernel
theorem d36_2 : decode jdk_65_method_133_code 2 = .ok (.invokestatic 343, 3) := by decide +kernel
theorem d36_5 : decode jdk_65_method_133_code 5 = .ok (.iload_n 2, 1) := by decide +kernel
theorem d36_6 : decode jdk_65_method_133_code 6 = .ok (.iload_n 1, 1) := by decide +kernel
theorem d36_7 : decode jdk_65_method_133_code 7 = .ok (.isub, 1) := by decide +kernel
theorem d36_8 : decode jdk_65_method_133_code 8 = .ok (.istore_n 3, 1) := by decide +kernel
theorem d36_9 : decode jdk_65_method_133_code 9 = .ok (.iload_n 3, 1) := by decide +kernel
theorem d36_10 : decode jdk_65_method_133_code 10 = .ok (.newarray .byte, 2) := by decide +kernel
theorem d36_12 : decode jdk_65_method_133_code 12 = .ok (.astore 4, 2) := by decide +kernel
theorem d36_14 : decode jdk_65_method_133_code 14 = .ok (.aload_n 0, 1) := by decide +kernel
theorem d36_15 : decode jdk_65_method_133_code 15 = .ok (.iload_n 1, 1) := by decide +kernel
theorem d36_16 : decode jdk_65_method_133_code 16 = .ok (.aload 4, 2) := by decide +kernel
theorem d36_18 : decode jdk_65_method_133_code 18 = .ok (.iconst 0, 1) := by decide +kernel
theorem d36_19 : decode jdk_65_method_133_code 19 = .ok (.aload_n 0, 1) := by decide +kernel
theorem d36_20 : decode jdk_65_method_133_code 20 = .ok (.arraylength, 1) := by decide +kernel
theorem d36_21 : decode jdk_65_method_133_code 21 = .ok (.iload_n 1, 1) := by decide +kernel
theorem d36_22 : decode jdk_65_method_133_code 22 = .ok (.isub, 1) := by decide +kernel
theorem d36_23 : decode jdk_65_method_133_code 23 = .ok (.iload_n 3, 1) := by decide +kernel
theorem d36_24 : decode jdk_65_method_133_code 24 = .ok (.invokestatic 304, 3) := by decide +kernel
theorem d36_27 : decode jdk_65_method_133_code 27 = .ok (.invokestatic 150, 3) := by decide +kernel
theorem d36_30 : decode jdk_65_method_133_code 30 = .ok (.aload 4, 2) := by decide +kernel
theorem d36_32 : decode jdk_65_method_133_code 32 = .ok (.areturn, 1) := by decide +kernel
theorem d37_0 : decode jdk_65_method_131_code 0 = .ok (.iload_n 1, 1) := by decide +kernel
theorem d37_1 : decode jdk_65_method_131_code 1 = .ok (.iload_n 0, 1) := by decide +kernel
theorem d37_2 : decode jdk_65_method_131_code 2 = .ok (.if_icmp .ge 35, 3) := by decide +kernel
theorem d37_37 : decode jdk_65_method_131_code 37 = .ok (.return_, 1) := by decide +kernel
theorem d38_0 : decode jdk_29_method_69_code 0 = .ok (.iload_n 0, 1) := by decide +kernel
theorem d38_1 : decode jdk_29_method_69_code 1 = .ok (.iload_n 1, 1) := by decide +kernel
theorem d38_2 : decode jdk_29_method_69_code 2 = .ok (.if_icmp .gt 7, 3) := by decide +kernel
theorem d38_5 : decode jdk_29_method_69_code 5 = .ok (.iload_n 0, 1) := by decide +kernel
theorem d38_6 : decode jdk_29_method_69_code 6 = .ok (.goto 4, 3) := by decide +kernel
theorem d38_9 : decode jdk_29_method_69_code 9 = .ok (.iload_n 1, 1) := by decide +kernel
theorem d38_10 : decode jdk_29_method_69_code 10 = .ok (.ireturn, 1) := by decide +kernel
theorem pn_java_lang_AbstractStringBuilder : plainName "java/lang/AbstractStringBuilder" = true := by first | (simp [plainName, overriddenIn]; done) | decide +kernel
theorem pn_java_lang_StringBuilder : plainName "java/lang/StringBuilder" = true := by first | (simp [plainName, overriddenIn]; done) | decide +kernel
theorem pd_I_R_V : parseMethodDescriptor "(I)V" = some ⟨[.int], none⟩ := by decide +kernel
theorem pn_java_lang_String : plainName "java/lang/String" = true := by first | (simp [plainName, overriddenIn]; done) | decide +kernel
theorem pd__R_B : parseMethodDescriptor "()B" = some ⟨[], some .byte⟩ := by decide +kernel
theorem pd_Ljava_lang_String_R_V : parseMethodDescriptor "(Ljava/lang/String;)V" = some ⟨[(.object "java/lang/String")], none⟩ := by decide +kernel
theorem pd_ABIB_R_V : parseMethodDescriptor "([BIB)V" = some ⟨[(.array .byte), .int, .byte], none⟩ := by decide +kernel
theorem pd__R_I : parseMethodDescriptor "()I" = some ⟨[], some .int⟩ := by decide +kernel
theorem pd_ILjava_lang_String_R_V : parseMethodDescriptor "(ILjava/lang/String;)V" = some ⟨[.int, (.object "java/lang/String")], none⟩ := by decide +kernel
theorem pd_Ljava_lang_String_R_Ljava_lang_AbstractStringBuilder : parseMethodDescriptor "(Ljava/lang/String;)Ljava/lang/AbstractStringBuilder;" = some ⟨[(.object "java/lang/String")], some (.object "java/lang/AbstractStringBuilder")⟩ := by decide +kernel
theorem pn_java_util_Arrays : plainName "java/util/Arrays" = true := by first | (simp [plainName, overriddenIn]; done) | decide +kernel
theorem pd_II_R_V : parseMethodDescriptor "(II)V" = some ⟨[.int, .int], none⟩ := by decide +kernel
theorem pd_II_R_I : parseMethodDescriptor "(II)I" = some ⟨[.int, .int], some .int⟩ := by decide +kernel
theorem pd_ABII_R_AB : parseMethodDescriptor "([BII)[B" = some ⟨[(.array .byte), .int, .int], some (.array .byte)⟩ := by decide +kernel
theorem pd__R_AB : parseMethodDescriptor "()[B" = some ⟨[], some (.array .byte)⟩ := by decide +kernel
theorem pd__R_Z : parseMethodDescriptor "()Z" = some ⟨[], some .boolean⟩ := by decide +kernel
theorem pd_Ljava_lang_AbstractStringBuilderLjava_lang_Void_R_V : parseMethodDescriptor "(Ljava/lang/AbstractStringBuilder;Ljava/lang/Void;)V" = some ⟨[(.object "java/lang/AbstractStringBuilder"), (.object "java/lang/Void")], none⟩ := by decide +kernel
theorem pd_Ljava_lang_StringBuilder_R_V : parseMethodDescriptor "(Ljava/lang/StringBuilder;)V" = some ⟨[(.object "java/lang/StringBuilder")], none⟩ := by decide +kernel
theorem pn_java_lang_Record : plainName "java/lang/Record" = true := by first | (simp [plainName, overriddenIn]; done) | decide +kernel
theorem pn_java_util_Objects : plainName "java/util/Objects" = true := by first | (simp [plainName, overriddenIn]; done) | decide +kernel
theorem pn_java_util_Optional : plainName "java/util/Optional" = true := by first | (simp [plainName, overriddenIn]; done) | decide +kernel
theorem pd_Ljava_lang_Object_R_Ljava_lang_Object : parseMethodDescriptor "(Ljava/lang/Object;)Ljava/lang/Object;" = some ⟨[(.object "java/lang/Object")], some (.object "java/lang/Object")⟩ := by decide +kernel
theorem pd_Ljava_lang_Object_R_V : parseMethodDescriptor "(Ljava/lang/Object;)V" = some ⟨[(.object "java/lang/Object")], none⟩ := by decide +kernel
theorem pn_com_example_triage_triage_search_CaseTopics_Topic : plainName "com/example/triage/triage/search/CaseTopics$Topic" = true := by first | (simp [plainName, overriddenIn]; done) | decide +kernel
theorem pd__R_V : parseMethodDescriptor "()V" = some ⟨[], none⟩ := by decide +kernel
theorem pd_Ljava_lang_String_R_Ljava_lang_StringBuilder : parseMethodDescriptor "(Ljava/lang/String;)Ljava/lang/StringBuilder;" = some ⟨[(.object "java/lang/String")], some (.object "java/lang/StringBuilder")⟩ := by decide +kernel
theorem pd__R_Ljava_lang_Object : parseMethodDescriptor "()Ljava/lang/Object;" = some ⟨[], some (.object "java/lang/Object")⟩ := by decide +kernel
theorem pd__R_Ljava_lang_String : parseMethodDescriptor "()Ljava/lang/String;" = some ⟨[], some (.object "java/lang/String")⟩ := by decide +kernel
theorem pn_com_example_triage_triage_search_TopicQueryPinLaw : plainName "com/example/triage/triage/search/TopicQueryPinLaw" = true := by first | (simp [plainName, overriddenIn]; done) | decide +kernel
theorem pd_AC_R_V : parseMethodDescriptor "([C)V" = some ⟨[(.array .char)], none⟩ := by decide +kernel
theorem pd_ILcom_example_triage_triage_search_CaseTopics_TypeLjava_lang_StringLjava_lang_StringLjava_util_Optional_R_V : parseMethodDescriptor "(ILcom/example/triage/triage/search/CaseTopics$Type;Ljava/lang/String;Ljava/lang/String;Ljava/util/Optional;)V" = some ⟨[.int, (.object "com/example/triage/triage/search/CaseTopics$Type"), (.object "java/lang/String"), (.object "java/lang/String"), (.object "java/util/Optional")], none⟩ := by decide +kernel
theorem pd_Lcom_example_triage_triage_search_CaseTopics_NarrativeZ_R_Ljava_lang_String : parseMethodDescriptor "(Lcom/example/triage/triage/search/CaseTopics$Narrative;Z)Ljava/lang/String;" = some ⟨[(.object "com/example/triage/triage/search/CaseTopics$Narrative"), .boolean], some (.object "java/lang/String")⟩ := by decide +kernel
theorem pd_Ljava_lang_Object_R_Z : parseMethodDescriptor "(Ljava/lang/Object;)Z" = some ⟨[(.object "java/lang/Object")], some .boolean⟩ := by decide +kernel
theorem pd__R_Ljava_util_Optional : parseMethodDescriptor "()Ljava/util/Optional;" = some ⟨[], some (.object "java/util/Optional")⟩ := by decide +kernel
theorem pd_Ljava_lang_Object_R_Ljava_util_Optional : parseMethodDescriptor "(Ljava/lang/Object;)Ljava/util/Optional;" = some ⟨[(.object "java/lang/Object")], some (.object "java/util/Optional")⟩ := by decide +kernel
def UST (Z : State) (zc : Int32) (fm : Value) : Prop := ¬ zc = 0 ∧ Sta Z Z.heap "java/lang/String" "COMPACT_STRINGS" "Z" (.int zc) ∧ True ∧ True ∧ True ∧ fm.isRef = true ∧ Sta Z Z.heap "jdk/internal/util/Preconditions" "SIOOBE_FORMATTER" "Ljava/util/function/BiFunction;" fm
theorem own_narc {ch : Int32} (hb : ¬ ch < 0 ∧ ¬ (65535 : Int32) < ch) : nar .char ch = ch := by
  have q := StrChars.narrow_ch hb.1 hb.2
  have e : narrow .char (.int ch) = .int (nar .char ch) := rfl
  rw [e] at q; exact Value.int.inj q
def By (c : Int32) : Prop := ¬ c < 0 ∧ ¬ (255 : Int32) < c
theorem By.ch {c : Int32} (h : By c) : ¬ c < 0 ∧ ¬ (65535 : Int32) < c := ⟨h.1, own_up h.2⟩
/-- x is a Latin-1 String of the n chars f, its bytes at t -/
def Lt (Z : State) (h : Heap) (x t : Addr) (kb : ClassId) (n : Nat) (f : Nat → Int32) : Prop := Exa Z h x "java/lang/String" ∧ Fld Z h x "java/lang/String" "value" "[B" (.ref t) ∧ Fld Z h x "java/lang/String" "coder" "B" (.int 0) ∧ W.Arg Z h t kb .byte n (fun i => StrChars.lo8 (f i)) ∧ ∀ i, i < n → By (f i)
theorem Lt.ext {Z : State} {h h' : Heap} {x t : Addr} {kb : ClassId} {n : Nat} {f : Nat → Int32} (S : Lt Z h x t kb n f) (E : Ext h h') : Lt Z h' x t kb n f := ⟨S.1.ext E, S.2.1.ext E, S.2.2.1.ext E, S.2.2.2.1.ext E, S.2.2.2.2⟩
theorem Lt.other {Z : State} {h h' : Heap} {x t a : Addr} {kb : ClassId} {n : Nat} {f : Nat → Int32} {sl : Nat} {v : Value} (S : Lt Z h x t kb n f) (Wq : Wr h h' a sl v) (q1 : x ≠ a) (q2 : t ≠ a) : Lt Z h' x t kb n f := ⟨S.1.wr Wq, S.2.1.other Wq (Or.inl q1), S.2.2.1.other Wq (Or.inl q1), S.2.2.2.1.other Wq q2, S.2.2.2.2⟩
theorem Lt.ofStr {Z : State} {h : Heap} {x : Addr} {cs : List Int32} (S : W.Str Z h x cs) (hb : ∀ c ∈ cs, ¬ (255 : Int32) < c) : ∃ t kb, Lt Z h x t kb cs.length (fun i => cs.getD i 0) := by
  obtain ⟨t, kb, N, cd, vs, a, b, c, d, f, g, i⟩ := S
  rcases f with ⟨rfl, rfl, rfl, -⟩ | ⟨-, -, -, c, hc, hw⟩
  · have gm : ∀ j, j < cs.length → cs.getD j 0 ∈ cs := fun j hj => by
      rw [List.getD_eq_getElem?_getD, List.getElem?_eq_getElem hj]; exact List.getElem_mem hj
    refine ⟨t, kb, a, b, c, W.Arg.of cs.length d (by simp) (by omega) (fun j hj => ?_), fun j hj => ⟨(g _ (gm j hj)).1, hb _ (gm j hj)⟩⟩
    simp only [List.getD_eq_getElem?_getD, List.getElem?_map]; rw [List.getElem?_eq_getElem hj]; rfl
  · exact absurd hw (hb c hc)
theorem own_toStr {Z : State} {h : Heap} {x a : Addr} {k : ClassId} {n : Nat} {g : Nat → Int32} {cs : List Int32} (E : Exa Z h x "java/lang/String") (F : Fld Z h x "java/lang/String" "value" "[B" (.ref a)) (C : Fld Z h x "java/lang/String" "coder" "B" (.int 0)) (A : W.Arg Z h a k .byte n g) (hl : cs.length = n) (hn : n ≤ 4000) (q : ∀ i, i < n → g i = StrChars.lo8 (cs.getD i 0)) (hb : ∀ c ∈ cs, By c) : W.Str Z h x cs := by
  have V := W.Arg.list (cs := cs.map StrChars.lo8) A (by simp [hl]) (fun i hi => by
    rw [q i hi]; simp only [List.getD_eq_getElem?_getD, List.getElem?_map]; rw [List.getElem?_eq_getElem (by omega)]; rfl)
  exact ⟨a, k, _, 0, _, E, F, C, V, StrChars.Road.codOf hl (fun c hc => (hb c hc).2), fun c hc => (hb c hc).ch, by omega⟩
/-- x is a StringBuilder of cnt Latin-1 bytes g, in an array t of cap places -/
def Sb (Z : State) (h : Heap) (x t : Addr) (kb : ClassId) (cap cnt : Nat) (g : Nat → Int32) : Prop := Exa Z h x "java/lang/StringBuilder" ∧ Fld Z h x "java/lang/AbstractStringBuilder" "value" "[B" (.ref t) ∧ Fld Z h x "java/lang/AbstractStringBuilder" "coder" "B" (.int 0) ∧ Fld Z h x "java/lang/AbstractStringBuilder" "count" "I" (.int (Int32.ofNat cnt)) ∧ W.Arg Z h t kb .byte cap g
theorem Sb.ext {Z : State} {h h' : Heap} {x t : Addr} {kb : ClassId} {cap cnt : Nat} {g : Nat → Int32} (S : Sb Z h x t kb cap cnt g) (E : Ext h h') : Sb Z h' x t kb cap cnt g := ⟨S.1.ext E, S.2.1.ext E, S.2.2.1.ext E, S.2.2.2.1.ext E, S.2.2.2.2.ext E⟩
theorem own_shr0 (n : Nat) : Int32.ofNat n >>> ((0 : Int32) &&& 31) = Int32.ofNat n := by
  have e : ((0 : Int32) &&& 31) = 0 := by decide
  rw [e]; exact Int32.shiftRight_zero
theorem own_shl0 (n : Nat) : Int32.ofNat n <<< ((0 : Int32) &&& 31) = Int32.ofNat n := by
  have e : ((0 : Int32) &&& 31) = 0 := by decide
  rw [e]; exact Int32.shiftLeft_zero
theorem own_sub0 (n : Nat) : Int32.ofNat n - 0 = Int32.ofNat n := Int32.sub_zero _
theorem own_le0 {a b : Nat} (h : a ≤ b) (hb : b < 2147483648) : ¬ (0 : Int32) < Int32.ofNat a - Int32.ofNat b := by
  rw [Int32.lt_iff_toInt_lt, Int32.toInt_sub, W.i32 (by omega), W.i32 hb, Int.bmod_eq_of_le (by omega) (by omega)]
  have e : (0 : Int32).toInt = 0 := rfl
  omega
theorem own_add (a b : Nat) : Int32.ofNat a + Int32.ofNat b = Int32.ofNat (a + b) := (Int32.ofNat_add a b).symm
def QAI (Z : State) (x : Addr) (h0 : Heap) (v : Option Value) (h : Heap) (L : List Loc) : Prop := v = none ∧ W.Frw [x] h0.size L ∧ Keep h0 h [x] ∧ ∃ t kb, h0.size ≤ t ∧ Sb Z h x t kb 16 0 (fun _ => 0)
set_option maxRecDepth 65536 in
set_option maxHeartbeats 40000000 in
theorem c_aini (l : Launch) (Z : State) (a0 : Array Value) (hw : ∀ d ∈ tables_1, d.before a0 Z = true) (x : Addr) (h0 : Heap) (E0 : Exa Z h0 x "java/lang/StringBuilder") (v0 c0 : Value) (F0 : Fld Z h0 x "java/lang/AbstractStringBuilder" "value" "[B" v0) (C0 : Fld Z h0 x "java/lang/AbstractStringBuilder" "coder" "B" c0) (N0 : Fld Z h0 x "java/lang/AbstractStringBuilder" "count" "I" (.int 0)) (EZ : Ext Z.heap h0) (zc : Int32) (fm : Value) (US : UST Z zc fm) : W.MetN l Z (⟨"java/lang/AbstractStringBuilder", "<init>", "(I)V"⟩ : MethodName) jdk_68_method_2_code 2 ((Option.none : Option Jvm.ClassFile.FieldType)) [] ({ frames := 1, cells := 1, slots := 16, locals := 14 } : Room) #[.ref x, .int 16]  h0 (QAI Z x h0) := by
  refine W.MetN.mk (ls0 := #[.val (.ref x), .val (.int (16 : Int32))]) [x] (plainFor_of_name pn_java_lang_AbstractStringBuilder) (fun m => by first | (simp [entryFrame, mkF, argsToLocals, Value.category]; done) | rfl) ?_
  intro p e s m below meth c s₁ hml hret hnm hlk P0
  show W.Go p.tables e below _ (s₁.setTop (mkF m 0 #[.val (.ref x), .val (.int (16 : Int32))] []))
  refine W.g_aloadN (pc1 := 1) P0.q d18_0 rfl rfl rfl ?_
  refine P0.initO (pc1 := 4) (W := 0) (wd hw (k := 115) rfl) (wd hw (k := 16) rfl) (wd hw (k := 17) rfl) (by rw [hml]; rfl) (by decide) (Nat.le_of_eq rfl) (by decide) d18_1 rfl ?_
  intro T101 P101
  refine P101.getS (pc1 := 7) (wd hw (k := 116) rfl) Via.refl (US.2.1.ext EZ) d18_4 rfl ?_
  intro T102 P102
  refine W.g_ifN (pc2 := 10) P102.q d18_7 rfl US.1 ?_
  refine W.g_aloadN (pc1 := 11) P102.q d18_10 rfl rfl rfl ?_
  refine W.g_iloadN (pc1 := 12) P102.q d18_11 rfl rfl ?_
  refine P102.newP (pc1 := 14) (cap := 16) (wd hw (k := 23) rfl) (by decide) (by decide) (by decide) (by decide) (by decide) d18_12 rfl ?_
  intro T103 h103 x103 k103 g103 P103 E103 V103
  have G0 : W.Arg Z h103 x103 k103 .byte 16 (fun _ => 0) := W.Arg.new (by decide) V103
  have hne : x103 ≠ x := Ne.symm (Nat.ne_of_lt (by rw [g103]; exact E0.lt))
  refine P103.putF (host := "") (pc1 := 17) (Or.inl (wd hw (k := 117) rfl)) Via.refl (F0.ext E103) (E0.ext E103) (Or.inl (wd hw (k := 118) rfl)) (wd hw (k := 104) rfl) (ty := (.array .byte)) (by decide) rfl rfl (Or.inl (List.mem_singleton.mpr rfl)) W.safe0 d18_14 rfl ?_
  intro T104 h104 P104 W104
  have Ea := (E0.ext E103).wr W104
  have Fa := (F0.ext E103).same W104
  have Ca := (C0.ext E103).other W104 (Or.inr (slot_ne (t := .byte) (t' := .array .byte) (Or.inl (wd hw (k := 120) rfl)) (Or.inl (wd hw (k := 118) rfl)) (by decide) (by decide) (by decide)))
  have Na := (N0.ext E103).other W104 (Or.inr (slot_ne (t := .int) (t' := .array .byte) (Or.inl (wd hw (k := 142) rfl)) (Or.inl (wd hw (k := 118) rfl)) (by decide) (by decide) (by decide)))
  have Ga := G0.other W104 hne
  refine W.g_aloadN (pc1 := 18) P104.q d18_17 rfl rfl rfl ?_
  refine W.g_iconst (pc1 := 19) (v := (0 : Int32)) P104.q d18_18 (by decide) rfl ?_
  refine P104.putF (host := "") (pc1 := 22) (Or.inl (wd hw (k := 119) rfl)) Via.refl Ca Ea (Or.inl (wd hw (k := 120) rfl)) (wd hw (k := 104) rfl) (ty := .byte) (by decide) rfl rfl (Or.inl (List.mem_singleton.mpr rfl)) W.safe0 d18_19 rfl ?_
  intro T105 h105 P105 W105
  have Eb := Ea.wr W105
  have Fb := Fa.other W105 (Or.inr (slot_ne (t := .array .byte) (t' := .byte) (Or.inl (wd hw (k := 118) rfl)) (Or.inl (wd hw (k := 120) rfl)) (by decide) (by decide) (by decide)))
  have Cb := Ca.same W105
  have Nb := Na.other W105 (Or.inr (slot_ne (t := .int) (t' := .byte) (Or.inl (wd hw (k := 142) rfl)) (Or.inl (wd hw (k := 120) rfl)) (by decide) (by decide) (by decide)))
  have Gb := Ga.other W105 hne
  refine W.g_goto (pc1 := 38) P105.q d18_22 (by decide) rfl ?_
  exact P105.retN hlk hret d18_38 (by decide) (by decide) ⟨rfl, P105.fr, P105.keep, x103, k103, Nat.le_of_eq g103.symm, Eb, Fb, Cb, Nb, Gb⟩
set_option maxRecDepth 65536 in
set_option maxHeartbeats 40000000 in
theorem c_sini (l : Launch) (Z : State) (a0 : Array Value) (hw : ∀ d ∈ tables_1, d.before a0 Z = true) (x : Addr) (h0 : Heap) (E0 : Exa Z h0 x "java/lang/StringBuilder") (v0 c0 : Value) (F0 : Fld Z h0 x "java/lang/AbstractStringBuilder" "value" "[B" v0) (C0 : Fld Z h0 x "java/lang/AbstractStringBuilder" "coder" "B" c0) (N0 : Fld Z h0 x "java/lang/AbstractStringBuilder" "count" "I" (.int 0)) (EZ : Ext Z.heap h0) (zc : Int32) (fm : Value) (US : UST Z zc fm) : W.MetN l Z (⟨"java/lang/StringBuilder", "<init>", "()V"⟩ : MethodName) jdk_67_method_1_code 1 ((Option.none : Option Jvm.ClassFile.FieldType)) [] ({ frames := 2, cells := 1, slots := 16, locals := 28 } : Room) #[.ref x]  h0 (QAI Z x h0) := by
  refine W.MetN.mk (ls0 := #[.val (.ref x)]) [x] (plainFor_of_name pn_java_lang_StringBuilder) (fun m => by first | (simp [entryFrame, mkF, argsToLocals, Value.category]; done) | rfl) ?_
  intro p e s m below meth c s₁ hml hret hnm hlk P0
  show W.Go p.tables e below _ (s₁.setTop (mkF m 0 #[.val (.ref x)] []))
  refine W.g_aloadN (pc1 := 1) P0.q d17_0 rfl rfl rfl ?_
  refine W.g_bipush (pc1 := 3) (v := (16 : Int32)) P0.q d17_1 (by decide) rfl ?_
  refine P0.callN (pc1 := 6) rfl (wd hw (k := 109) rfl) (wd hw (k := 110) rfl) (wd hw (k := 114) rfl) (by decide) (W.MetN.pay (W := 0) (c_aini l Z a0 hw x h0 E0 v0 c0 F0 C0 N0 EZ zc fm US) P0 (wd hw (k := 114) rfl) (wd hw (k := 113) rfl) (by decide) (by decide)) (argsL := [(.int (16 : Int32))]) (st0 := []) (lenOf pd_I_R_V rfl) rfl rfl (Nat.le_of_eq rfl) (by rw [hml]; rfl) (by decide) (by decide) (fun _ _ _ q => ⟨q.2.1, CHr.keep q.2.2.1 (sfS W.safe0 sf0) P0.chv⟩) d17_3 rfl ?_
  intro v106 T106 h106 L106 q106 P106
  obtain ⟨rfl, f106, K106, q106⟩ := q106
  show W.Go p.tables e below _ (T106.setTop (mkF m 6 #[.val (.ref x)] []))
  exact P106.retN hlk hret d17_6 (by decide) (by decide) ⟨rfl, P106.fr, P106.keep, q106⟩
set_option maxRecDepth 65536 in
set_option maxHeartbeats 40000000 in
theorem c_coder (l : Launch) (Z : State) (a0 : Array Value) (hw : ∀ d ∈ tables_1, d.before a0 Z = true) (x : Addr) (cd : Int32) (hcd : cd = 0 ∨ cd = 1) (h0 : Heap) (F0 : Fld Z h0 x "java/lang/String" "coder" "B" (.int cd)) (EZ : Ext Z.heap h0) (zc : Int32) (fm : Value) (US : UST Z zc fm) : W.MetN l Z (⟨"java/lang/String", "coder", "()B"⟩ : MethodName) jdk_42_method_152_code 1 ((Option.some Jvm.ClassFile.FieldType.byte)) [] ({ frames := 0, cells := 0, slots := 0, locals := 0 } : Room) #[.ref x]  h0 (W.Pure (some (.int cd)) h0) := by
  refine W.MetN.mk (ls0 := #[.val (.ref x)]) [] (plainFor_of_name pn_java_lang_String) (fun m => by first | (simp [entryFrame, mkF, argsToLocals, Value.category]; done) | rfl) ?_
  intro p e s m below meth c s₁ hml hret hnm hlk P0
  show W.Go p.tables e below _ (s₁.setTop (mkF m 0 #[.val (.ref x)] []))
  refine P0.getS (pc1 := 3) (wd hw (k := 18) rfl) Via.refl (US.2.1.ext (P0.extZ EZ all0)) d22_0 rfl ?_
  intro T107 P107
  refine W.g_ifN (pc2 := 6) P107.q d22_3 rfl US.1 ?_
  refine W.g_aloadN (pc1 := 7) P107.q d22_6 rfl rfl rfl ?_
  refine P107.getF (host := "") (pc1 := 10) (Or.inl (wd hw (k := 30) rfl)) Via.refl F0 d22_7 rfl ?_
  intro T108 P108
  refine W.g_goto (pc1 := 14) P108.q d22_10 (by decide) rfl ?_
  exact P108.retVN hlk hret (Or.inr (Or.inl rfl)) d22_14 (by decide) (by decide) ⟨by rcases hcd with q | q <;> subst q <;> rfl, rfl, rfl⟩
set_option maxRecDepth 65536 in
set_option maxHeartbeats 40000000 in
theorem c_len (l : Launch) (Z : State) (a0 : Array Value) (hw : ∀ d ∈ tables_1, d.before a0 Z = true) (x t : Addr) (kb : ClassId) (n : Nat) (f : Nat → Int32) (h0 : Heap) (S0 : Lt Z h0 x t kb n f) (EZ : Ext Z.heap h0) (zc : Int32) (fm : Value) (US : UST Z zc fm) : W.MetN l Z (⟨"java/lang/String", "length", "()I"⟩ : MethodName) jdk_42_method_54_code 1 ((Option.some Jvm.ClassFile.FieldType.int)) [] ({ frames := 1, cells := 0, slots := 0, locals := 13 } : Room) #[.ref x]  h0 (W.Pure (some (.int (Int32.ofNat n))) h0) := by
  refine W.MetN.mk (ls0 := #[.val (.ref x)]) [] (plainFor_of_name pn_java_lang_String) (fun m => by first | (simp [entryFrame, mkF, argsToLocals, Value.category]; done) | rfl) ?_
  intro p e s m below meth c s₁ hml hret hnm hlk P0
  show W.Go p.tables e below _ (s₁.setTop (mkF m 0 #[.val (.ref x)] []))
  refine W.g_aloadN (pc1 := 1) P0.q d21_0 rfl rfl rfl ?_
  refine P0.getF (host := "") (pc1 := 4) (Or.inl (wd hw (k := 32) rfl)) Via.refl S0.2.1 d21_1 rfl ?_
  intro T109 P109
  refine P109.lenG (pc1 := 5) S0.2.2.2.1 d21_4 rfl ?_
  refine W.g_aloadN (pc1 := 6) P109.q d21_5 rfl rfl rfl ?_
  refine P109.callV (pc1 := 9) S0.1 (wd hw (k := 136) rfl) (wd hw (k := 137) rfl) (wd hw (k := 139) rfl) (wd hw (k := 138) rfl) (notFace_of_selects (args := #[]) (mvT P109.hz (wd hw (k := 139) rfl))) (by decide) (W.MetN.pay (W := 1) (c_coder l Z a0 hw x 0 (Or.inl rfl) h0 S0.2.2.1 EZ zc fm US) P109 (wd hw (k := 140) rfl) (wd hw (k := 6) rfl) (by decide) (by decide)) (argsL := []) (st0 := [(.int (Int32.ofNat n))]) (lenOf pd__R_B rfl) rfl rfl (Nat.le_of_eq rfl) (by rw [hml]; rfl) (by decide) (by decide) (W.Pure.ok P109.chv) d21_6 rfl ?_
  intro v110 T110 h110 L110 q110 P110
  obtain ⟨rfl, rfl, rfl⟩ := q110
  show W.Go p.tables e below _ (T110.setTop (mkF m 9 #[.val (.ref x)] [(.int (0 : Int32)), (.int (Int32.ofNat n))]))
  refine W.g_ishr (pc1 := 10) P110.q d21_9 rfl ?_
  rw [own_shr0]
  exact P110.retIN hlk hret d21_10 (by decide) (by decide) ⟨rfl, rfl, rfl⟩
set_option maxRecDepth 65536 in
set_option maxHeartbeats 40000000 in
theorem c_ens (l : Launch) (Z : State) (a0 : Array Value) (hw : ∀ d ∈ tables_1, d.before a0 Z = true) (x t : Addr) (kb : ClassId) (cap cnt : Nat) (g : Nat → Int32) (h0 : Heap) (B0 : Sb Z h0 x t kb cap cnt g) (mn : Nat) (hm : mn ≤ cap) : W.MetN l Z (⟨"java/lang/AbstractStringBuilder", "ensureCapacityInternal", "(I)V"⟩ : MethodName) jdk_68_method_9_code 3 ((Option.none : Option Jvm.ClassFile.FieldType)) [] ({ frames := 0, cells := 0, slots := 0, locals := 0 } : Room) #[.ref x, .int (Int32.ofNat mn)]  h0 (W.Pure none h0) := by
  refine W.MetN.mk (ls0 := #[.val (.ref x), .val (.int (Int32.ofNat mn)), .unset]) [] (plainFor_of_name pn_java_lang_AbstractStringBuilder) (fun m => by first | (simp [entryFrame, mkF, argsToLocals, Value.category]; done) | rfl) ?_
  intro p e s m below meth c s₁ hml hret hnm hlk P0
  show W.Go p.tables e below _ (s₁.setTop (mkF m 0 #[.val (.ref x), .val (.int (Int32.ofNat mn)), .unset] []))
  refine W.g_aloadN (pc1 := 1) P0.q d23_0 rfl rfl rfl ?_
  refine P0.getF (host := "") (pc1 := 4) (Or.inl (wd hw (k := 117) rfl)) Via.refl B0.2.1 d23_1 rfl ?_
  intro T111 P111
  refine P111.lenG (pc1 := 5) B0.2.2.2.2 d23_4 rfl ?_
  refine W.g_aloadN (pc1 := 6) P111.q d23_5 rfl rfl rfl ?_
  refine P111.getF (host := "") (pc1 := 9) (Or.inl (wd hw (k := 119) rfl)) Via.refl B0.2.2.1 d23_6 rfl ?_
  intro T112 P112
  refine W.g_ishr (pc1 := 10) P112.q d23_9 rfl ?_
  rw [own_shr0]
  refine W.g_istoreN (pc1 := 11) (ls2 := #[.val (.ref x), .val (.int (Int32.ofNat mn)), .val (.int (Int32.ofNat cap))]) P112.q d23_10 rfl rfl ?_
  refine W.g_iloadN (pc1 := 12) P112.q d23_11 rfl rfl ?_
  refine W.g_iloadN (pc1 := 13) P112.q d23_12 rfl rfl ?_
  refine W.g_isub (pc1 := 14) P112.q d23_13 rfl ?_
  refine W.g_ifY (pc1 := 38) P112.q d23_14 (by decide) rfl (own_le0 hm B0.2.2.2.2.small) ?_
  exact P112.retN hlk hret d23_38 (by decide) (by decide) ⟨rfl, rfl, rfl⟩
set_option maxRecDepth 65536 in
set_option maxHeartbeats 40000000 in
theorem c_infl (l : Launch) (Z : State) (a0 : Array Value) (hw : ∀ d ∈ tables_1, d.before a0 Z = true) (x t : Addr) (kb : ClassId) (cap cnt : Nat) (g : Nat → Int32) (y u : Addr) (ku : ClassId) (n : Nat) (f : Nat → Int32) (h0 : Heap) (B0 : Sb Z h0 x t kb cap cnt g) (S0 : Lt Z h0 y u ku n f) (EZ : Ext Z.heap h0) (zc : Int32) (fm : Value) (US : UST Z zc fm) : W.MetN l Z (⟨"java/lang/AbstractStringBuilder", "inflateIfNeededFor", "(Ljava/lang/String;)V"⟩ : MethodName) jdk_68_method_71_code 2 ((Option.none : Option Jvm.ClassFile.FieldType)) [] ({ frames := 1, cells := 0, slots := 0, locals := 13 } : Room) #[.ref x, .ref y]  h0 (W.Pure none h0) := by
  refine W.MetN.mk (ls0 := #[.val (.ref x), .val (.ref y)]) [] (plainFor_of_name pn_java_lang_AbstractStringBuilder) (fun m => by first | (simp [entryFrame, mkF, argsToLocals, Value.category]; done) | rfl) ?_
  intro p e s m below meth c s₁ hml hret hnm hlk P0
  show W.Go p.tables e below _ (s₁.setTop (mkF m 0 #[.val (.ref x), .val (.ref y)] []))
  refine P0.getS (pc1 := 3) (wd hw (k := 116) rfl) Via.refl (US.2.1.ext EZ) d25_0 rfl ?_
  intro T113 P113
  refine W.g_ifN (pc2 := 6) P113.q d25_3 rfl US.1 ?_
  refine W.g_aloadN (pc1 := 7) P113.q d25_6 rfl rfl rfl ?_
  refine P113.getF (host := "") (pc1 := 10) (Or.inl (wd hw (k := 119) rfl)) Via.refl B0.2.2.1 d25_7 rfl ?_
  intro T114 P114
  refine W.g_aloadN (pc1 := 11) P114.q d25_10 rfl rfl rfl ?_
  refine P114.callV (pc1 := 14) S0.1 (wd hw (k := 158) rfl) (wd hw (k := 137) rfl) (wd hw (k := 139) rfl) (wd hw (k := 138) rfl) (notFace_of_selects (args := #[]) (mvT P114.hz (wd hw (k := 139) rfl))) (by decide) (W.MetN.pay (W := 1) (c_coder l Z a0 hw y 0 (Or.inl rfl) h0 S0.2.2.1 EZ zc fm US) P114 (wd hw (k := 140) rfl) (wd hw (k := 6) rfl) (by decide) (by decide)) (argsL := []) (st0 := [(.int (0 : Int32))]) (lenOf pd__R_B rfl) rfl rfl (Nat.le_of_eq rfl) (by rw [hml]; rfl) (by decide) (by decide) (W.Pure.ok P114.chv) d25_11 rfl ?_
  intro v115 T115 h115 L115 q115 P115
  obtain ⟨rfl, rfl, rfl⟩ := q115
  show W.Go p.tables e below _ (T115.setTop (mkF m 14 #[.val (.ref x), .val (.ref y)] [(.int (0 : Int32)), (.int (0 : Int32))]))
  refine W.g_cmpY (pc1 := 21) P115.q d25_14 (by decide) rfl (by decide) ?_
  exact P115.retN hlk hret d25_21 (by decide) (by decide) ⟨rfl, rfl, rfl⟩
def QGB (Z : State) (d : Addr) (kd : ClassId) (cap : Nat) (g : Nat → Int32) (h0 : Heap) (v : Option Value) (h : Heap) (L : List Loc) : Prop := v = none ∧ W.Frw [d] h0.size L ∧ Keep h0 h [d] ∧ W.Arg Z h d kd .byte cap g
set_option maxRecDepth 65536 in
set_option maxHeartbeats 40000000 in
theorem c_gb (l : Launch) (Z : State) (a0 : Array Value) (hw : ∀ d ∈ tables_1, d.before a0 Z = true) (y u : Addr) (ku : ClassId) (n : Nat) (f : Nat → Int32) (d : Addr) (kd : ClassId) (cap cnt : Nat) (g : Nat → Int32) (h0 : Heap) (S0 : Lt Z h0 y u ku n f) (D0 : W.Arg Z h0 d kd .byte cap g) (hc : cnt + n ≤ cap) (EZ : Ext Z.heap h0) (zc : Int32) (fm : Value) (US : UST Z zc fm) : W.MetN l Z (⟨"java/lang/String", "getBytes", "([BIB)V"⟩ : MethodName) jdk_42_method_147_code 4 ((Option.none : Option Jvm.ClassFile.FieldType)) [] ({ frames := 1, cells := 0, slots := 0, locals := 20 } : Room) #[.ref y, .ref d, .int (Int32.ofNat cnt), .int 0]  h0 (QGB Z d kd cap (W.cpy (fun i => StrChars.lo8 (f i)) g 0 cnt n) h0) := by
  refine W.MetN.mk (ls0 := #[.val (.ref y), .val (.ref d), .val (.int (Int32.ofNat cnt)), .val (.int (0 : Int32))]) [d] (plainFor_of_name pn_java_lang_String) (fun m => by first | (simp [entryFrame, mkF, argsToLocals, Value.category]; done) | rfl) ?_
  intro p e s m below meth c s₁ hml hret hnm hlk P0
  show W.Go p.tables e below _ (s₁.setTop (mkF m 0 #[.val (.ref y), .val (.ref d), .val (.int (Int32.ofNat cnt)), .val (.int (0 : Int32))] []))
  refine W.g_aloadN (pc1 := 1) P0.q d26_0 rfl rfl rfl ?_
  refine P0.callV (pc1 := 4) S0.1 (wd hw (k := 136) rfl) (wd hw (k := 137) rfl) (wd hw (k := 139) rfl) (wd hw (k := 138) rfl) (notFace_of_selects (args := #[]) (mvT P0.hz (wd hw (k := 139) rfl))) (by decide) (W.MetN.pay (W := 0) (c_coder l Z a0 hw y 0 (Or.inl rfl) h0 S0.2.2.1 EZ zc fm US) P0 (wd hw (k := 140) rfl) (wd hw (k := 6) rfl) (by decide) (by decide)) (argsL := []) (st0 := []) (lenOf pd__R_B rfl) rfl rfl (Nat.le_of_eq rfl) (by rw [hml]; rfl) (by decide) (by decide) (W.Pure.ok P0.chv) d26_1 rfl ?_
  intro v116 T116 h116 L116 q116 P116
  obtain ⟨rfl, rfl, rfl⟩ := q116
  show W.Go p.tables e below _ (T116.setTop (mkF m 4 #[.val (.ref y), .val (.ref d), .val (.int (Int32.ofNat cnt)), .val (.int (0 : Int32))] [(.int (0 : Int32))]))
  refine W.g_iloadN (pc1 := 5) P116.q d26_4 rfl rfl ?_
  refine W.g_cmpN (pc2 := 8) P116.q d26_5 rfl (by decide) ?_
  refine W.g_aloadN (pc1 := 9) P116.q d26_8 rfl rfl rfl ?_
  refine P116.getF (host := "") (pc1 := 12) (Or.inl (wd hw (k := 32) rfl)) Via.refl S0.2.1 d26_9 rfl ?_
  intro T117 P117
  refine W.g_iconst (pc1 := 13) (v := (0 : Int32)) P117.q d26_12 (by decide) rfl ?_
  refine W.g_aloadN (pc1 := 14) P117.q d26_13 rfl rfl rfl ?_
  refine W.g_iloadN (pc1 := 15) P117.q d26_14 rfl rfl ?_
  refine W.g_iloadN (pc1 := 16) P117.q d26_15 rfl rfl ?_
  refine W.g_ishl (pc1 := 17) P117.q d26_16 rfl ?_
  rw [own_shl0]
  refine W.g_aloadN (pc1 := 18) P117.q d26_17 rfl rfl rfl ?_
  refine P117.getF (host := "") (pc1 := 21) (Or.inl (wd hw (k := 32) rfl)) Via.refl S0.2.1 d26_18 rfl ?_
  intro T118 P118
  refine P118.lenG (pc1 := 22) S0.2.2.2.1 d26_21 rfl ?_
  show W.Go p.tables e below _ (T118.setTop (mkF m 22 #[.val (.ref y), .val (.ref d), .val (.int (Int32.ofNat cnt)), .val (.int (0 : Int32))] [(.int (Int32.ofNat n)), (.int (Int32.ofNat cnt)), (.ref d), (.int (Int32.ofNat 0)), (.ref u)]))
  refine P118.copyB (pc1 := 25) (sp := 0) (dp := cnt) (q := n) (W := 0) (wd hw (k := 164) rfl) (wd hw (k := 167) rfl) (wd hw (k := 165) rfl) (wd hw (k := 166) rfl) S0.2.2.2.1 D0 (by omega) hc (Or.inl (List.mem_singleton.mpr rfl)) W.safe0 (by rw [hml]; rfl) (by decide) (Nat.le_of_eq rfl) (by decide) d26_22 rfl ?_
  intro T119 h119 P119 K119 G119
  refine W.g_goto (pc1 := 43) P119.q d26_25 (by decide) rfl ?_
  exact P119.retN hlk hret d26_43 (by decide) (by decide) ⟨rfl, P119.fr, P119.keep, G119⟩
set_option maxRecDepth 65536 in
set_option maxHeartbeats 40000000 in
theorem c_put (l : Launch) (Z : State) (a0 : Array Value) (hw : ∀ d ∈ tables_1, d.before a0 Z = true) (x t : Addr) (kb : ClassId) (cap cnt : Nat) (g : Nat → Int32) (y u : Addr) (ku : ClassId) (n : Nat) (f : Nat → Int32) (h0 : Heap) (B0 : Sb Z h0 x t kb cap cnt g) (S0 : Lt Z h0 y u ku n f) (hc : cnt + n ≤ cap) (EZ : Ext Z.heap h0) (zc : Int32) (fm : Value) (US : UST Z zc fm) : W.MetN l Z (⟨"java/lang/AbstractStringBuilder", "putStringAt", "(ILjava/lang/String;)V"⟩ : MethodName) jdk_68_method_73_code 3 ((Option.none : Option Jvm.ClassFile.FieldType)) [] ({ frames := 2, cells := 0, slots := 0, locals := 36 } : Room) #[.ref x, .int (Int32.ofNat cnt), .ref y]  h0 (QGB Z t kb cap (W.cpy (fun i => StrChars.lo8 (f i)) g 0 cnt n) h0) := by
  refine W.MetN.mk (ls0 := #[.val (.ref x), .val (.int (Int32.ofNat cnt)), .val (.ref y)]) [t] (plainFor_of_name pn_java_lang_AbstractStringBuilder) (fun m => by first | (simp [entryFrame, mkF, argsToLocals, Value.category]; done) | rfl) ?_
  intro p e s m below meth c s₁ hml hret hnm hlk P0
  show W.Go p.tables e below _ (s₁.setTop (mkF m 0 #[.val (.ref x), .val (.int (Int32.ofNat cnt)), .val (.ref y)] []))
  refine W.g_aloadN (pc1 := 1) P0.q d24_0 rfl rfl rfl ?_
  refine W.g_aloadN (pc1 := 2) P0.q d24_1 rfl rfl rfl ?_
  refine P0.callV (pc1 := 5) B0.1 (wd hw (k := 153) rfl) (W.declares_of (wd hw (k := 154) rfl) (wd hw (k := 157) rfl)) (wd hw (k := 156) rfl) (wd hw (k := 154) rfl) (notFace_of_selects (args := #[]) (mvT P0.hz (wd hw (k := 156) rfl))) (by decide) (W.MetN.pay (W := 0) (c_infl l Z a0 hw x t kb cap cnt g y u ku n f h0 B0 S0 EZ zc fm US) P0 (wd hw (k := 157) rfl) (wd hw (k := 113) rfl) (by decide) (by decide)) (argsL := [(.ref y)]) (st0 := []) (lenOf pd_Ljava_lang_String_R_V rfl) rfl rfl (Nat.le_of_eq rfl) (by rw [hml]; rfl) (by decide) (by decide) (W.Pure.ok P0.chv) d24_2 rfl ?_
  intro v120 T120 h120 L120 q120 P120
  obtain ⟨rfl, rfl, rfl⟩ := q120
  show W.Go p.tables e below _ (T120.setTop (mkF m 5 #[.val (.ref x), .val (.int (Int32.ofNat cnt)), .val (.ref y)] []))
  refine W.g_aloadN (pc1 := 6) P120.q d24_5 rfl rfl rfl ?_
  refine W.g_aloadN (pc1 := 7) P120.q d24_6 rfl rfl rfl ?_
  refine P120.getF (host := "") (pc1 := 10) (Or.inl (wd hw (k := 117) rfl)) Via.refl B0.2.1 d24_7 rfl ?_
  intro T121 P121
  refine W.g_iloadN (pc1 := 11) P121.q d24_10 rfl rfl ?_
  refine W.g_aloadN (pc1 := 12) P121.q d24_11 rfl rfl rfl ?_
  refine P121.getF (host := "") (pc1 := 15) (Or.inl (wd hw (k := 119) rfl)) Via.refl B0.2.2.1 d24_12 rfl ?_
  intro T122 P122
  refine P122.callV (pc1 := 18) S0.1 (wd hw (k := 159) rfl) (wd hw (k := 160) rfl) (wd hw (k := 162) rfl) (wd hw (k := 161) rfl) (notFace_of_selects (args := #[]) (mvT P122.hz (wd hw (k := 162) rfl))) (by decide) (W.MetN.pay (W := 0) (c_gb l Z a0 hw y u ku n f t kb cap cnt g h0 S0 B0.2.2.2.2 hc EZ zc fm US) P122 (wd hw (k := 163) rfl) (wd hw (k := 6) rfl) (by decide) (by decide)) (argsL := [(.ref t), (.int (Int32.ofNat cnt)), (.int (0 : Int32))]) (st0 := []) (lenOf pd_ABIB_R_V rfl) rfl rfl (Nat.le_of_eq rfl) (by rw [hml]; rfl) (by decide) (by decide) (fun _ _ _ q => ⟨q.2.1, CHr.keep q.2.2.1 (sfS W.safe0 sf0) P122.chv⟩) d24_15 rfl ?_
  intro v123 T123 h123 L123 q123 P123
  obtain ⟨rfl, f123, K123, G123⟩ := q123
  show W.Go p.tables e below _ (T123.setTop (mkF m 18 #[.val (.ref x), .val (.int (Int32.ofNat cnt)), .val (.ref y)] []))
  exact P123.retN hlk hret d24_18 (by decide) (by decide) ⟨rfl, P123.fr, P123.keep, G123⟩
def QAP (Z : State) (x t : Addr) (kb : ClassId) (cap cnt : Nat) (g : Nat → Int32) (h0 : Heap) (v : Option Value) (h : Heap) (L : List Loc) : Prop := v = some (.ref x) ∧ W.Frw [x, t] h0.size L ∧ Keep h0 h [x, t] ∧ Sb Z h x t kb cap cnt g
set_option maxRecDepth 65536 in
set_option maxHeartbeats 40000000 in
theorem c_app (l : Launch) (Z : State) (a0 : Array Value) (hw : ∀ d ∈ tables_1, d.before a0 Z = true) (x t : Addr) (kb : ClassId) (cap cnt : Nat) (g : Nat → Int32) (y u : Addr) (ku : ClassId) (n : Nat) (f : Nat → Int32) (h0 : Heap) (B0 : Sb Z h0 x t kb cap cnt g) (S0 : Lt Z h0 y u ku n f) (hc : cnt + n ≤ cap) (EZ : Ext Z.heap h0) (zc : Int32) (fm : Value) (US : UST Z zc fm) : W.MetN l Z (⟨"java/lang/AbstractStringBuilder", "append", "(Ljava/lang/String;)Ljava/lang/AbstractStringBuilder;"⟩ : MethodName) jdk_68_method_22_code 3 ((Option.some (Jvm.ClassFile.FieldType.object "java/lang/AbstractStringBuilder"))) [] ({ frames := 3, cells := 0, slots := 0, locals := 52 } : Room) #[.ref x, .ref y]  h0 (QAP Z x t kb cap (cnt + n) (W.cpy (fun i => StrChars.lo8 (f i)) g 0 cnt n) h0) := by
  refine W.MetN.mk (ls0 := #[.val (.ref x), .val (.ref y), .unset]) [x, t] (plainFor_of_name pn_java_lang_AbstractStringBuilder) (fun m => by first | (simp [entryFrame, mkF, argsToLocals, Value.category]; done) | rfl) ?_
  intro p e s m below meth c s₁ hml hret hnm hlk P0
  show W.Go p.tables e below _ (s₁.setTop (mkF m 0 #[.val (.ref x), .val (.ref y), .unset] []))
  have hxt : x ≠ t := by obtain ⟨vs, V, -⟩ := B0.2.2.2.2; exact Exa.neArv B0.1 V (wd hw (k := 104) rfl)
  refine W.g_aloadN (pc1 := 1) P0.q d20_0 rfl rfl rfl ?_
  refine W.g_nonY (pc1 := 9) P0.q d20_1 (by decide) rfl ?_
  refine W.g_aloadN (pc1 := 10) P0.q d20_9 rfl rfl rfl ?_
  refine P0.callV (pc1 := 13) S0.1 (wd hw (k := 131) rfl) (wd hw (k := 132) rfl) (wd hw (k := 134) rfl) (wd hw (k := 133) rfl) (notFace_of_selects (args := #[]) (mvT P0.hz (wd hw (k := 134) rfl))) (by decide) (W.MetN.pay (W := 0) (c_len l Z a0 hw y u ku n f h0 S0 EZ zc fm US) P0 (wd hw (k := 135) rfl) (wd hw (k := 6) rfl) (by decide) (by decide)) (argsL := []) (st0 := []) (lenOf pd__R_I rfl) rfl rfl (Nat.le_of_eq rfl) (by rw [hml]; rfl) (by decide) (by decide) (W.Pure.ok P0.chv) d20_10 rfl ?_
  intro v124 T124 h124 L124 q124 P124
  obtain ⟨rfl, rfl, rfl⟩ := q124
  show W.Go p.tables e below _ (T124.setTop (mkF m 13 #[.val (.ref x), .val (.ref y), .unset] [(.int (Int32.ofNat n))]))
  refine W.g_istoreN (pc1 := 14) (ls2 := #[.val (.ref x), .val (.ref y), .val (.int (Int32.ofNat n))]) P124.q d20_13 rfl rfl ?_
  refine W.g_aloadN (pc1 := 15) P124.q d20_14 rfl rfl rfl ?_
  refine W.g_aloadN (pc1 := 16) P124.q d20_15 rfl rfl rfl ?_
  refine P124.getF (host := "") (pc1 := 19) (Or.inl (wd hw (k := 141) rfl)) Via.refl B0.2.2.2.1 d20_16 rfl ?_
  intro T125 P125
  refine W.g_iloadN (pc1 := 20) P125.q d20_19 rfl rfl ?_
  refine W.g_iadd (pc1 := 21) P125.q d20_20 rfl ?_
  rw [own_add]
  show W.Go p.tables e below _ (T125.setTop (mkF m 21 #[.val (.ref x), .val (.ref y), .val (.int (Int32.ofNat n))] [(.int (Int32.ofNat (cnt + n))), (.ref x)]))
  refine P125.callV (pc1 := 24) B0.1 (wd hw (k := 143) rfl) (W.declares_of (wd hw (k := 144) rfl) (wd hw (k := 147) rfl)) (wd hw (k := 146) rfl) (wd hw (k := 144) rfl) (notFace_of_selects (args := #[]) (mvT P125.hz (wd hw (k := 146) rfl))) (by decide) (W.MetN.pay (W := 0) (c_ens l Z a0 hw x t kb cap cnt g h0 B0 (cnt + n) hc) P125 (wd hw (k := 147) rfl) (wd hw (k := 113) rfl) (by decide) (by decide)) (argsL := [(.int (Int32.ofNat (cnt + n)))]) (st0 := []) (lenOf pd_I_R_V rfl) rfl rfl (Nat.le_of_eq rfl) (by rw [hml]; rfl) (by decide) (by decide) (W.Pure.ok P125.chv) d20_21 rfl ?_
  intro v126 T126 h126 L126 q126 P126
  obtain ⟨rfl, rfl, rfl⟩ := q126
  show W.Go p.tables e below _ (T126.setTop (mkF m 24 #[.val (.ref x), .val (.ref y), .val (.int (Int32.ofNat n))] []))
  refine W.g_aloadN (pc1 := 25) P126.q d20_24 rfl rfl rfl ?_
  refine W.g_aloadN (pc1 := 26) P126.q d20_25 rfl rfl rfl ?_
  refine P126.getF (host := "") (pc1 := 29) (Or.inl (wd hw (k := 141) rfl)) Via.refl B0.2.2.2.1 d20_26 rfl ?_
  intro T127 P127
  refine W.g_aloadN (pc1 := 30) P127.q d20_29 rfl rfl rfl ?_
  refine P127.callV (pc1 := 33) B0.1 (wd hw (k := 148) rfl) (W.declares_of (wd hw (k := 149) rfl) (wd hw (k := 152) rfl)) (wd hw (k := 151) rfl) (wd hw (k := 149) rfl) (notFace_of_selects (args := #[]) (mvT P127.hz (wd hw (k := 151) rfl))) (by decide) (W.MetN.pay (W := 0) (c_put l Z a0 hw x t kb cap cnt g y u ku n f h0 B0 S0 hc EZ zc fm US) P127 (wd hw (k := 152) rfl) (wd hw (k := 113) rfl) (by decide) (by decide)) (argsL := [(.int (Int32.ofNat cnt)), (.ref y)]) (st0 := []) (lenOf pd_ILjava_lang_String_R_V rfl) rfl rfl (Nat.le_of_eq rfl) (by rw [hml]; rfl) (by decide) (by decide) (fun _ _ _ q => ⟨q.2.1.up (Nat.le_refl _) (allS (Or.inl (List.mem_cons_of_mem _ (List.mem_singleton.mpr rfl))) all0), CHr.keep q.2.2.1 (sfS W.safe0 sf0) P127.chv⟩) d20_30 rfl ?_
  intro v128 T128 h128 L128 q128 P128
  obtain ⟨rfl, f128, K128, G128⟩ := q128
  show W.Go p.tables e below _ (T128.setTop (mkF m 33 #[.val (.ref x), .val (.ref y), .val (.int (Int32.ofNat n))] []))
  have Ec := B0.1.keep K128
  have Vc := B0.2.1.keep K128 (ninS hxt nin0)
  have Cc := B0.2.2.1.keep K128 (ninS hxt nin0)
  have Nc := B0.2.2.2.1.keep K128 (ninS hxt nin0)
  refine W.g_aloadN (pc1 := 34) P128.q d20_33 rfl rfl rfl ?_
  refine W.g_dup (pc1 := 35) P128.q d20_34 rfl rfl ?_
  refine P128.getF (host := "") (pc1 := 38) (Or.inl (wd hw (k := 141) rfl)) Via.refl Nc d20_35 rfl ?_
  intro T129 P129
  refine W.g_iloadN (pc1 := 39) P129.q d20_38 rfl rfl ?_
  refine W.g_iadd (pc1 := 40) P129.q d20_39 rfl ?_
  rw [own_add]
  show W.Go p.tables e below _ (T129.setTop (mkF m 40 #[.val (.ref x), .val (.ref y), .val (.int (Int32.ofNat n))] [(.int (Int32.ofNat (cnt + n))), (.ref x)]))
  refine P129.putF (host := "") (pc1 := 43) (Or.inl (wd hw (k := 141) rfl)) Via.refl Nc Ec (Or.inl (wd hw (k := 142) rfl)) (wd hw (k := 104) rfl) (ty := .int) (by decide) rfl rfl (Or.inl (List.mem_cons_self)) W.safe0 d20_40 rfl ?_
  intro T130 h130 P130 W130
  have Ed := Ec.wr W130
  have Vd := Vc.other W130 (Or.inr (slot_ne (t := .array .byte) (t' := .int) (Or.inl (wd hw (k := 118) rfl)) (Or.inl (wd hw (k := 142) rfl)) (by decide) (by decide) (by decide)))
  have Cd := Cc.other W130 (Or.inr (slot_ne (t := .byte) (t' := .int) (Or.inl (wd hw (k := 120) rfl)) (Or.inl (wd hw (k := 142) rfl)) (by decide) (by decide) (by decide)))
  have Nd := Nc.same W130
  have Gd := G128.other W130 (Ne.symm hxt)
  refine W.g_aloadN (pc1 := 44) P130.q d20_43 rfl rfl rfl ?_
  exact P130.retAN hlk hret rfl rfl rfl d20_44 (by decide) (by decide) ⟨rfl, P130.fr, P130.keep, Ed, Vd, Cd, Nd, Gd⟩
set_option maxRecDepth 65536 in
set_option maxHeartbeats 40000000 in
theorem c_sapp (l : Launch) (Z : State) (a0 : Array Value) (hw : ∀ d ∈ tables_1, d.before a0 Z = true) (x t : Addr) (kb : ClassId) (cap cnt : Nat) (g : Nat → Int32) (y u : Addr) (ku : ClassId) (n : Nat) (f : Nat → Int32) (h0 : Heap) (B0 : Sb Z h0 x t kb cap cnt g) (S0 : Lt Z h0 y u ku n f) (hc : cnt + n ≤ cap) (EZ : Ext Z.heap h0) (zc : Int32) (fm : Value) (US : UST Z zc fm) : W.MetN l Z (⟨"java/lang/StringBuilder", "append", "(Ljava/lang/String;)Ljava/lang/StringBuilder;"⟩ : MethodName) jdk_67_method_7_code 2 ((Option.some (Jvm.ClassFile.FieldType.object "java/lang/StringBuilder"))) [] ({ frames := 4, cells := 0, slots := 0, locals := 68 } : Room) #[.ref x, .ref y]  h0 (QAP Z x t kb cap (cnt + n) (W.cpy (fun i => StrChars.lo8 (f i)) g 0 cnt n) h0) := by
  refine W.MetN.mk (ls0 := #[.val (.ref x), .val (.ref y)]) [x, t] (plainFor_of_name pn_java_lang_StringBuilder) (fun m => by first | (simp [entryFrame, mkF, argsToLocals, Value.category]; done) | rfl) ?_
  intro p e s m below meth c s₁ hml hret hnm hlk P0
  show W.Go p.tables e below _ (s₁.setTop (mkF m 0 #[.val (.ref x), .val (.ref y)] []))
  refine W.g_aloadN (pc1 := 1) P0.q d19_0 rfl rfl rfl ?_
  refine W.g_aloadN (pc1 := 2) P0.q d19_1 rfl rfl rfl ?_
  refine P0.callU (pc1 := 5) (Ins.self B0.1) (wd hw (k := 126) rfl) (W.same_of (z := (⟨"java/lang/AbstractStringBuilder", "getValue", "()[B"⟩ : MethodName)) (wd hw (k := 127) rfl) rfl (wd hw (k := 191) rfl) (notFace_of_selects (wd hw (k := 192) rfl)) (by decide)) (wd hw (k := 127) rfl) (wd hw (k := 128) rfl) (by decide) (wd hw (k := 130) rfl) (W.MetN.pay (W := 0) (c_app l Z a0 hw x t kb cap cnt g y u ku n f h0 B0 S0 hc EZ zc fm US) P0 (wd hw (k := 130) rfl) (wd hw (k := 113) rfl) (by decide) (by decide)) (argsL := [(.ref y)]) (st0 := []) (lenOf pd_Ljava_lang_String_R_Ljava_lang_AbstractStringBuilder rfl) rfl rfl (Nat.le_of_eq rfl) (by rw [hml]; rfl) (by decide) (by decide) (fun _ _ _ q => ⟨q.2.1, CHr.keep q.2.2.1 (sfS W.safe0 (sfS W.safe0 sf0)) P0.chv⟩) d19_2 rfl ?_
  intro v131 T131 h131 L131 q131 P131
  obtain ⟨rfl, f131, K131, B131⟩ := q131
  show W.Go p.tables e below _ (T131.setTop (mkF m 5 #[.val (.ref x), .val (.ref y)] [(.ref x)]))
  refine W.g_pop (pc1 := 6) P131.q d19_5 rfl rfl ?_
  refine W.g_aloadN (pc1 := 7) P131.q d19_6 rfl rfl rfl ?_
  exact P131.retAN hlk hret rfl rfl rfl d19_7 (by decide) (by decide) ⟨rfl, P131.fr, P131.keep, B131⟩
set_option maxRecDepth 65536 in
set_option maxHeartbeats 40000000 in
theorem c_gv (l : Launch) (Z : State) (a0 : Array Value) (hw : ∀ d ∈ tables_1, d.before a0 Z = true) (x : Addr) (t : Addr) (h0 : Heap) (F0 : Fld Z h0 x "java/lang/AbstractStringBuilder" "value" "[B" (.ref t)) : W.MetN l Z (⟨"java/lang/AbstractStringBuilder", "getValue", "()[B"⟩ : MethodName) jdk_68_method_64_code 1 ((Option.some (Jvm.ClassFile.FieldType.array Jvm.ClassFile.FieldType.byte))) [] ({ frames := 0, cells := 0, slots := 0, locals := 0 } : Room) #[.ref x]  h0 (W.Pure (some (.ref t)) h0) := by
  refine W.MetN.mk (ls0 := #[.val (.ref x)]) [] (plainFor_of_name pn_java_lang_AbstractStringBuilder) (fun m => by first | (simp [entryFrame, mkF, argsToLocals, Value.category]; done) | rfl) ?_
  intro p e s m below meth c s₁ hml hret hnm hlk P0
  show W.Go p.tables e below _ (s₁.setTop (mkF m 0 #[.val (.ref x)] []))
  refine W.g_aloadN (pc1 := 1) P0.q d31_0 rfl rfl rfl ?_
  refine P0.getF (host := "") (pc1 := 4) (Or.inl (wd hw (k := 117) rfl)) Via.refl F0 d31_1 rfl ?_
  intro T132 P132
  exact P132.retAN hlk hret rfl rfl rfl d31_4 (by decide) (by decide) ⟨rfl, rfl, rfl⟩
set_option maxRecDepth 65536 in
set_option maxHeartbeats 40000000 in
theorem c_alen (l : Launch) (Z : State) (a0 : Array Value) (hw : ∀ d ∈ tables_1, d.before a0 Z = true) (x : Addr) (z : Int32) (h0 : Heap) (F0 : Fld Z h0 x "java/lang/AbstractStringBuilder" "count" "I" (.int z)) : W.MetN l Z (⟨"java/lang/AbstractStringBuilder", "length", "()I"⟩ : MethodName) jdk_68_method_6_code 1 ((Option.some Jvm.ClassFile.FieldType.int)) [] ({ frames := 0, cells := 0, slots := 0, locals := 0 } : Room) #[.ref x]  h0 (W.Pure (some (.int z)) h0) := by
  refine W.MetN.mk (ls0 := #[.val (.ref x)]) [] (plainFor_of_name pn_java_lang_AbstractStringBuilder) (fun m => by first | (simp [entryFrame, mkF, argsToLocals, Value.category]; done) | rfl) ?_
  intro p e s m below meth c s₁ hml hret hnm hlk P0
  show W.Go p.tables e below _ (s₁.setTop (mkF m 0 #[.val (.ref x)] []))
  refine W.g_aloadN (pc1 := 1) P0.q d33_0 rfl rfl rfl ?_
  refine P0.getF (host := "") (pc1 := 4) (Or.inl (wd hw (k := 141) rfl)) Via.refl F0 d33_1 rfl ?_
  intro T133 P133
  exact P133.retIN hlk hret d33_4 (by decide) (by decide) ⟨rfl, rfl, rfl⟩
set_option maxRecDepth 65536 in
set_option maxHeartbeats 40000000 in
theorem c_slen (l : Launch) (Z : State) (a0 : Array Value) (hw : ∀ d ∈ tables_1, d.before a0 Z = true) (x t : Addr) (kb : ClassId) (cap cnt : Nat) (g : Nat → Int32) (h0 : Heap) (B0 : Sb Z h0 x t kb cap cnt g)  : W.MetN l Z (⟨"java/lang/StringBuilder", "length", "()I"⟩ : MethodName) jdk_67_method_93_code 1 ((Option.some Jvm.ClassFile.FieldType.int)) [] ({ frames := 1, cells := 0, slots := 0, locals := 13 } : Room) #[.ref x]  h0 (W.Pure (some (.int (Int32.ofNat cnt))) h0) := by
  refine W.MetN.mk (ls0 := #[.val (.ref x)]) [] (plainFor_of_name pn_java_lang_StringBuilder) (fun m => by first | (simp [entryFrame, mkF, argsToLocals, Value.category]; done) | rfl) ?_
  intro p e s m below meth c s₁ hml hret hnm hlk P0
  show W.Go p.tables e below _ (s₁.setTop (mkF m 0 #[.val (.ref x)] []))
  refine W.g_aloadN (pc1 := 1) P0.q d32_0 rfl rfl rfl ?_
  refine P0.callU (pc1 := 4) (Ins.self B0.1) (wd hw (k := 200) rfl) (W.same_of (z := (⟨"java/lang/AbstractStringBuilder", "getValue", "()[B"⟩ : MethodName)) (wd hw (k := 196) rfl) rfl (wd hw (k := 191) rfl) (notFace_of_selects (wd hw (k := 192) rfl)) (by decide)) (wd hw (k := 196) rfl) (wd hw (k := 128) rfl) (by decide) (wd hw (k := 201) rfl) (W.MetN.pay (W := 0) (c_alen l Z a0 hw x (Int32.ofNat cnt) h0 B0.2.2.2.1) P0 (wd hw (k := 201) rfl) (wd hw (k := 113) rfl) (by decide) (by decide)) (argsL := []) (st0 := []) (lenOf pd__R_I rfl) rfl rfl (Nat.le_of_eq rfl) (by rw [hml]; rfl) (by decide) (by decide) (W.Pure.ok P0.chv) d32_1 rfl ?_
  intro v134 T134 h134 L134 q134 P134
  obtain ⟨rfl, rfl, rfl⟩ := q134
  show W.Go p.tables e below _ (T134.setTop (mkF m 4 #[.val (.ref x)] [(.int (Int32.ofNat cnt))]))
  exact P134.retIN hlk hret d32_4 (by decide) (by decide) ⟨rfl, rfl, rfl⟩
set_option maxRecDepth 65536 in
set_option maxHeartbeats 40000000 in
theorem c_alat (l : Launch) (Z : State) (a0 : Array Value) (hw : ∀ d ∈ tables_1, d.before a0 Z = true) (x t : Addr) (kb : ClassId) (cap cnt : Nat) (g : Nat → Int32) (h0 : Heap) (B0 : Sb Z h0 x t kb cap cnt g) (EZ : Ext Z.heap h0) (zc : Int32) (fm : Value) (US : UST Z zc fm) : W.MetN l Z (⟨"java/lang/AbstractStringBuilder", "isLatin1", "()Z"⟩ : MethodName) jdk_68_method_68_code 1 ((Option.some Jvm.ClassFile.FieldType.boolean)) [] ({ frames := 0, cells := 0, slots := 0, locals := 0 } : Room) #[.ref x]  h0 (W.Pure (some (.int 1)) h0) := by
  refine W.MetN.mk (ls0 := #[.val (.ref x)]) [] (plainFor_of_name pn_java_lang_AbstractStringBuilder) (fun m => by first | (simp [entryFrame, mkF, argsToLocals, Value.category]; done) | rfl) ?_
  intro p e s m below meth c s₁ hml hret hnm hlk P0
  show W.Go p.tables e below _ (s₁.setTop (mkF m 0 #[.val (.ref x)] []))
  refine P0.getS (pc1 := 3) (wd hw (k := 116) rfl) Via.refl (US.2.1.ext EZ) d34_0 rfl ?_
  intro T135 P135
  refine W.g_ifN (pc2 := 6) P135.q d34_3 rfl US.1 ?_
  refine W.g_aloadN (pc1 := 7) P135.q d34_6 rfl rfl rfl ?_
  refine P135.getF (host := "") (pc1 := 10) (Or.inl (wd hw (k := 119) rfl)) Via.refl B0.2.2.1 d34_7 rfl ?_
  intro T136 P136
  refine W.g_ifN (pc2 := 13) P136.q d34_10 rfl (by decide) ?_
  refine W.g_iconst (pc1 := 14) (v := (1 : Int32)) P136.q d34_13 (by decide) rfl ?_
  refine W.g_goto (pc1 := 18) P136.q d34_14 (by decide) rfl ?_
  exact P136.retVN hlk hret (Or.inl rfl) d34_18 (by decide) (by decide) ⟨rfl, rfl, rfl⟩
set_option maxRecDepth 65536 in
set_option maxHeartbeats 40000000 in
theorem c_chk (l : Launch) (Z : State) (a0 : Array Value) (hw : ∀ d ∈ tables_1, d.before a0 Z = true) (n : Nat) (hn : n < 2147483648) (h0 : Heap) : W.MetN l Z (⟨"java/util/Arrays", "checkLength", "(II)V"⟩ : MethodName) jdk_65_method_131_code 2 ((Option.none : Option Jvm.ClassFile.FieldType)) [] ({ frames := 0, cells := 0, slots := 0, locals := 0 } : Room) #[.int 0, .int (Int32.ofNat n)]  h0 (W.Pure none h0) := by
  refine W.MetN.mk (ls0 := #[.val (.int (0 : Int32)), .val (.int (Int32.ofNat n))]) [] (plainFor_of_name pn_java_util_Arrays) (fun m => by first | (simp [entryFrame, mkF, argsToLocals, Value.category]; done) | rfl) ?_
  intro p e s m below meth c s₁ hml hret hnm hlk P0
  show W.Go p.tables e below _ (s₁.setTop (mkF m 0 #[.val (.int (0 : Int32)), .val (.int (Int32.ofNat n))] []))
  refine W.g_iloadN (pc1 := 1) P0.q d37_0 rfl rfl ?_
  refine W.g_iloadN (pc1 := 2) P0.q d37_1 rfl rfl ?_
  refine W.g_cmpY (pc1 := 37) P0.q d37_2 (by decide) rfl (W.nn32 hn) ?_
  exact P0.retN hlk hret d37_37 (by decide) (by decide) ⟨rfl, rfl, rfl⟩
set_option maxRecDepth 65536 in
set_option maxHeartbeats 40000000 in
theorem c_min (l : Launch) (Z : State) (a0 : Array Value) (hw : ∀ d ∈ tables_1, d.before a0 Z = true) (k n : Nat) (hk : k < 2147483648) (hn : n < 2147483648) (h0 : Heap) : W.MetN l Z (⟨"java/lang/Math", "min", "(II)I"⟩ : MethodName) jdk_29_method_69_code 2 ((Option.some Jvm.ClassFile.FieldType.int)) [] ({ frames := 0, cells := 0, slots := 0, locals := 0 } : Room) #[.int (Int32.ofNat k), .int (Int32.ofNat n)]  h0 (W.Pure (some (.int (Int32.ofNat (min k n)))) h0) := by
  refine W.MetN.mk (ls0 := #[.val (.int (Int32.ofNat k)), .val (.int (Int32.ofNat n))]) [] (Jvm.Free.JP.mathPlain rfl (by decide +kernel)) (fun m => by first | (simp [entryFrame, mkF, argsToLocals, Value.category]; done) | rfl) ?_
  intro p e s m below meth c s₁ hml hret hnm hlk P0
  show W.Go p.tables e below _ (s₁.setTop (mkF m 0 #[.val (.int (Int32.ofNat k)), .val (.int (Int32.ofNat n))] []))
  refine W.g_iloadN (pc1 := 1) P0.q d38_0 rfl rfl ?_
  refine W.g_iloadN (pc1 := 2) P0.q d38_1 rfl rfl ?_
  refine W.g_cmp (pc1 := 9) (pc2 := 5) P0.q d38_2 (by decide) rfl rfl (fun (hc : (Int32.ofNat n) < (Int32.ofNat k)) => ?_) (fun (hc : ¬ ((Int32.ofNat n) < (Int32.ofNat k))) => ?_)
  · refine W.g_iloadN (pc1 := 10) P0.q d38_9 rfl rfl ?_
    rw [W.lt32 hn hk] at hc
    exact P0.retIN hlk hret d38_10 (by decide) (by decide) ⟨by rw [Nat.min_eq_right (Nat.le_of_lt hc)], rfl, rfl⟩
  · refine W.g_iloadN (pc1 := 6) P0.q d38_5 rfl rfl ?_
    refine W.g_goto (pc1 := 10) P0.q d38_6 (by decide) rfl ?_
    rw [W.lt32 hn hk] at hc
    exact P0.retIN hlk hret d38_10 (by decide) (by decide) ⟨by rw [Nat.min_eq_left (Nat.le_of_not_lt hc)], rfl, rfl⟩
def QCR (Z : State) (n : Nat) (g : Nat → Int32) (h0 : Heap) (v : Option Value) (h : Heap) (L : List Loc) : Prop := ∃ a k, v = some (.ref a) ∧ W.Frw [] h0.size L ∧ Ext h0 h ∧ h0.size ≤ a ∧ W.Arg Z h a k .byte n g
set_option maxRecDepth 65536 in
set_option maxHeartbeats 40000000 in
theorem c_corb (l : Launch) (Z : State) (a0 : Array Value) (hw : ∀ d ∈ tables_1, d.before a0 Z = true) (t : Addr) (kb : ClassId) (cap n : Nat) (g : Nat → Int32) (hn : n ≤ cap) (hx : n ≤ 8) (h0 : Heap) (A0 : W.Arg Z h0 t kb .byte cap g) : W.MetN l Z (⟨"java/util/Arrays", "copyOfRangeByte", "([BII)[B"⟩ : MethodName) jdk_65_method_133_code 5 ((Option.some (Jvm.ClassFile.FieldType.array Jvm.ClassFile.FieldType.byte))) [] ({ frames := 1, cells := 1, slots := 8, locals := 24 } : Room) #[.ref t, .int 0, .int (Int32.ofNat n)]  h0 (QCR Z n g h0) := by
  refine W.MetN.mk (ls0 := #[.val (.ref t), .val (.int (0 : Int32)), .val (.int (Int32.ofNat n)), .unset, .unset]) [] (plainFor_of_name pn_java_util_Arrays) (fun m => by first | (simp [entryFrame, mkF, argsToLocals, Value.category]; done) | rfl) ?_
  intro p e s m below meth c s₁ hml hret hnm hlk P0
  show W.Go p.tables e below _ (s₁.setTop (mkF m 0 #[.val (.ref t), .val (.int (0 : Int32)), .val (.int (Int32.ofNat n)), .unset, .unset] []))
  have hs := A0.small
  refine W.g_iloadN (pc1 := 1) P0.q d36_0 rfl rfl ?_
  refine W.g_iloadN (pc1 := 2) P0.q d36_1 rfl rfl ?_
  refine P0.callS (pc1 := 5) (wd hw (k := 214) rfl) (wd hw (k := 215) rfl) (wd hw (k := 209) rfl) (wd hw (k := 216) rfl) (by decide) (W.MetN.pay (W := 0) (c_chk l Z a0 hw n (by omega) h0) P0 (wd hw (k := 216) rfl) (wd hw (k := 209) rfl) (by decide) (by decide)) (argsL := [(.int (0 : Int32)), (.int (Int32.ofNat n))]) (st0 := []) (lenOf pd_II_R_V rfl) rfl rfl (Nat.le_of_eq rfl) (by rw [hml]; rfl) (by decide) (by decide) (W.Pure.ok P0.chv) d36_2 rfl ?_
  intro v137 T137 h137 L137 q137 P137
  obtain ⟨rfl, rfl, rfl⟩ := q137
  show W.Go p.tables e below _ (T137.setTop (mkF m 5 #[.val (.ref t), .val (.int (0 : Int32)), .val (.int (Int32.ofNat n)), .unset, .unset] []))
  refine W.g_iloadN (pc1 := 6) P137.q d36_5 rfl rfl ?_
  refine W.g_iloadN (pc1 := 7) P137.q d36_6 rfl rfl ?_
  refine W.g_isub (pc1 := 8) P137.q d36_7 rfl ?_
  rw [own_sub0]
  refine W.g_istoreN (pc1 := 9) (ls2 := #[.val (.ref t), .val (.int (0 : Int32)), .val (.int (Int32.ofNat n)), .val (.int (Int32.ofNat n)), .unset]) P137.q d36_8 rfl rfl ?_
  refine W.g_iloadN (pc1 := 10) P137.q d36_9 rfl rfl ?_
  refine P137.newP (pc1 := 12) (cap := 8) (wd hw (k := 23) rfl) (W.nn32 (by omega)) (by rw [W.n32 (by omega)]; exact hx) (by decide) (by decide) (by decide) d36_10 rfl ?_
  intro T138 h138 x138 k138 g138 P138 E138 V138
  have G0 : W.Arg Z h138 x138 k138 .byte n (fun _ => 0) := W.Arg.new (by omega) V138
  have A1 := A0.ext E138
  refine W.g_astore (pc1 := 14) (ls2 := #[.val (.ref t), .val (.int (0 : Int32)), .val (.int (Int32.ofNat n)), .val (.int (Int32.ofNat n)), .val (.ref x138)]) P138.q d36_12 rfl rfl rfl ?_
  refine W.g_aloadN (pc1 := 15) P138.q d36_14 rfl rfl rfl ?_
  refine W.g_iloadN (pc1 := 16) P138.q d36_15 rfl rfl ?_
  refine W.g_aload (pc1 := 18) P138.q d36_16 rfl rfl rfl ?_
  refine W.g_iconst (pc1 := 19) (v := (0 : Int32)) P138.q d36_18 (by decide) rfl ?_
  refine W.g_aloadN (pc1 := 20) P138.q d36_19 rfl rfl rfl ?_
  refine P138.lenG (pc1 := 21) A1 d36_20 rfl ?_
  refine W.g_iloadN (pc1 := 22) P138.q d36_21 rfl rfl ?_
  refine W.g_isub (pc1 := 23) P138.q d36_22 rfl ?_
  rw [own_sub0]
  refine W.g_iloadN (pc1 := 24) P138.q d36_23 rfl rfl ?_
  refine P138.callS (pc1 := 27) (wd hw (k := 217) rfl) (wd hw (k := 218) rfl) (wd hw (k := 219) rfl) (wd hw (k := 220) rfl) (by decide) (W.MetN.pay (W := 4) (c_min l Z a0 hw cap n hs (by omega) h138) P138 (wd hw (k := 220) rfl) (wd hw (k := 219) rfl) (by decide) (by decide)) (argsL := [(.int (Int32.ofNat cap)), (.int (Int32.ofNat n))]) (st0 := [(.int (0 : Int32)), (.ref x138), (.int (0 : Int32)), (.ref t)]) (lenOf pd_II_R_I rfl) rfl rfl (Nat.le_of_eq rfl) (by rw [hml]; rfl) (by decide) (by decide) (W.Pure.ok P138.chv) d36_24 rfl ?_
  intro v139 T139 h139 L139 q139 P139
  obtain ⟨rfl, rfl, rfl⟩ := q139
  show W.Go p.tables e below _ (T139.setTop (mkF m 27 #[.val (.ref t), .val (.int (0 : Int32)), .val (.int (Int32.ofNat n)), .val (.int (Int32.ofNat n)), .val (.ref x138)] [(.int (Int32.ofNat (min cap n))), (.int (0 : Int32)), (.ref x138), (.int (0 : Int32)), (.ref t)]))
  rw [Nat.min_eq_right hn]
  show W.Go p.tables e below _ (T139.setTop (mkF m 27 #[.val (.ref t), .val (.int (0 : Int32)), .val (.int (Int32.ofNat n)), .val (.int (Int32.ofNat n)), .val (.ref x138)] [(.int (Int32.ofNat n)), (.int (Int32.ofNat 0)), (.ref x138), (.int (Int32.ofNat 0)), (.ref t)]))
  refine P139.copyB (pc1 := 30) (sp := 0) (dp := 0) (q := n) (W := 0) (wd hw (k := 221) rfl) (wd hw (k := 167) rfl) (wd hw (k := 165) rfl) (wd hw (k := 166) rfl) A1 G0 (by omega) (by omega) (Or.inr (Nat.le_of_eq g138.symm)) W.safe0 (by rw [hml]; rfl) (by decide) (Nat.le_of_eq rfl) (by decide) d36_27 rfl ?_
  intro T140 h140 P140 K140 G140
  refine W.g_aload (pc1 := 32) P140.q d36_30 rfl rfl rfl ?_
  exact P140.retAN hlk hret rfl rfl rfl d36_32 (by decide) (by decide) ⟨x138, k138, rfl, P140.fr, P140.ext0, Nat.le_of_eq g138.symm, G140.congr (fun j hj => by unfold W.cpy; rw [if_pos (by omega)]; simp)⟩
set_option maxRecDepth 65536 in
set_option maxHeartbeats 40000000 in
theorem c_cor (l : Launch) (Z : State) (a0 : Array Value) (hw : ∀ d ∈ tables_1, d.before a0 Z = true) (t : Addr) (kb : ClassId) (cap n : Nat) (g : Nat → Int32) (hn : n < cap) (hx : n ≤ 8) (h0 : Heap) (A0 : W.Arg Z h0 t kb .byte cap g) : W.MetN l Z (⟨"java/util/Arrays", "copyOfRange", "([BII)[B"⟩ : MethodName) jdk_65_method_132_code 3 ((Option.some (Jvm.ClassFile.FieldType.array Jvm.ClassFile.FieldType.byte))) [] ({ frames := 2, cells := 1, slots := 8, locals := 48 } : Room) #[.ref t, .int 0, .int (Int32.ofNat n)]  h0 (QCR Z n g h0) := by
  refine W.MetN.mk (ls0 := #[.val (.ref t), .val (.int (0 : Int32)), .val (.int (Int32.ofNat n))]) [] (plainFor_of_name pn_java_util_Arrays) (fun m => by first | (simp [entryFrame, mkF, argsToLocals, Value.category]; done) | rfl) ?_
  intro p e s m below meth c s₁ hml hret hnm hlk P0
  show W.Go p.tables e below _ (s₁.setTop (mkF m 0 #[.val (.ref t), .val (.int (0 : Int32)), .val (.int (Int32.ofNat n))] []))
  have hs := A0.small
  refine W.g_iloadN (pc1 := 1) P0.q d35_0 rfl rfl ?_
  refine W.g_ifN (pc2 := 4) P0.q d35_1 rfl (by decide) ?_
  refine W.g_iloadN (pc1 := 5) P0.q d35_4 rfl rfl ?_
  refine W.g_aloadN (pc1 := 6) P0.q d35_5 rfl rfl rfl ?_
  refine P0.lenG (pc1 := 7) A0 d35_6 rfl ?_
  refine W.g_cmpN (pc2 := 10) P0.q d35_7 rfl (fun q => Nat.ne_of_lt hn ((W.eq32 (by omega) hs).mp q)) ?_
  refine W.g_aloadN (pc1 := 11) P0.q d35_10 rfl rfl rfl ?_
  refine W.g_iloadN (pc1 := 12) P0.q d35_11 rfl rfl ?_
  refine W.g_iloadN (pc1 := 13) P0.q d35_12 rfl rfl ?_
  refine P0.callS (pc1 := 16) (wd hw (k := 211) rfl) (wd hw (k := 212) rfl) (wd hw (k := 209) rfl) (wd hw (k := 213) rfl) (by decide) (W.MetN.pay (W := 0) (c_corb l Z a0 hw t kb cap n g (Nat.le_of_lt hn) hx h0 A0) P0 (wd hw (k := 213) rfl) (wd hw (k := 209) rfl) (by decide) (by decide)) (argsL := [(.ref t), (.int (0 : Int32)), (.int (Int32.ofNat n))]) (st0 := []) (lenOf pd_ABII_R_AB rfl) rfl rfl (Nat.le_of_eq rfl) (by rw [hml]; rfl) (by decide) (by decide) (fun _ _ _ q => by obtain ⟨_, _, _, q2, q3, _⟩ := q; exact ⟨q2.up P0.sz all0, CHr.ext q3 P0.chv⟩) d35_13 rfl ?_
  intro v141 T141 h141 L141 q141 P141
  obtain ⟨a141, k141, rfl, f141, E141, n141, G141⟩ := q141
  show W.Go p.tables e below _ (T141.setTop (mkF m 16 #[.val (.ref t), .val (.int (0 : Int32)), .val (.int (Int32.ofNat n))] [(.ref a141)]))
  exact P141.retAN hlk hret rfl rfl rfl d35_16 (by decide) (by decide) ⟨a141, k141, rfl, P141.fr, P141.ext0, n141, G141⟩
def QSI (Z : State) (x : Addr) (n : Nat) (g : Nat → Int32) (h0 : Heap) (v : Option Value) (h : Heap) (L : List Loc) : Prop := v = none ∧ W.Frw [x] h0.size L ∧ Keep h0 h [x] ∧ ∃ a k, h0.size ≤ a ∧ Exa Z h x "java/lang/String" ∧ Fld Z h x "java/lang/String" "value" "[B" (.ref a) ∧ Fld Z h x "java/lang/String" "coder" "B" (.int 0) ∧ W.Arg Z h a k .byte n g
set_option maxRecDepth 65536 in
set_option maxHeartbeats 40000000 in
theorem c_sin2 (l : Launch) (Z : State) (a0 : Array Value) (hw : ∀ d ∈ tables_1, d.before a0 Z = true) (y : Addr) (x t : Addr) (kb : ClassId) (cap n : Nat) (g : Nat → Int32) (hn : n < cap) (hx : n ≤ 8) (h0 : Heap) (Ey : Exa Z h0 y "java/lang/String") (v0 c0 : Value) (F0 : Fld Z h0 y "java/lang/String" "value" "[B" v0) (C0 : Fld Z h0 y "java/lang/String" "coder" "B" c0) (B0 : Sb Z h0 x t kb cap n g) (EZ : Ext Z.heap h0) (zc : Int32) (fm : Value) (US : UST Z zc fm) : W.MetN l Z (⟨"java/lang/String", "<init>", "(Ljava/lang/AbstractStringBuilder;Ljava/lang/Void;)V"⟩ : MethodName) jdk_42_method_150_code 5 ((Option.none : Option Jvm.ClassFile.FieldType)) [] ({ frames := 3, cells := 1, slots := 8, locals := 66 } : Room) #[.ref y, .ref x, .null]  h0 (QSI Z y n g h0) := by
  refine W.MetN.mk (ls0 := #[.val (.ref y), .val (.ref x), .val .null, .unset, .unset]) [y] (plainFor_of_name pn_java_lang_String) (fun m => by first | (simp [entryFrame, mkF, argsToLocals, Value.category]; done) | rfl) ?_
  intro p e s m below meth c s₁ hml hret hnm hlk P0
  show W.Go p.tables e below _ (s₁.setTop (mkF m 0 #[.val (.ref y), .val (.ref x), .val .null, .unset, .unset] []))
  refine W.g_aloadN (pc1 := 1) P0.q d30_0 rfl rfl rfl ?_
  refine P0.initO (pc1 := 4) (W := 0) (wd hw (k := 15) rfl) (wd hw (k := 16) rfl) (wd hw (k := 17) rfl) (by rw [hml]; rfl) (by decide) (Nat.le_of_eq rfl) (by decide) d30_1 rfl ?_
  intro T142 P142
  refine W.g_aloadN (pc1 := 5) P142.q d30_4 rfl rfl rfl ?_
  refine P142.callV (pc1 := 8) B0.1 (wd hw (k := 189) rfl) (wd hw (k := 190) rfl) (wd hw (k := 192) rfl) (wd hw (k := 191) rfl) (notFace_of_selects (args := #[]) (mvT P142.hz (wd hw (k := 192) rfl))) (by decide) (W.MetN.pay (W := 0) (c_gv l Z a0 hw x t h0 B0.2.1) P142 (wd hw (k := 193) rfl) (wd hw (k := 113) rfl) (by decide) (by decide)) (argsL := []) (st0 := []) (lenOf pd__R_AB rfl) rfl rfl (Nat.le_of_eq rfl) (by rw [hml]; rfl) (by decide) (by decide) (W.Pure.ok P142.chv) d30_5 rfl ?_
  intro v143 T143 h143 L143 q143 P143
  obtain ⟨rfl, rfl, rfl⟩ := q143
  show W.Go p.tables e below _ (T143.setTop (mkF m 8 #[.val (.ref y), .val (.ref x), .val .null, .unset, .unset] [(.ref t)]))
  refine W.g_astoreN (pc1 := 9) (ls2 := #[.val (.ref y), .val (.ref x), .val .null, .val (.ref t), .unset]) P143.q d30_8 rfl rfl rfl ?_
  refine W.g_aloadN (pc1 := 10) P143.q d30_9 rfl rfl rfl ?_
  refine P143.callV (pc1 := 13) B0.1 (wd hw (k := 194) rfl) (wd hw (k := 195) rfl) (wd hw (k := 197) rfl) (wd hw (k := 198) rfl) (W.nf_of (args := #[]) (z := (⟨"java/lang/AbstractStringBuilder", "getValue", "()[B"⟩ : MethodName)) rfl (mvT P143.hz (wd hw (k := 191) rfl)) (notFace_of_selects (args := #[]) (mvT P143.hz (wd hw (k := 192) rfl)))) (by decide) (W.MetN.pay (W := 0) (c_slen l Z a0 hw x t kb cap n g h0 B0) P143 (wd hw (k := 199) rfl) (wd hw (k := 105) rfl) (by decide) (by decide)) (argsL := []) (st0 := []) (lenOf pd__R_I rfl) rfl rfl (Nat.le_of_eq rfl) (by rw [hml]; rfl) (by decide) (by decide) (W.Pure.ok P143.chv) d30_10 rfl ?_
  intro v144 T144 h144 L144 q144 P144
  obtain ⟨rfl, rfl, rfl⟩ := q144
  show W.Go p.tables e below _ (T144.setTop (mkF m 13 #[.val (.ref y), .val (.ref x), .val .null, .val (.ref t), .unset] [(.int (Int32.ofNat n))]))
  refine W.g_istore (pc1 := 15) (ls2 := #[.val (.ref y), .val (.ref x), .val .null, .val (.ref t), .val (.int (Int32.ofNat n))]) P144.q d30_13 rfl rfl ?_
  refine W.g_aloadN (pc1 := 16) P144.q d30_15 rfl rfl rfl ?_
  refine P144.callV (pc1 := 19) B0.1 (wd hw (k := 202) rfl) (wd hw (k := 203) rfl) (wd hw (k := 205) rfl) (wd hw (k := 204) rfl) (notFace_of_selects (args := #[]) (mvT P144.hz (wd hw (k := 205) rfl))) (by decide) (W.MetN.pay (W := 0) (c_alat l Z a0 hw x t kb cap n g h0 B0 EZ zc fm US) P144 (wd hw (k := 206) rfl) (wd hw (k := 113) rfl) (by decide) (by decide)) (argsL := []) (st0 := []) (lenOf pd__R_Z rfl) rfl rfl (Nat.le_of_eq rfl) (by rw [hml]; rfl) (by decide) (by decide) (W.Pure.ok P144.chv) d30_16 rfl ?_
  intro v145 T145 h145 L145 q145 P145
  obtain ⟨rfl, rfl, rfl⟩ := q145
  show W.Go p.tables e below _ (T145.setTop (mkF m 19 #[.val (.ref y), .val (.ref x), .val .null, .val (.ref t), .val (.int (Int32.ofNat n))] [(.int (1 : Int32))]))
  refine W.g_ifN (pc2 := 22) P145.q d30_19 rfl (by decide) ?_
  refine W.g_aloadN (pc1 := 23) P145.q d30_22 rfl rfl rfl ?_
  refine W.g_iconst (pc1 := 24) (v := (0 : Int32)) P145.q d30_23 (by decide) rfl ?_
  refine P145.putF (host := "") (pc1 := 27) (Or.inl (wd hw (k := 30) rfl)) Via.refl C0 Ey (Or.inr ⟨(wd hw (k := 31) rfl), rfl, hnm⟩) (wd hw (k := 5) rfl) (ty := .byte) (by decide) rfl rfl (Or.inl (List.mem_singleton.mpr rfl)) W.safe0 d30_24 rfl ?_
  intro T146 h146 P146 W146
  have Ea := Ey.wr W146
  have Ca := C0.same W146
  have Fa := F0.other W146 (Or.inr (slot_ne (t := .array .byte) (t' := .byte) (Or.inr (wd hw (k := 33) rfl)) (Or.inr (wd hw (k := 31) rfl)) (by decide) (by decide) (by decide)))
  have hty : t ≠ y := by obtain ⟨vs, V, -⟩ := B0.2.2.2.2; exact Ne.symm (Exa.neArv Ey V (wd hw (k := 5) rfl))
  have Ta := B0.2.2.2.2.other W146 hty
  refine W.g_aloadN (pc1 := 28) P146.q d30_27 rfl rfl rfl ?_
  refine W.g_aloadN (pc1 := 29) P146.q d30_28 rfl rfl rfl ?_
  refine W.g_iconst (pc1 := 30) (v := (0 : Int32)) P146.q d30_29 (by decide) rfl ?_
  refine W.g_iload (pc1 := 32) P146.q d30_30 rfl rfl ?_
  refine P146.callS (pc1 := 35) (wd hw (k := 207) rfl) (wd hw (k := 208) rfl) (wd hw (k := 209) rfl) (wd hw (k := 210) rfl) (by decide) (W.MetN.pay (W := 1) (c_cor l Z a0 hw t kb cap n g hn hx h146 Ta) P146 (wd hw (k := 210) rfl) (wd hw (k := 209) rfl) (by decide) (by decide)) (argsL := [(.ref t), (.int (0 : Int32)), (.int (Int32.ofNat n))]) (st0 := [(.ref y)]) (lenOf pd_ABII_R_AB rfl) rfl rfl (Nat.le_of_eq rfl) (by rw [hml]; rfl) (by decide) (by decide) (fun _ _ _ q => by obtain ⟨_, _, _, q2, q3, _⟩ := q; exact ⟨q2.up P146.sz all0, CHr.ext q3 P146.chv⟩) d30_32 rfl ?_
  intro v147 T147 h147 L147 q147 P147
  obtain ⟨a147, k147, rfl, f147, E147, n147, G147⟩ := q147
  show W.Go p.tables e below _ (T147.setTop (mkF m 35 #[.val (.ref y), .val (.ref x), .val .null, .val (.ref t), .val (.int (Int32.ofNat n))] [(.ref a147), (.ref y)]))
  have hsz := W146.size
  have hay : a147 ≠ y := Ne.symm (Nat.ne_of_lt (Nat.lt_of_lt_of_le Ea.lt n147))
  refine P147.putF (host := "") (pc1 := 38) (Or.inl (wd hw (k := 32) rfl)) Via.refl (Fa.ext E147) (Ea.ext E147) (Or.inr ⟨(wd hw (k := 33) rfl), rfl, hnm⟩) (wd hw (k := 5) rfl) (ty := (.array .byte)) (by decide) rfl rfl (Or.inl (List.mem_singleton.mpr rfl)) W.safe0 d30_35 rfl ?_
  intro T148 h148 P148 W148
  refine W.g_goto (pc1 := 97) P148.q d30_38 (by decide) rfl ?_
  exact P148.retN hlk hret d30_97 (by decide) (by decide) ⟨rfl, P148.fr, P148.keep, a147, k147, by omega, (Ea.ext E147).wr W148, (Fa.ext E147).same W148, (Ca.ext E147).other W148 (Or.inr (slot_ne (t := .byte) (t' := .array .byte) (Or.inr (wd hw (k := 31) rfl)) (Or.inr (wd hw (k := 33) rfl)) (by decide) (by decide) (by decide))), G147.other W148 hay⟩
set_option maxRecDepth 65536 in
set_option maxHeartbeats 40000000 in
theorem c_sin1 (l : Launch) (Z : State) (a0 : Array Value) (hw : ∀ d ∈ tables_1, d.before a0 Z = true) (y : Addr) (x t : Addr) (kb : ClassId) (cap n : Nat) (g : Nat → Int32) (hn : n < cap) (hx : n ≤ 8) (h0 : Heap) (Ey : Exa Z h0 y "java/lang/String") (v0 c0 : Value) (F0 : Fld Z h0 y "java/lang/String" "value" "[B" v0) (C0 : Fld Z h0 y "java/lang/String" "coder" "B" c0) (B0 : Sb Z h0 x t kb cap n g) (EZ : Ext Z.heap h0) (zc : Int32) (fm : Value) (US : UST Z zc fm) : W.MetN l Z (⟨"java/lang/String", "<init>", "(Ljava/lang/StringBuilder;)V"⟩ : MethodName) jdk_42_method_53_code 2 ((Option.none : Option Jvm.ClassFile.FieldType)) [] ({ frames := 4, cells := 1, slots := 8, locals := 84 } : Room) #[.ref y, .ref x]  h0 (QSI Z y n g h0) := by
  refine W.MetN.mk (ls0 := #[.val (.ref y), .val (.ref x)]) [y] (plainFor_of_name pn_java_lang_String) (fun m => by first | (simp [entryFrame, mkF, argsToLocals, Value.category]; done) | rfl) ?_
  intro p e s m below meth c s₁ hml hret hnm hlk P0
  show W.Go p.tables e below _ (s₁.setTop (mkF m 0 #[.val (.ref y), .val (.ref x)] []))
  refine W.g_aloadN (pc1 := 1) P0.q d29_0 rfl rfl rfl ?_
  refine W.g_aloadN (pc1 := 2) P0.q d29_1 rfl rfl rfl ?_
  refine W.g_null (pc1 := 3) P0.q d29_2 rfl ?_
  refine P0.callN (pc1 := 6) rfl (wd hw (k := 186) rfl) (wd hw (k := 187) rfl) (wd hw (k := 188) rfl) (by decide) (W.MetN.pay (W := 0) (c_sin2 l Z a0 hw y x t kb cap n g hn hx h0 Ey v0 c0 F0 C0 B0 EZ zc fm US) P0 (wd hw (k := 188) rfl) (wd hw (k := 6) rfl) (by decide) (by decide)) (argsL := [(.ref x), .null]) (st0 := []) (lenOf pd_Ljava_lang_AbstractStringBuilderLjava_lang_Void_R_V rfl) rfl rfl (Nat.le_of_eq rfl) (by rw [hml]; rfl) (by decide) (by decide) (fun _ _ _ q => ⟨q.2.1, CHr.keep q.2.2.1 (sfS W.safe0 sf0) P0.chv⟩) d29_3 rfl ?_
  intro v149 T149 h149 L149 q149 P149
  obtain ⟨rfl, f149, K149, q149⟩ := q149
  show W.Go p.tables e below _ (T149.setTop (mkF m 6 #[.val (.ref y), .val (.ref x)] []))
  exact P149.retN hlk hret d29_6 (by decide) (by decide) ⟨rfl, P149.fr, P149.keep, q149⟩
def QTS (Z : State) (n : Nat) (g : Nat → Int32) (h0 : Heap) (v : Option Value) (h : Heap) (L : List Loc) : Prop := ∃ y a k, v = some (.ref y) ∧ W.Frw [] h0.size L ∧ Ext h0 h ∧ Exa Z h y "java/lang/String" ∧ Fld Z h y "java/lang/String" "value" "[B" (.ref a) ∧ Fld Z h y "java/lang/String" "coder" "B" (.int 0) ∧ W.Arg Z h a k .byte n g
set_option maxRecDepth 65536 in
set_option maxHeartbeats 40000000 in
theorem c_tos (l : Launch) (Z : State) (a0 : Array Value) (hw : ∀ d ∈ tables_1, d.before a0 Z = true) (x t : Addr) (kb : ClassId) (cap n : Nat) (g : Nat → Int32) (hn : n < cap) (hx : n ≤ 8) (h0 : Heap) (B0 : Sb Z h0 x t kb cap n g) (EZ : Ext Z.heap h0) (zc : Int32) (fm : Value) (US : UST Z zc fm) : W.MetN l Z (⟨"java/lang/StringBuilder", "toString", "()Ljava/lang/String;"⟩ : MethodName) jdk_67_method_42_code 1 ((Option.some (Jvm.ClassFile.FieldType.object "java/lang/String"))) [] ({ frames := 5, cells := 2, slots := 12, locals := 102 } : Room) #[.ref x]  h0 (QTS Z n g h0) := by
  refine W.MetN.mk (ls0 := #[.val (.ref x)]) [] (plainFor_of_name pn_java_lang_StringBuilder) (fun m => by first | (simp [entryFrame, mkF, argsToLocals, Value.category]; done) | rfl) ?_
  intro p e s m below meth c s₁ hml hret hnm hlk P0
  show W.Go p.tables e below _ (s₁.setTop (mkF m 0 #[.val (.ref x)] []))
  refine P0.newO (pc1 := 3) (wd hw (k := 182) rfl) (wd hw (k := 5) rfl) (wd hw (k := 6) rfl) (by decide) (by decide) d28_0 rfl ?_
  intro T150 h150 x150 g150 P150 E150 A150 D150 U150
  have Fv : Fld Z h150 x150 "java/lang/String" "value" "[B" .null := D150 (Or.inr (wd hw (k := 33) rfl)) (ty := .array .byte) (by decide)
  have Fc : Fld Z h150 x150 "java/lang/String" "coder" "B" (.int 0) := D150 (Or.inr (wd hw (k := 31) rfl)) (ty := .byte) (by decide)
  refine W.g_dup (pc1 := 4) P150.q d28_3 rfl rfl ?_
  refine W.g_aloadN (pc1 := 5) P150.q d28_4 rfl rfl rfl ?_
  refine P150.callN (pc1 := 8) rfl (wd hw (k := 183) rfl) (wd hw (k := 184) rfl) (wd hw (k := 185) rfl) (by decide) (W.MetN.pay (W := 1) (c_sin1 l Z a0 hw x150 x t kb cap n g hn hx h150 A150 _ _ Fv Fc (B0.ext E150) (P150.extZ EZ all0) zc fm US) P150 (wd hw (k := 185) rfl) (wd hw (k := 6) rfl) (by decide) (by decide)) (argsL := [(.ref x)]) (st0 := [(.ref x150)]) (lenOf pd_Ljava_lang_StringBuilder_R_V rfl) rfl rfl (Nat.le_of_eq rfl) (by rw [hml]; rfl) (by decide) (by decide) (fun _ _ _ q => ⟨q.2.1.up P150.sz (allS (Or.inr (Nat.le_of_eq g150.symm)) all0), CHr.keep q.2.2.1 (sfS W.safe0 sf0) P150.chv⟩) d28_5 rfl ?_
  intro v151 T151 h151 L151 q151 P151
  obtain ⟨rfl, f151, K151, a151, k151, n151, A151, F151, C151, G151⟩ := q151
  show W.Go p.tables e below _ (T151.setTop (mkF m 8 #[.val (.ref x)] [(.ref x150)]))
  exact P151.retAN hlk hret rfl rfl rfl d28_8 (by decide) (by decide) ⟨x150, a151, k151, rfl, P151.fr, P151.ext0, A151, F151, C151, G151⟩
abbrev rmRec : Room := ({ frames := 1, cells := 0, slots := 0, locals := 12 } : Room)
set_option maxRecDepth 65536 in
set_option maxHeartbeats 40000000 in
theorem rec0 (l : Launch) (Z : State) (a0 : Array Value) (hw : ∀ d ∈ tables_1, d.before a0 Z = true) (x : Addr) (h0 : Heap) : W.MetN l Z (⟨"java/lang/Record", "<init>", "()V"⟩ : MethodName) jdk_30_method_1_code 1 none [] rmRec #[.ref x] h0 (W.Pure none h0) := by
  refine W.MetN.mk (ls0 := #[.val (.ref x)]) [] (plainFor_of_name pn_java_lang_Record) (fun m => by first | (simp [entryFrame, mkF, argsToLocals, Value.category]; done) | rfl) ?_
  intro p e s m below meth c s₁ hml hret hnm hlk P0
  show W.Go p.tables e below _ (s₁.setTop (mkF m 0 #[.val (.ref x)] []))
  refine W.g_aloadN (pc1 := 1) P0.q d9_0 rfl rfl rfl ?_
  refine P0.initO (pc1 := 4) (W := 0) (wd hw (k := 50) rfl) (wd hw (k := 16) rfl) (wd hw (k := 17) rfl) (by rw [hml]; rfl) (by decide) (Nat.le_of_eq rfl) (by decide) d9_1 rfl ?_
  intro T152 P152
  exact P152.retN hlk hret d9_4 (by decide) (by decide) ⟨rfl, rfl, rfl⟩
set_option maxRecDepth 65536 in
set_option maxHeartbeats 40000000 in
theorem c_rnn (l : Launch) (Z : State) (a0 : Array Value) (hw : ∀ d ∈ tables_1, d.before a0 Z = true) (y : Addr) (h0 : Heap) : W.MetN l Z (⟨"java/util/Objects", "requireNonNull", "(Ljava/lang/Object;)Ljava/lang/Object;"⟩ : MethodName) jdk_31_method_10_code 1 ((Option.some (Jvm.ClassFile.FieldType.object "java/lang/Object"))) [] ({ frames := 0, cells := 0, slots := 0, locals := 0 } : Room) #[.ref y]  h0 (W.Pure (some (.ref y)) h0) := by
  refine W.MetN.mk (ls0 := #[.val (.ref y)]) [] (plainFor_of_name pn_java_util_Objects) (fun m => by first | (simp [entryFrame, mkF, argsToLocals, Value.category]; done) | rfl) ?_
  intro p e s m below meth c s₁ hml hret hnm hlk P0
  show W.Go p.tables e below _ (s₁.setTop (mkF m 0 #[.val (.ref y)] []))
  refine W.g_aloadN (pc1 := 1) P0.q d14_0 rfl rfl rfl ?_
  refine W.g_nonY (pc1 := 12) P0.q d14_1 (by decide) rfl ?_
  refine W.g_aloadN (pc1 := 13) P0.q d14_12 rfl rfl rfl ?_
  exact P0.retAN hlk hret rfl rfl rfl d14_13 (by decide) (by decide) ⟨rfl, rfl, rfl⟩
def QOI (Z : State) (x y : Addr) (h0 : Heap) (v : Option Value) (h : Heap) (L : List Loc) : Prop := v = none ∧ W.Frw [x] h0.size L ∧ Keep h0 h [x] ∧ Exa Z h x "java/util/Optional" ∧ Fld Z h x "java/util/Optional" "value" "Ljava/lang/Object;" (.ref y)
set_option maxRecDepth 65536 in
set_option maxHeartbeats 40000000 in
theorem c_oini (l : Launch) (Z : State) (a0 : Array Value) (hw : ∀ d ∈ tables_1, d.before a0 Z = true) (x y : Addr) (h0 : Heap) (E0 : Exa Z h0 x "java/util/Optional") (v0 : Value) (F0 : Fld Z h0 x "java/util/Optional" "value" "Ljava/lang/Object;" v0) : W.MetN l Z (⟨"java/util/Optional", "<init>", "(Ljava/lang/Object;)V"⟩ : MethodName) jdk_32_method_2_code 2 ((Option.none : Option Jvm.ClassFile.FieldType)) [] ({ frames := 1, cells := 0, slots := 0, locals := 13 } : Room) #[.ref x, .ref y]  h0 (QOI Z x y h0) := by
  refine W.MetN.mk (ls0 := #[.val (.ref x), .val (.ref y)]) [x] (plainFor_of_name pn_java_util_Optional) (fun m => by first | (simp [entryFrame, mkF, argsToLocals, Value.category]; done) | rfl) ?_
  intro p e s m below meth c s₁ hml hret hnm hlk P0
  show W.Go p.tables e below _ (s₁.setTop (mkF m 0 #[.val (.ref x), .val (.ref y)] []))
  refine W.g_aloadN (pc1 := 1) P0.q d15_0 rfl rfl rfl ?_
  refine P0.initO (pc1 := 4) (W := 0) (wd hw (k := 95) rfl) (wd hw (k := 16) rfl) (wd hw (k := 17) rfl) (by rw [hml]; rfl) (by decide) (Nat.le_of_eq rfl) (by decide) d15_1 rfl ?_
  intro T153 P153
  refine W.g_aloadN (pc1 := 5) P153.q d15_4 rfl rfl rfl ?_
  refine W.g_aloadN (pc1 := 6) P153.q d15_5 rfl rfl rfl ?_
  refine P153.putF (host := "") (pc1 := 9) (Or.inl (wd hw (k := 96) rfl)) Via.refl F0 E0 (Or.inr ⟨(wd hw (k := 97) rfl), rfl, hnm⟩) (wd hw (k := 86) rfl) (ty := (.object "java/lang/Object")) (by decide) rfl rfl (Or.inl (List.mem_singleton.mpr rfl)) W.safe0 d15_6 rfl ?_
  intro T154 h154 P154 W154
  exact P154.retN hlk hret d15_9 (by decide) (by decide) ⟨rfl, P154.fr, P154.keep, E0.wr W154, F0.same W154⟩
def QOV (Z : State) (dv : Value) (h0 : Heap) (v : Option Value) (h : Heap) (L : List Loc) : Prop := ∃ o, v = some (.ref o) ∧ W.Frw [] h0.size L ∧ Ext h0 h ∧ Exa Z h o "java/util/Optional" ∧ Fld Z h o "java/util/Optional" "value" "Ljava/lang/Object;" dv
set_option maxRecDepth 65536 in
set_option maxHeartbeats 40000000 in
theorem c_oof (l : Launch) (Z : State) (a0 : Array Value) (hw : ∀ d ∈ tables_1, d.before a0 Z = true) (y : Addr) (h0 : Heap) : W.MetN l Z (⟨"java/util/Optional", "of", "(Ljava/lang/Object;)Ljava/util/Optional;"⟩ : MethodName) jdk_32_method_3_code 1 ((Option.some (Jvm.ClassFile.FieldType.object "java/util/Optional"))) [] ({ frames := 2, cells := 1, slots := 1, locals := 27 } : Room) #[.ref y]  h0 (QOV Z (.ref y) h0) := by
  refine W.MetN.mk (ls0 := #[.val (.ref y)]) [] (plainFor_of_name pn_java_util_Optional) (fun m => by first | (simp [entryFrame, mkF, argsToLocals, Value.category]; done) | rfl) ?_
  intro p e s m below meth c s₁ hml hret hnm hlk P0
  show W.Go p.tables e below _ (s₁.setTop (mkF m 0 #[.val (.ref y)] []))
  refine P0.newO (pc1 := 3) (wd hw (k := 85) rfl) (wd hw (k := 86) rfl) (wd hw (k := 36) rfl) (by decide) (by decide) d13_0 rfl ?_
  intro T155 h155 x155 g155 P155 E155 A155 D155 U155
  have Fv : Fld Z h155 x155 "java/util/Optional" "value" "Ljava/lang/Object;" .null := D155 (Or.inr (wd hw (k := 97) rfl)) (ty := .object "java/lang/Object") (by decide)
  refine W.g_dup (pc1 := 4) P155.q d13_3 rfl rfl ?_
  refine W.g_aloadN (pc1 := 5) P155.q d13_4 rfl rfl rfl ?_
  refine P155.callS (pc1 := 8) (wd hw (k := 87) rfl) (wd hw (k := 88) rfl) (wd hw (k := 89) rfl) (wd hw (k := 90) rfl) (by decide) (W.MetN.pay (W := 2) (c_rnn l Z a0 hw y h155) P155 (wd hw (k := 90) rfl) (wd hw (k := 89) rfl) (by decide) (by decide)) (argsL := [(.ref y)]) (st0 := [(.ref x155), (.ref x155)]) (lenOf pd_Ljava_lang_Object_R_Ljava_lang_Object rfl) rfl rfl (Nat.le_of_eq rfl) (by rw [hml]; rfl) (by decide) (by decide) (W.Pure.ok P155.chv) d13_5 rfl ?_
  intro v156 T156 h156 L156 q156 P156
  obtain ⟨rfl, rfl, rfl⟩ := q156
  show W.Go p.tables e below _ (T156.setTop (mkF m 8 #[.val (.ref y)] [(.ref y), (.ref x155), (.ref x155)]))
  refine P156.callN (pc1 := 11) rfl (wd hw (k := 91) rfl) (wd hw (k := 92) rfl) (wd hw (k := 94) rfl) (by decide) (W.MetN.pay (W := 1) (c_oini l Z a0 hw x155 y h155 A155 _ Fv) P156 (wd hw (k := 94) rfl) (wd hw (k := 36) rfl) (by decide) (by decide)) (argsL := [(.ref y)]) (st0 := [(.ref x155)]) (lenOf pd_Ljava_lang_Object_R_V rfl) rfl rfl (Nat.le_of_eq rfl) (by rw [hml]; rfl) (by decide) (by decide) (fun _ _ _ q => ⟨q.2.1.up P156.sz (allS (Or.inr (Nat.le_of_eq g155.symm)) all0), CHr.keep q.2.2.1 (sfS W.safe0 sf0) P156.chv⟩) d13_8 rfl ?_
  intro v157 T157 h157 L157 q157 P157
  obtain ⟨rfl, f157, K157, A157, F157⟩ := q157
  show W.Go p.tables e below _ (T157.setTop (mkF m 11 #[.val (.ref y)] [(.ref x155)]))
  exact P157.retAN hlk hret rfl rfl rfl d13_11 (by decide) (by decide) ⟨x155, rfl, P157.fr, P157.ext0, A157, F157⟩
set_option maxRecDepth 65536 in
set_option maxHeartbeats 40000000 in
theorem c_oem (l : Launch) (Z : State) (a0 : Array Value) (hw : ∀ d ∈ tables_1, d.before a0 Z = true) (em : Addr) (h0 : Heap) (S0 : Sta Z h0 "java/util/Optional" "EMPTY" "Ljava/util/Optional;" (.ref em)) (E0 : Exa Z h0 em "java/util/Optional") (F0 : Fld Z h0 em "java/util/Optional" "value" "Ljava/lang/Object;" .null) : W.MetN l Z (⟨"java/util/Optional", "empty", "()Ljava/util/Optional;"⟩ : MethodName) jdk_32_method_1_code 1 ((Option.some (Jvm.ClassFile.FieldType.object "java/util/Optional"))) [] ({ frames := 0, cells := 0, slots := 0, locals := 0 } : Room) #[]  h0 (QOV Z .null h0) := by
  refine W.MetN.mk (ls0 := #[.unset]) [] (plainFor_of_name pn_java_util_Optional) (fun m => by first | (simp [entryFrame, mkF, argsToLocals, Value.category]; done) | rfl) ?_
  intro p e s m below meth c s₁ hml hret hnm hlk P0
  show W.Go p.tables e below _ (s₁.setTop (mkF m 0 #[.unset] []))
  refine P0.getS (pc1 := 3) (wd hw (k := 38) rfl) Via.refl S0 d7_0 rfl ?_
  intro T158 P158
  refine W.g_astoreN (pc1 := 4) (ls2 := #[.val (.ref em)]) P158.q d7_3 rfl rfl rfl ?_
  refine W.g_aloadN (pc1 := 5) P158.q d7_4 rfl rfl rfl ?_
  exact P158.retAN hlk hret rfl rfl rfl d7_5 (by decide) (by decide) ⟨em, rfl, P158.fr, P158.ext0, E0, F0⟩
set_option maxRecDepth 65536 in
set_option maxHeartbeats 40000000 in
theorem c_isp0 (l : Launch) (Z : State) (a0 : Array Value) (hw : ∀ d ∈ tables_1, d.before a0 Z = true) (o y : Addr) (h0 : Heap) (F0 : Fld Z h0 o "java/util/Optional" "value" "Ljava/lang/Object;" .null) : W.MetN l Z (⟨"java/util/Optional", "isPresent", "()Z"⟩ : MethodName) jdk_32_method_6_code 1 ((Option.some Jvm.ClassFile.FieldType.boolean)) [] ({ frames := 0, cells := 0, slots := 0, locals := 0 } : Room) #[.ref o]  h0 (W.Pure (some (.int 0)) h0) := by
  refine W.MetN.mk (ls0 := #[.val (.ref o)]) [] (plainFor_of_name pn_java_util_Optional) (fun m => by first | (simp [entryFrame, mkF, argsToLocals, Value.category]; done) | rfl) ?_
  intro p e s m below meth c s₁ hml hret hnm hlk P0
  show W.Go p.tables e below _ (s₁.setTop (mkF m 0 #[.val (.ref o)] []))
  refine W.g_aloadN (pc1 := 1) P0.q d16_0 rfl rfl rfl ?_
  refine P0.getF (host := "") (pc1 := 4) (Or.inl (wd hw (k := 96) rfl)) Via.refl F0 d16_1 rfl ?_
  intro T159 P159
  refine W.g_nullY (pc1 := 11) P159.q d16_4 (by decide) rfl ?_
  refine W.g_iconst (pc1 := 12) (v := (0 : Int32)) P159.q d16_11 (by decide) rfl ?_
  exact P159.retVN hlk hret (Or.inl rfl) d16_12 (by decide) (by decide) ⟨rfl, rfl, rfl⟩
set_option maxRecDepth 65536 in
set_option maxHeartbeats 40000000 in
theorem c_isp1 (l : Launch) (Z : State) (a0 : Array Value) (hw : ∀ d ∈ tables_1, d.before a0 Z = true) (o y : Addr) (h0 : Heap) (F0 : Fld Z h0 o "java/util/Optional" "value" "Ljava/lang/Object;" (.ref y)) : W.MetN l Z (⟨"java/util/Optional", "isPresent", "()Z"⟩ : MethodName) jdk_32_method_6_code 1 ((Option.some Jvm.ClassFile.FieldType.boolean)) [] ({ frames := 0, cells := 0, slots := 0, locals := 0 } : Room) #[.ref o]  h0 (W.Pure (some (.int 1)) h0) := by
  refine W.MetN.mk (ls0 := #[.val (.ref o)]) [] (plainFor_of_name pn_java_util_Optional) (fun m => by first | (simp [entryFrame, mkF, argsToLocals, Value.category]; done) | rfl) ?_
  intro p e s m below meth c s₁ hml hret hnm hlk P0
  show W.Go p.tables e below _ (s₁.setTop (mkF m 0 #[.val (.ref o)] []))
  refine W.g_aloadN (pc1 := 1) P0.q d16_0 rfl rfl rfl ?_
  refine P0.getF (host := "") (pc1 := 4) (Or.inl (wd hw (k := 96) rfl)) Via.refl F0 d16_1 rfl ?_
  intro T160 P160
  refine W.g_nullN (pc2 := 7) P160.q d16_4 rfl ?_
  refine W.g_iconst (pc1 := 8) (v := (1 : Int32)) P160.q d16_7 (by decide) rfl ?_
  refine W.g_goto (pc1 := 12) P160.q d16_8 (by decide) rfl ?_
  exact P160.retVN hlk hret (Or.inl rfl) d16_12 (by decide) (by decide) ⟨rfl, rfl, rfl⟩
set_option maxRecDepth 65536 in
set_option maxHeartbeats 40000000 in
theorem c_oget (l : Launch) (Z : State) (a0 : Array Value) (hw : ∀ d ∈ tables_1, d.before a0 Z = true) (o y : Addr) (h0 : Heap) (F0 : Fld Z h0 o "java/util/Optional" "value" "Ljava/lang/Object;" (.ref y)) : W.MetN l Z (⟨"java/util/Optional", "get", "()Ljava/lang/Object;"⟩ : MethodName) jdk_32_method_5_code 1 ((Option.some (Jvm.ClassFile.FieldType.object "java/lang/Object"))) [] ({ frames := 0, cells := 0, slots := 0, locals := 0 } : Room) #[.ref o]  h0 (W.Pure (some (.ref y)) h0) := by
  refine W.MetN.mk (ls0 := #[.val (.ref o)]) [] (plainFor_of_name pn_java_util_Optional) (fun m => by first | (simp [entryFrame, mkF, argsToLocals, Value.category]; done) | rfl) ?_
  intro p e s m below meth c s₁ hml hret hnm hlk P0
  show W.Go p.tables e below _ (s₁.setTop (mkF m 0 #[.val (.ref o)] []))
  refine W.g_aloadN (pc1 := 1) P0.q d27_0 rfl rfl rfl ?_
  refine P0.getF (host := "") (pc1 := 4) (Or.inl (wd hw (k := 96) rfl)) Via.refl F0 d27_1 rfl ?_
  intro T161 P161
  refine W.g_nonY (pc1 := 17) P161.q d27_4 (by decide) rfl ?_
  refine W.g_aloadN (pc1 := 18) P161.q d27_17 rfl rfl rfl ?_
  refine P161.getF (host := "") (pc1 := 21) (Or.inl (wd hw (k := 96) rfl)) Via.refl F0 d27_18 rfl ?_
  intro T162 P162
  exact P162.retAN hlk hret rfl rfl rfl d27_21 (by decide) (by decide) ⟨rfl, rfl, rfl⟩
def Tp (Z : State) (h : Heap) (x de su o : Addr) : Prop := Exa Z h x "com/example/triage/triage/search/CaseTopics$Topic" ∧ Fld Z h x "com/example/triage/triage/search/CaseTopics$Topic" "description" "Ljava/lang/String;" (.ref de) ∧ Fld Z h x "com/example/triage/triage/search/CaseTopics$Topic" "summary" "Ljava/lang/String;" (.ref su) ∧ Fld Z h x "com/example/triage/triage/search/CaseTopics$Topic" "diagnosis" "Ljava/util/Optional;" (.ref o)
theorem Tp.ext {Z : State} {h h' : Heap} {x de su o : Addr} (S : Tp Z h x de su o) (E : Ext h h') : Tp Z h' x de su o := ⟨S.1.ext E, S.2.1.ext E, S.2.2.1.ext E, S.2.2.2.ext E⟩
def QTP (Z : State) (x de su o : Addr) (h0 : Heap) (v : Option Value) (h : Heap) (L : List Loc) : Prop := v = none ∧ W.Frw [x] h0.size L ∧ Keep h0 h [x] ∧ Tp Z h x de su o
set_option maxRecDepth 65536 in
set_option maxHeartbeats 40000000 in
theorem c_tini (l : Launch) (Z : State) (a0 : Array Value) (hw : ∀ d ∈ tables_1, d.before a0 Z = true) (x ty de su o : Addr) (nm : Int32) (h0 : Heap) (E0 : Exa Z h0 x "com/example/triage/triage/search/CaseTopics$Topic") (v0 : Value) (F0 : Fld Z h0 x "com/example/triage/triage/search/CaseTopics$Topic" "number" "I" v0) (v1 : Value) (F1 : Fld Z h0 x "com/example/triage/triage/search/CaseTopics$Topic" "type" "Lcom/example/triage/triage/search/CaseTopics$Type;" v1) (v2 : Value) (F2 : Fld Z h0 x "com/example/triage/triage/search/CaseTopics$Topic" "description" "Ljava/lang/String;" v2) (v3 : Value) (F3 : Fld Z h0 x "com/example/triage/triage/search/CaseTopics$Topic" "summary" "Ljava/lang/String;" v3) (v4 : Value) (F4 : Fld Z h0 x "com/example/triage/triage/search/CaseTopics$Topic" "diagnosis" "Ljava/util/Optional;" v4) : W.MetN l Z (⟨"com/example/triage/triage/search/CaseTopics$Topic", "<init>", "(ILcom/example/triage/triage/search/CaseTopics$Type;Ljava/lang/String;Ljava/lang/String;Ljava/util/Optional;)V"⟩ : MethodName) prog_40_method_1_code 6 ((Option.none : Option Jvm.ClassFile.FieldType)) [] ({ frames := 2, cells := 0, slots := 0, locals := 26 } : Room) #[.ref x, .int nm, .ref ty, .ref de, .ref su, .ref o]  h0 (QTP Z x de su o h0) := by
  refine W.MetN.mk (ls0 := #[.val (.ref x), .val (.int nm), .val (.ref ty), .val (.ref de), .val (.ref su), .val (.ref o)]) [x] (plainFor_of_name pn_com_example_triage_triage_search_CaseTopics_Topic) (fun m => by first | (simp [entryFrame, mkF, argsToLocals, Value.category]; done) | rfl) ?_
  intro p e s m below meth c s₁ hml hret hnm hlk P0
  show W.Go p.tables e below _ (s₁.setTop (mkF m 0 #[.val (.ref x), .val (.int nm), .val (.ref ty), .val (.ref de), .val (.ref su), .val (.ref o)] []))
  refine W.g_aloadN (pc1 := 1) P0.q d8_0 rfl rfl rfl ?_
  refine P0.callN (pc1 := 4) rfl (wd hw (k := 45) rfl) (wd hw (k := 46) rfl) (wd hw (k := 49) rfl) (by decide) (W.MetN.pay (W := 0) (rec0 l Z a0 hw x h0) P0 (wd hw (k := 49) rfl) (wd hw (k := 48) rfl) (by decide) (by decide)) (argsL := []) (st0 := []) (lenOf pd__R_V rfl) rfl rfl (Nat.le_of_eq rfl) (by rw [hml]; rfl) (by decide) (by decide) (W.Pure.ok P0.chv) d8_1 rfl ?_
  intro v163 T163 h163 L163 q163 P163
  obtain ⟨rfl, rfl, rfl⟩ := q163
  show W.Go p.tables e below _ (T163.setTop (mkF m 4 #[.val (.ref x), .val (.int nm), .val (.ref ty), .val (.ref de), .val (.ref su), .val (.ref o)] []))
  refine W.g_aloadN (pc1 := 5) P163.q d8_4 rfl rfl rfl ?_
  refine W.g_iloadN (pc1 := 6) P163.q d8_5 rfl rfl ?_
  refine P163.putF (host := "") (pc1 := 9) (Or.inl (wd hw (k := 51) rfl)) Via.refl F0 E0 (Or.inr ⟨(wd hw (k := 52) rfl), rfl, hnm⟩) (wd hw (k := 40) rfl) (ty := (.int)) (by decide) rfl rfl (Or.inl (List.mem_singleton.mpr rfl)) W.safe0 d8_6 rfl ?_
  intro T164 h164 P164 W164
  have E164 := E0.wr W164
  have G164_0 := F0.same W164
  have G164_1 := F1.other W164 (Or.inr (slot_ne (t := .object "com/example/triage/triage/search/CaseTopics$Type") (t' := .int) (Or.inr (wd hw (k := 54) rfl)) (Or.inr (wd hw (k := 52) rfl)) (by decide) (by decide) (by decide)))
  have G164_2 := F2.other W164 (Or.inr (slot_ne (t := .object "java/lang/String") (t' := .int) (Or.inr (wd hw (k := 56) rfl)) (Or.inr (wd hw (k := 52) rfl)) (by decide) (by decide) (by decide)))
  have G164_3 := F3.other W164 (Or.inr (slot_ne (t := .object "java/lang/String") (t' := .int) (Or.inr (wd hw (k := 58) rfl)) (Or.inr (wd hw (k := 52) rfl)) (by decide) (by decide) (by decide)))
  have G164_4 := F4.other W164 (Or.inr (slot_ne (t := .object "java/util/Optional") (t' := .int) (Or.inr (wd hw (k := 60) rfl)) (Or.inr (wd hw (k := 52) rfl)) (by decide) (by decide) (by decide)))
  refine W.g_aloadN (pc1 := 10) P164.q d8_9 rfl rfl rfl ?_
  refine W.g_aloadN (pc1 := 11) P164.q d8_10 rfl rfl rfl ?_
  refine P164.putF (host := "") (pc1 := 14) (Or.inl (wd hw (k := 53) rfl)) Via.refl G164_1 E164 (Or.inr ⟨(wd hw (k := 54) rfl), rfl, hnm⟩) (wd hw (k := 40) rfl) (ty := (.object "com/example/triage/triage/search/CaseTopics$Type")) (by decide) rfl rfl (Or.inl (List.mem_singleton.mpr rfl)) W.safe0 d8_11 rfl ?_
  intro T165 h165 P165 W165
  have E165 := E164.wr W165
  have G165_0 := G164_0.other W165 (Or.inr (slot_ne (t := .int) (t' := .object "com/example/triage/triage/search/CaseTopics$Type") (Or.inr (wd hw (k := 52) rfl)) (Or.inr (wd hw (k := 54) rfl)) (by decide) (by decide) (by decide)))
  have G165_1 := G164_1.same W165
  have G165_2 := G164_2.other W165 (Or.inr (slot_ne (t := .object "java/lang/String") (t' := .object "com/example/triage/triage/search/CaseTopics$Type") (Or.inr (wd hw (k := 56) rfl)) (Or.inr (wd hw (k := 54) rfl)) (by decide) (by decide) (by decide)))
  have G165_3 := G164_3.other W165 (Or.inr (slot_ne (t := .object "java/lang/String") (t' := .object "com/example/triage/triage/search/CaseTopics$Type") (Or.inr (wd hw (k := 58) rfl)) (Or.inr (wd hw (k := 54) rfl)) (by decide) (by decide) (by decide)))
  have G165_4 := G164_4.other W165 (Or.inr (slot_ne (t := .object "java/util/Optional") (t' := .object "com/example/triage/triage/search/CaseTopics$Type") (Or.inr (wd hw (k := 60) rfl)) (Or.inr (wd hw (k := 54) rfl)) (by decide) (by decide) (by decide)))
  refine W.g_aloadN (pc1 := 15) P165.q d8_14 rfl rfl rfl ?_
  refine W.g_aloadN (pc1 := 16) P165.q d8_15 rfl rfl rfl ?_
  refine P165.putF (host := "") (pc1 := 19) (Or.inl (wd hw (k := 55) rfl)) Via.refl G165_2 E165 (Or.inr ⟨(wd hw (k := 56) rfl), rfl, hnm⟩) (wd hw (k := 40) rfl) (ty := (.object "java/lang/String")) (by decide) rfl rfl (Or.inl (List.mem_singleton.mpr rfl)) W.safe0 d8_16 rfl ?_
  intro T166 h166 P166 W166
  have E166 := E165.wr W166
  have G166_0 := G165_0.other W166 (Or.inr (slot_ne (t := .int) (t' := .object "java/lang/String") (Or.inr (wd hw (k := 52) rfl)) (Or.inr (wd hw (k := 56) rfl)) (by decide) (by decide) (by decide)))
  have G166_1 := G165_1.other W166 (Or.inr (slot_ne (t := .object "com/example/triage/triage/search/CaseTopics$Type") (t' := .object "java/lang/String") (Or.inr (wd hw (k := 54) rfl)) (Or.inr (wd hw (k := 56) rfl)) (by decide) (by decide) (by decide)))
  have G166_2 := G165_2.same W166
  have G166_3 := G165_3.other W166 (Or.inr (slot_ne (t := .object "java/lang/String") (t' := .object "java/lang/String") (Or.inr (wd hw (k := 58) rfl)) (Or.inr (wd hw (k := 56) rfl)) (by decide) (by decide) (by decide)))
  have G166_4 := G165_4.other W166 (Or.inr (slot_ne (t := .object "java/util/Optional") (t' := .object "java/lang/String") (Or.inr (wd hw (k := 60) rfl)) (Or.inr (wd hw (k := 56) rfl)) (by decide) (by decide) (by decide)))
  refine W.g_aloadN (pc1 := 20) P166.q d8_19 rfl rfl rfl ?_
  refine W.g_aload (pc1 := 22) P166.q d8_20 rfl rfl rfl ?_
  refine P166.putF (host := "") (pc1 := 25) (Or.inl (wd hw (k := 57) rfl)) Via.refl G166_3 E166 (Or.inr ⟨(wd hw (k := 58) rfl), rfl, hnm⟩) (wd hw (k := 40) rfl) (ty := (.object "java/lang/String")) (by decide) rfl rfl (Or.inl (List.mem_singleton.mpr rfl)) W.safe0 d8_22 rfl ?_
  intro T167 h167 P167 W167
  have E167 := E166.wr W167
  have G167_0 := G166_0.other W167 (Or.inr (slot_ne (t := .int) (t' := .object "java/lang/String") (Or.inr (wd hw (k := 52) rfl)) (Or.inr (wd hw (k := 58) rfl)) (by decide) (by decide) (by decide)))
  have G167_1 := G166_1.other W167 (Or.inr (slot_ne (t := .object "com/example/triage/triage/search/CaseTopics$Type") (t' := .object "java/lang/String") (Or.inr (wd hw (k := 54) rfl)) (Or.inr (wd hw (k := 58) rfl)) (by decide) (by decide) (by decide)))
  have G167_2 := G166_2.other W167 (Or.inr (slot_ne (t := .object "java/lang/String") (t' := .object "java/lang/String") (Or.inr (wd hw (k := 56) rfl)) (Or.inr (wd hw (k := 58) rfl)) (by decide) (by decide) (by decide)))
  have G167_3 := G166_3.same W167
  have G167_4 := G166_4.other W167 (Or.inr (slot_ne (t := .object "java/util/Optional") (t' := .object "java/lang/String") (Or.inr (wd hw (k := 60) rfl)) (Or.inr (wd hw (k := 58) rfl)) (by decide) (by decide) (by decide)))
  refine W.g_aloadN (pc1 := 26) P167.q d8_25 rfl rfl rfl ?_
  refine W.g_aload (pc1 := 28) P167.q d8_26 rfl rfl rfl ?_
  refine P167.putF (host := "") (pc1 := 31) (Or.inl (wd hw (k := 59) rfl)) Via.refl G167_4 E167 (Or.inr ⟨(wd hw (k := 60) rfl), rfl, hnm⟩) (wd hw (k := 40) rfl) (ty := (.object "java/util/Optional")) (by decide) rfl rfl (Or.inl (List.mem_singleton.mpr rfl)) W.safe0 d8_28 rfl ?_
  intro T168 h168 P168 W168
  have E168 := E167.wr W168
  have G168_0 := G167_0.other W168 (Or.inr (slot_ne (t := .int) (t' := .object "java/util/Optional") (Or.inr (wd hw (k := 52) rfl)) (Or.inr (wd hw (k := 60) rfl)) (by decide) (by decide) (by decide)))
  have G168_1 := G167_1.other W168 (Or.inr (slot_ne (t := .object "com/example/triage/triage/search/CaseTopics$Type") (t' := .object "java/util/Optional") (Or.inr (wd hw (k := 54) rfl)) (Or.inr (wd hw (k := 60) rfl)) (by decide) (by decide) (by decide)))
  have G168_2 := G167_2.other W168 (Or.inr (slot_ne (t := .object "java/lang/String") (t' := .object "java/util/Optional") (Or.inr (wd hw (k := 56) rfl)) (Or.inr (wd hw (k := 60) rfl)) (by decide) (by decide) (by decide)))
  have G168_3 := G167_3.other W168 (Or.inr (slot_ne (t := .object "java/lang/String") (t' := .object "java/util/Optional") (Or.inr (wd hw (k := 58) rfl)) (Or.inr (wd hw (k := 60) rfl)) (by decide) (by decide) (by decide)))
  have G168_4 := G167_4.same W168
  exact P168.retN hlk hret d8_31 (by decide) (by decide) ⟨rfl, P168.fr, P168.keep, E168, G168_2, G168_3, G168_4⟩
set_option maxRecDepth 65536 in
set_option maxHeartbeats 40000000 in
theorem c_q0 (l : Launch) (Z : State) (a0 : Array Value) (hw : ∀ d ∈ tables_1, d.before a0 Z = true) (x de su o na sm tx : Addr) (dv : Value) (h0 : Heap) (T0 : Tp Z h0 x de su o) (Eo : Exa Z h0 o "java/util/Optional") (Fo : Fld Z h0 o "java/util/Optional" "value" "Ljava/lang/Object;" dv) (M0 : Sta Z h0 "com/example/triage/triage/search/CaseTopics$Narrative" "SUMMARY" "Lcom/example/triage/triage/search/CaseTopics$Narrative;" (.ref sm)) (sel : (na = sm ∧ tx = su) ∨ (¬ na = sm ∧ tx = de)) (w : Int32) (hw0 : w = 0 ∨ dv = .null) : W.MetN l Z (⟨"com/example/triage/triage/search/CaseTopics$Topic", "query", "(Lcom/example/triage/triage/search/CaseTopics$Narrative;Z)Ljava/lang/String;"⟩ : MethodName) prog_40_method_2_code 4 ((Option.some (Jvm.ClassFile.FieldType.object "java/lang/String"))) [] ({ frames := 1, cells := 0, slots := 0, locals := 20 } : Room) #[.ref x, .ref na, .int w]  h0 (W.Pure (some (.ref tx)) h0) := by
  refine W.MetN.mk (ls0 := #[.val (.ref x), .val (.ref na), .val (.int w), .unset]) [] (plainFor_of_name pn_com_example_triage_triage_search_CaseTopics_Topic) (fun m => by first | (simp [entryFrame, mkF, argsToLocals, Value.category]; done) | rfl) ?_
  intro p e s m below meth c s₁ hml hret hnm hlk P0
  show W.Go p.tables e below _ (s₁.setTop (mkF m 0 #[.val (.ref x), .val (.ref na), .val (.int w), .unset] []))
  have J : ∀ (T1 : State), W.Pos p l e ({ frames := 1, cells := 0, slots := 0, locals := 20 } : Room) s m #[.ref x, .ref na, .int w] below meth c prog_40_method_2_code Z [] [] h0 "com/example/triage/triage/search/CaseTopics$Topic" s.vm T1 [] 0 0 h0 → W.Go p.tables e below (W.GN s (W.Pure (some (.ref tx)) h0) ({ frames := 1, cells := 0, slots := 0, locals := 20 } : Room)) (T1.setTop (mkF m 18 #[.val (.ref x), .val (.ref na), .val (.int w), .unset] [.ref tx])) := by
    intro T1 P1
    refine W.g_astoreN (pc1 := 19) (ls2 := #[.val (.ref x), .val (.ref na), .val (.int w), .val (.ref tx)]) P1.q d10_18 rfl rfl rfl ?_
    refine W.g_iloadN (pc1 := 20) P1.q d10_19 rfl rfl ?_
    refine W.g_if (pc1 := 66) (pc2 := 23) P1.q d10_20 (by decide) rfl rfl (fun (hw9 : w = 0) => ?_) (fun (hw9 : ¬ (w = 0)) => ?_)
    · refine W.g_aloadN (pc1 := 67) P1.q d10_66 rfl rfl rfl ?_
      exact P1.retAN hlk hret rfl rfl rfl d10_67 (by decide) (by decide) ⟨rfl, rfl, rfl⟩
    · obtain rfl : dv = .null := hw0.resolve_left hw9
      refine W.g_aloadN (pc1 := 24) P1.q d10_23 rfl rfl rfl ?_
      refine P1.getF (host := "") (pc1 := 27) (Or.inl (wd hw (k := 59) rfl)) Via.refl T0.2.2.2 d10_24 rfl ?_
      intro T169 P169
      refine P169.callV (pc1 := 30) Eo (wd hw (k := 98) rfl) (wd hw (k := 99) rfl) (wd hw (k := 101) rfl) (wd hw (k := 100) rfl) (notFace_of_selects (args := #[]) (mvT P169.hz (wd hw (k := 101) rfl))) (by decide) (W.MetN.pay (W := 0) (c_isp0 l Z a0 hw o o h0 Fo) P169 (wd hw (k := 102) rfl) (wd hw (k := 36) rfl) (by decide) (by decide)) (argsL := []) (st0 := []) (lenOf pd__R_Z rfl) rfl rfl (Nat.le_of_eq rfl) (by rw [hml]; rfl) (by decide) (by decide) (W.Pure.ok P169.chv) d10_27 rfl ?_
      intro v170 T170 h170 L170 q170 P170
      obtain ⟨rfl, rfl, rfl⟩ := q170
      show W.Go p.tables e below _ (T170.setTop (mkF m 30 #[.val (.ref x), .val (.ref na), .val (.int w), .val (.ref tx)] [(.int (0 : Int32))]))
      refine W.g_ifY (pc1 := 66) P170.q d10_30 (by decide) rfl (by decide) ?_
      refine W.g_aloadN (pc1 := 67) P170.q d10_66 rfl rfl rfl ?_
      exact P170.retAN hlk hret rfl rfl rfl d10_67 (by decide) (by decide) ⟨rfl, rfl, rfl⟩
  refine W.g_aloadN (pc1 := 1) P0.q d10_0 rfl rfl rfl ?_
  refine P0.getS (pc1 := 4) (wd hw (k := 69) rfl) Via.refl M0 d10_1 rfl ?_
  intro T171 P171
  rcases sel with ⟨hs1, hs2⟩ | ⟨hs1, hs2⟩
  · subst hs1 hs2
    refine W.g_acmpN (pc2 := 7) P171.q d10_4 rfl rfl rfl (by simp [Jvm.Free.XT.acmp]) ?_
    refine W.g_aloadN (pc1 := 8) P171.q d10_7 rfl rfl rfl ?_
    refine P171.getF (host := "") (pc1 := 11) (Or.inl (wd hw (k := 57) rfl)) Via.refl T0.2.2.1 d10_8 rfl ?_
    intro T172 P172
    refine W.g_goto (pc1 := 18) P172.q d10_11 (by decide) rfl ?_
    exact J T172 P172
  · subst hs2
    refine W.g_acmpY (pc1 := 14) P171.q d10_4 (by decide) rfl rfl rfl (by simp [Jvm.Free.XT.acmp, hs1]) ?_
    refine W.g_aloadN (pc1 := 15) P171.q d10_14 rfl rfl rfl ?_
    refine P171.getF (host := "") (pc1 := 18) (Or.inl (wd hw (k := 55) rfl)) Via.refl T0.2.1 d10_15 rfl ?_
    intro T173 P173
    exact J T173 P173
theorem own_cat {ct cg : List Int32} {f1 f2 f3 : Nat → Int32} (h1 : f1 = fun i => ct.getD i 0) (h2 : f2 0 = 10) (h3 : f3 = fun i => cg.getD i 0) : ∀ i, i < 0 + ct.length + 1 + cg.length → W.cpy (fun i => StrChars.lo8 (f3 i)) (W.cpy (fun i => StrChars.lo8 (f2 i)) (W.cpy (fun i => StrChars.lo8 (f1 i)) (fun _ => 0) 0 0 ct.length) 0 (0 + ct.length) 1) 0 (0 + ct.length + 1) cg.length i = StrChars.lo8 ((ct ++ 10 :: cg).getD i 0) := fun i hi => by
  subst h1 h3
  unfold W.cpy
  by_cases c1 : i < ct.length
  · rw [if_neg (by omega), if_neg (by omega), if_pos (by omega)]
    simp only [List.getD_eq_getElem?_getD]; rw [List.getElem?_append_left c1]; simp
  · by_cases c2 : i = ct.length
    · subst c2
      rw [if_neg (by omega), if_pos (by omega)]
      simp only [List.getD_eq_getElem?_getD]; rw [List.getElem?_append_right (by omega)]
      simp [h2]
    · rw [if_pos (by omega)]
      simp only [List.getD_eq_getElem?_getD]; rw [List.getElem?_append_right (by omega), show i - ct.length = (i - ct.length - 1) + 1 by omega, List.getElem?_cons_succ]
      rw [show 0 + (i - (0 + ct.length + 1)) = i - ct.length - 1 by omega]
def QS (Z : State) (cs : List Int32) (h0 : Heap) (v : Option Value) (h : Heap) (L : List Loc) : Prop := ∃ y, v = some (.ref y) ∧ W.Frw [] h0.size L ∧ Ext h0 h ∧ W.Str Z h y cs
set_option maxRecDepth 65536 in
set_option maxHeartbeats 40000000 in
theorem c_q1 (l : Launch) (Z : State) (a0 : Array Value) (hw : ∀ d ∈ tables_1, d.before a0 Z = true) (wS : ∀ a ∈ Bundle.stringAtoms, a.before a0 Z = true) (hEL : EW Z a0 ownEL) (x de su o na sm tx : Addr) (yd : Addr) (ct cg : List Int32) (w : Int32) (hw0 : ¬ w = 0) (h0 : Heap) (T0 : Tp Z h0 x de su o) (Eo : Exa Z h0 o "java/util/Optional") (Fo : Fld Z h0 o "java/util/Optional" "value" "Ljava/lang/Object;" (.ref yd)) (M0 : Sta Z h0 "com/example/triage/triage/search/CaseTopics$Narrative" "SUMMARY" "Lcom/example/triage/triage/search/CaseTopics$Narrative;" (.ref sm)) (sel : (na = sm ∧ tx = su) ∨ (¬ na = sm ∧ tx = de)) (St : W.Str Z h0 tx ct) (Sg : W.Str Z h0 yd cg) (bt : ∀ c ∈ ct, By c) (bg : ∀ c ∈ cg, By c) (hl : ct.length + cg.length ≤ 7) (EZ : Ext Z.heap h0) (zc : Int32) (fm : Value) (US : UST Z zc fm) : W.MetW l Z ownEL (⟨"com/example/triage/triage/search/CaseTopics$Topic", "query", "(Lcom/example/triage/triage/search/CaseTopics$Narrative;Z)Ljava/lang/String;"⟩ : MethodName) prog_40_method_2_code 4 ((Option.some (Jvm.ClassFile.FieldType.object "java/lang/String"))) [] ({ frames := 7, cells := 8, slots := 60, locals := 120 } : Room) #[.ref x, .ref na, .int w] [] h0 (QS Z (ct ++ 10 :: cg) h0) := by
  refine W.MetW.mk (ls0 := #[.val (.ref x), .val (.ref na), .val (.int w), .unset]) [] (plainFor_of_name pn_com_example_triage_triage_search_CaseTopics_Topic) (fun m => by first | (simp [entryFrame, mkF, argsToLocals, Value.category]; done) | rfl) ?_
  intro p e s m below meth c s₁ hml hret hnm hlk hss P0
  show W.Go p.tables e below _ (s₁.setTop (mkF m 0 #[.val (.ref x), .val (.ref na), .val (.int w), .unset] []))
  have J : ∀ (T1 : State), W.Pos p l e ({ frames := 7, cells := 8, slots := 60, locals := 120 } : Room) s m #[.ref x, .ref na, .int w] below meth c prog_40_method_2_code Z ownEL [] h0 "com/example/triage/triage/search/CaseTopics$Topic" s.vm T1 [] 0 0 h0 → W.Go p.tables e below (W.GW s Z ownEL h0 (QS Z (ct ++ 10 :: cg) h0) ({ frames := 7, cells := 8, slots := 60, locals := 120 } : Room)) (T1.setTop (mkF m 18 #[.val (.ref x), .val (.ref na), .val (.int w), .unset] [.ref tx])) := by
    intro T1 P1
    obtain ⟨t1, k1, L1⟩ := Lt.ofStr St (fun c hc => (bt c hc).2)
    obtain ⟨t3, k3, L3⟩ := Lt.ofStr Sg (fun c hc => (bg c hc).2)
    refine W.g_astoreN (pc1 := 19) (ls2 := #[.val (.ref x), .val (.ref na), .val (.int w), .val (.ref tx)]) P1.q d10_18 rfl rfl rfl ?_
    refine W.g_iloadN (pc1 := 20) P1.q d10_19 rfl rfl ?_
    refine W.g_ifN (pc2 := 23) P1.q d10_20 rfl hw0 ?_
    refine W.g_aloadN (pc1 := 24) P1.q d10_23 rfl rfl rfl ?_
    refine P1.getF (host := "") (pc1 := 27) (Or.inl (wd hw (k := 59) rfl)) Via.refl T0.2.2.2 d10_24 rfl ?_
    intro T174 P174
    refine P174.callV (pc1 := 30) Eo (wd hw (k := 98) rfl) (wd hw (k := 99) rfl) (wd hw (k := 101) rfl) (wd hw (k := 100) rfl) (notFace_of_selects (args := #[]) (mvT P174.hz (wd hw (k := 101) rfl))) (by decide) (W.MetN.pay (W := 0) (c_isp1 l Z a0 hw o yd h0 Fo) P174 (wd hw (k := 102) rfl) (wd hw (k := 36) rfl) (by decide) (by decide)) (argsL := []) (st0 := []) (lenOf pd__R_Z rfl) rfl rfl (Nat.le_of_eq rfl) (by rw [hml]; rfl) (by decide) (by decide) (W.Pure.ok P174.chv) d10_27 rfl ?_
    intro v175 T175 h175 L175 q175 P175
    obtain ⟨rfl, rfl, rfl⟩ := q175
    show W.Go p.tables e below _ (T175.setTop (mkF m 30 #[.val (.ref x), .val (.ref na), .val (.int w), .val (.ref tx)] [(.int (1 : Int32))]))
    refine W.g_ifN (pc2 := 33) P175.q d10_30 rfl (by decide) ?_
    refine P175.newO (pc1 := 36) (wd hw (k := 103) rfl) (wd hw (k := 104) rfl) (wd hw (k := 105) rfl) (by decide) (by decide) d10_33 rfl ?_
    intro T176 h176 x176 g176 P176 E176 A176 D176 U176
    refine W.g_dup (pc1 := 37) P176.q d10_36 rfl rfl ?_
    have F_value : Fld Z h176 x176 "java/lang/AbstractStringBuilder" "value" "[B" .null := D176 (Or.inl (wd hw (k := 118) rfl)) (ty := .array .byte) (by decide)
    have F_coder : Fld Z h176 x176 "java/lang/AbstractStringBuilder" "coder" "B" (.int 0) := D176 (Or.inl (wd hw (k := 120) rfl)) (ty := .byte) (by decide)
    have F_count : Fld Z h176 x176 "java/lang/AbstractStringBuilder" "count" "I" (.int 0) := D176 (Or.inl (wd hw (k := 142) rfl)) (ty := .int) (by decide)
    have hx0 : h0.size ≤ x176 := by rw [g176]; exact P175.sz
    have Sx0 : Safe Z ownEL _ h176 x176 := Safe.exa P176.al A176 (by decide) (by decide)
    refine P176.callN (pc1 := 40) rfl (wd hw (k := 106) rfl) (wd hw (k := 107) rfl) (wd hw (k := 108) rfl) (by decide) (W.MetN.pay (W := 1) (c_sini l Z a0 hw x176 h176 A176 _ _ F_value F_coder F_count (P176.extZ EZ all0) zc fm US) P176 (wd hw (k := 108) rfl) (wd hw (k := 105) rfl) (by decide) (by decide)) (argsL := []) (st0 := [(.ref x176)]) (lenOf pd__R_V rfl) rfl rfl (Nat.le_of_eq rfl) (by rw [hml]; rfl) (by decide) (by decide) (fun _ _ _ q => ⟨q.2.1.up P176.sz (allS (Or.inr hx0) all0), CHr.keep q.2.2.1 (sfS Sx0 sf0) P176.chv⟩) d10_37 rfl ?_
    intro v177 T177 h177 L177 q177 P177
    obtain ⟨rfl, f177, K177, t177, k177, g177, B177⟩ := q177
    show W.Go p.tables e below _ (T177.setTop (mkF m 40 #[.val (.ref x), .val (.ref na), .val (.int w), .val (.ref tx)] [(.ref x176)]))
    have Sx1 : Safe Z ownEL _ h177 x176 := Safe.keep K177 (sfS Sx0 sf0) P176.chv Sx0
    have St1 : Safe Z ownEL _ h177 t177 := Safe.keep K177 (sfS Sx0 sf0) P176.chv (Safe.new g177)
    have ht0 : h0.size ≤ t177 := Nat.le_trans P176.sz g177
    refine W.g_aloadN (pc1 := 41) P177.q d10_40 rfl rfl rfl ?_
    refine P177.callV (pc1 := 44) (B177).1 (wd hw (k := 121) rfl) (wd hw (k := 122) rfl) (wd hw (k := 124) rfl) (wd hw (k := 123) rfl) (notFace_of_selects (args := #[]) (mvT P177.hz (wd hw (k := 124) rfl))) (by decide) (W.MetN.pay (W := 0) (c_sapp l Z a0 hw x176 t177 k177 16 0 (fun _ => 0) tx t1 k1 ct.length (fun i => ct.getD i 0) h177 (B177) (L1.ext P177.ext0) (by omega) (P177.extZ EZ all0) zc fm US) P177 (wd hw (k := 125) rfl) (wd hw (k := 105) rfl) (by decide) (by decide)) (argsL := [(.ref tx)]) (st0 := []) (lenOf pd_Ljava_lang_String_R_Ljava_lang_StringBuilder rfl) rfl rfl (Nat.le_of_eq rfl) (by rw [hml]; rfl) (by decide) (by decide) (fun _ _ _ q => ⟨q.2.1.up P177.sz (allS (Or.inr hx0) (allS (Or.inr ht0) all0)), CHr.keep q.2.2.1 (sfS Sx1 (sfS St1 sf0)) P177.chv⟩) d10_41 rfl ?_
    intro v178 T178 h178 L178 q178 P178
    obtain ⟨rfl, f178, K178, B178⟩ := q178
    show W.Go p.tables e below _ (T178.setTop (mkF m 44 #[.val (.ref x), .val (.ref na), .val (.int w), .val (.ref tx)] [(.ref x176)]))
    have Sx178 : Safe Z ownEL _ h178 x176 := Safe.keep K178 (sfS Sx1 (sfS St1 sf0)) P177.chv Sx1
    have St178 : Safe Z ownEL _ h178 t177 := Safe.keep K178 (sfS Sx1 (sfS St1 sf0)) P177.chv St1
    refine P178.ldcR (pc1 := 46) (n := 4) (vs := [.int 10]) (z := 1) (wd hw (k := 168) rfl) wS hEL (by decide) ⟨by decide, by decide +kernel⟩ (by decide) (by decide) (by decide) (by decide) (by decide) (by decide) d10_44 rfl ?_
    intro y179 T179 h179 t179 k179 P179 E179 R179 A179 C179 F179 V179 N179 I179
    have LN : Lt Z h179 y179 t179 k179 1 (fun _ => 10) := ⟨A179, F179, C179, W.Arg.of 1 V179 rfl (by decide) (fun i hi => match i, hi with | 0, _ => rfl | k + 1, hk => absurd hk (by omega)), fun i _ => ⟨(by decide : ¬ (10 : Int32) < 0), (by decide : ¬ (255 : Int32) < 10)⟩⟩
    have Bq := B178.ext E179
    have Sxq := R179.safe B178.1.lt Sx178
    have Stq := R179.safe B178.2.2.2.2.lt St178
    refine P179.callV (pc1 := 49) (Bq).1 (wd hw (k := 121) rfl) (wd hw (k := 122) rfl) (wd hw (k := 124) rfl) (wd hw (k := 123) rfl) (notFace_of_selects (args := #[]) (mvT P179.hz (wd hw (k := 124) rfl))) (by decide) (W.MetN.pay (W := 0) (c_sapp l Z a0 hw x176 t177 k177 16 (0 + ct.length) (W.cpy (fun i => StrChars.lo8 (ct.getD i 0)) (fun _ => 0) 0 0 ct.length) y179 t179 k179 1 (fun _ => 10) h179 (Bq) (LN) (by omega) (P179.extZ EZ all0) zc fm US) P179 (wd hw (k := 125) rfl) (wd hw (k := 105) rfl) (by decide) (by decide)) (argsL := [(.ref y179)]) (st0 := []) (lenOf pd_Ljava_lang_String_R_Ljava_lang_StringBuilder rfl) rfl rfl (Nat.le_of_eq rfl) (by rw [hml]; rfl) (by decide) (by decide) (fun _ _ _ q => ⟨q.2.1.up P179.sz (allS (Or.inr hx0) (allS (Or.inr ht0) all0)), CHr.keep q.2.2.1 (sfS Sxq (sfS Stq sf0)) P179.chv⟩) d10_46 rfl ?_
    intro v180 T180 h180 L180 q180 P180
    obtain ⟨rfl, f180, K180, B180⟩ := q180
    show W.Go p.tables e below _ (T180.setTop (mkF m 49 #[.val (.ref x), .val (.ref na), .val (.int w), .val (.ref tx)] [(.ref x176)]))
    have Sx180 : Safe Z ownEL _ h180 x176 := Safe.keep K180 (sfS Sxq (sfS Stq sf0)) P179.chv Sxq
    have St180 : Safe Z ownEL _ h180 t177 := Safe.keep K180 (sfS Sxq (sfS Stq sf0)) P179.chv Stq
    refine W.g_aloadN (pc1 := 50) P180.q d10_49 rfl rfl rfl ?_
    refine P180.getF (host := "") (pc1 := 53) (Or.inl (wd hw (k := 59) rfl)) Via.refl (T0.ext P180.ext0).2.2.2 d10_50 rfl ?_
    intro T181 P181
    refine P181.callV (pc1 := 56) (Eo.ext P181.ext0) (wd hw (k := 171) rfl) (wd hw (k := 172) rfl) (wd hw (k := 174) rfl) (wd hw (k := 173) rfl) (notFace_of_selects (args := #[]) (mvT P181.hz (wd hw (k := 174) rfl))) (by decide) (W.MetN.pay (W := 1) (c_oget l Z a0 hw o yd h180 (Fo.ext P181.ext0)) P181 (wd hw (k := 175) rfl) (wd hw (k := 36) rfl) (by decide) (by decide)) (argsL := []) (st0 := [(.ref x176)]) (lenOf pd__R_Ljava_lang_Object rfl) rfl rfl (Nat.le_of_eq rfl) (by rw [hml]; rfl) (by decide) (by decide) (W.Pure.ok P181.chv) d10_53 rfl ?_
    intro v182 T182 h182 L182 q182 P182
    obtain ⟨rfl, rfl, rfl⟩ := q182
    show W.Go p.tables e below _ (T182.setTop (mkF m 56 #[.val (.ref x), .val (.ref na), .val (.int w), .val (.ref tx)] [(.ref yd), (.ref x176)]))
    refine P182.castY (pc1 := 59) (wd hw (k := 176) rfl) (Ins.self (Sg.ext P182.ext0).exa) d10_56 rfl ?_
    intro T183 P183
    refine P183.callV (pc1 := 62) (B180).1 (wd hw (k := 121) rfl) (wd hw (k := 122) rfl) (wd hw (k := 124) rfl) (wd hw (k := 123) rfl) (notFace_of_selects (args := #[]) (mvT P183.hz (wd hw (k := 124) rfl))) (by decide) (W.MetN.pay (W := 0) (c_sapp l Z a0 hw x176 t177 k177 16 (0 + ct.length + 1) (W.cpy (fun i => StrChars.lo8 10) (W.cpy (fun i => StrChars.lo8 (ct.getD i 0)) (fun _ => 0) 0 0 ct.length) 0 (0 + ct.length) 1) yd t3 k3 cg.length (fun i => cg.getD i 0) h180 (B180) (L3.ext P183.ext0) (by omega) (P183.extZ EZ all0) zc fm US) P183 (wd hw (k := 125) rfl) (wd hw (k := 105) rfl) (by decide) (by decide)) (argsL := [(.ref yd)]) (st0 := []) (lenOf pd_Ljava_lang_String_R_Ljava_lang_StringBuilder rfl) rfl rfl (Nat.le_of_eq rfl) (by rw [hml]; rfl) (by decide) (by decide) (fun _ _ _ q => ⟨q.2.1.up P183.sz (allS (Or.inr hx0) (allS (Or.inr ht0) all0)), CHr.keep q.2.2.1 (sfS Sx180 (sfS St180 sf0)) P183.chv⟩) d10_59 rfl ?_
    intro v184 T184 h184 L184 q184 P184
    obtain ⟨rfl, f184, K184, B184⟩ := q184
    show W.Go p.tables e below _ (T184.setTop (mkF m 62 #[.val (.ref x), .val (.ref na), .val (.int w), .val (.ref tx)] [(.ref x176)]))
    have Sx184 : Safe Z ownEL _ h184 x176 := Safe.keep K184 (sfS Sx180 (sfS St180 sf0)) P183.chv Sx180
    have St184 : Safe Z ownEL _ h184 t177 := Safe.keep K184 (sfS Sx180 (sfS St180 sf0)) P183.chv St180
    refine P184.callV (pc1 := 65) B184.1 (wd hw (k := 177) rfl) (wd hw (k := 178) rfl) (wd hw (k := 180) rfl) (wd hw (k := 179) rfl) (notFace_of_selects (args := #[]) (mvT P184.hz (wd hw (k := 180) rfl))) (by decide) (W.MetN.pay (W := 0) (c_tos l Z a0 hw x176 t177 k177 16 (0 + ct.length + 1 + cg.length) (W.cpy (fun i => StrChars.lo8 (cg.getD i 0)) (W.cpy (fun i => StrChars.lo8 10) (W.cpy (fun i => StrChars.lo8 (ct.getD i 0)) (fun _ => 0) 0 0 ct.length) 0 (0 + ct.length) 1) 0 (0 + ct.length + 1) cg.length) (by omega) (by omega) h184 B184 (P184.extZ EZ all0) zc fm US) P184 (wd hw (k := 181) rfl) (wd hw (k := 105) rfl) (by decide) (by decide)) (argsL := []) (st0 := []) (lenOf pd__R_Ljava_lang_String rfl) rfl rfl (Nat.le_of_eq rfl) (by rw [hml]; rfl) (by decide) (by decide) (fun _ _ _ q => by obtain ⟨_, _, _, _, q2, q3, _⟩ := q; exact ⟨q2.up P184.sz all0, CHr.ext q3 P184.chv⟩) d10_62 rfl ?_
    intro v185 T185 h185 L185 q185 P185
    obtain ⟨y185, a185, k185, rfl, f185, E185, A185, F185, C185, G185⟩ := q185
    show W.Go p.tables e below _ (T185.setTop (mkF m 65 #[.val (.ref x), .val (.ref na), .val (.int w), .val (.ref tx)] [(.ref y185)]))
    have SR : W.Str Z h185 y185 (ct ++ 10 :: cg) := own_toStr A185 F185 C185 G185 (by simp; omega) (by omega) (own_cat rfl rfl rfl) (fun c hc => (List.mem_append.mp hc).elim (bt c) (fun q => (List.mem_cons.mp q).elim (fun e => by subst e; exact ⟨by decide, by decide⟩) (bg c)))
    refine W.g_astoreN (pc1 := 66) (ls2 := #[.val (.ref x), .val (.ref na), .val (.int w), .val (.ref y185)]) P185.q d10_65 rfl rfl rfl ?_
    refine W.g_aloadN (pc1 := 67) P185.q d10_66 rfl rfl rfl ?_
    exact P185.retAW hEL hlk hret rfl rfl rfl d10_67 (by decide) (by decide) ⟨y185, rfl, P185.fr, P185.ext0, SR⟩
  refine W.g_aloadN (pc1 := 1) P0.q d10_0 rfl rfl rfl ?_
  refine P0.getS (pc1 := 4) (wd hw (k := 69) rfl) Via.refl M0 d10_1 rfl ?_
  intro T186 P186
  rcases sel with ⟨hs1, hs2⟩ | ⟨hs1, hs2⟩
  · subst hs1 hs2
    refine W.g_acmpN (pc2 := 7) P186.q d10_4 rfl rfl rfl (by simp [Jvm.Free.XT.acmp]) ?_
    refine W.g_aloadN (pc1 := 8) P186.q d10_7 rfl rfl rfl ?_
    refine P186.getF (host := "") (pc1 := 11) (Or.inl (wd hw (k := 57) rfl)) Via.refl T0.2.2.1 d10_8 rfl ?_
    intro T187 P187
    refine W.g_goto (pc1 := 18) P187.q d10_11 (by decide) rfl ?_
    exact J T187 P187
  · subst hs2
    refine W.g_acmpY (pc1 := 14) P186.q d10_4 (by decide) rfl rfl rfl (by simp [Jvm.Free.XT.acmp, hs1]) ?_
    refine W.g_aloadN (pc1 := 15) P186.q d10_14 rfl rfl rfl ?_
    refine P186.getF (host := "") (pc1 := 18) (Or.inl (wd hw (k := 55) rfl)) Via.refl T0.2.1 d10_15 rfl ?_
    intro T188 P188
    exact J T188 P188
theorem own_i2c (x : Int32) : By (x &&& 255).toUInt32.toUInt16.toUInt32.toInt32 := by
  have e : (x &&& 255).toUInt32.toUInt16.toUInt32.toInt32 = x &&& 255 := own_nar255 x
  rw [e]; exact own_m255 x
theorem own_by2 {a b : Int32} (ha : By a) (hb : By b) : ∀ c ∈ [a, b], By c := List.forall_mem_cons.mpr ⟨ha, List.forall_mem_cons.mpr ⟨hb, fun c hc => absurd hc List.not_mem_nil⟩⟩
theorem own_by10 : By 10 := ⟨by decide, by decide⟩
theorem own_by0 : ∀ c ∈ ([] : List Int32), By c := fun c hc => absurd hc List.not_mem_nil
def En (Z : State) (h : Heap) (p0 p1 p2 sm ds em : Addr) : Prop := Sta Z h "com/example/triage/triage/search/CaseTopics$Type" "DIAGNOSIS" "Lcom/example/triage/triage/search/CaseTopics$Type;" (.ref p0) ∧ Sta Z h "com/example/triage/triage/search/CaseTopics$Type" "TEST" "Lcom/example/triage/triage/search/CaseTopics$Type;" (.ref p1) ∧ Sta Z h "com/example/triage/triage/search/CaseTopics$Type" "TREATMENT" "Lcom/example/triage/triage/search/CaseTopics$Type;" (.ref p2) ∧ Sta Z h "com/example/triage/triage/search/CaseTopics$Narrative" "SUMMARY" "Lcom/example/triage/triage/search/CaseTopics$Narrative;" (.ref sm) ∧ Sta Z h "com/example/triage/triage/search/CaseTopics$Narrative" "DESCRIPTION" "Lcom/example/triage/triage/search/CaseTopics$Narrative;" (.ref ds) ∧ Sta Z h "java/util/Optional" "EMPTY" "Ljava/util/Optional;" (.ref em) ∧ Exa Z h em "java/util/Optional" ∧ Fld Z h em "java/util/Optional" "value" "Ljava/lang/Object;" .null
theorem En.ext {Z : State} {h h' : Heap} {p0 p1 p2 sm ds em : Addr} (S : En Z h p0 p1 p2 sm ds em) (E : Ext h h') : En Z h' p0 p1 p2 sm ds em := ⟨(S.1).ext E, (S.2.1).ext E, (S.2.2.1).ext E, (S.2.2.2.1).ext E, (S.2.2.2.2.1).ext E, (S.2.2.2.2.2.1).ext E, (S.2.2.2.2.2.2.1).ext E, (S.2.2.2.2.2.2.2).ext E⟩
def Q1 (n : Nat) (v : Option Value) (h : Heap) (L : List Loc) : Prop := v = some (.int 1) ∧ W.Frw [] n L
set_option maxRecDepth 65536 in
set_option maxHeartbeats 40000000 in
theorem rm1 (l : Launch) (Z : State) (a0 : Array Value) (hw : ∀ d ∈ tables_1, d.before a0 Z = true) (wS : ∀ a ∈ Bundle.stringAtoms, a.before a0 Z = true) (hEL : EW Z a0 ownEL) (dd sn gg fl nu ts : Int32) (p0 p1 p2 sm ds em : Addr) (hds : ¬ ds = sm) (h0 : Heap) (S : En Z h0 p0 p1 p2 sm ds em) (EZ : Ext Z.heap h0) (zc : Int32) (fm : Value) (US : UST Z zc fm) : W.MetW l Z ownEL x code maxLocals (ret) tables_1 room_1 #[.int dd, .int sn, .int gg, .int fl, .int nu, .int ts] [] h0 (Q1 h0.size) := by
  refine W.MetW.mk (ls0 := #[.val (.int dd), .val (.int sn), .val (.int gg), .val (.int fl), .val (.int nu), .val (.int ts), .unset, .unset, .unset, .unset, .unset, .unset, .unset, .unset, .unset, .unset, .unset, .unset, .unset, .unset, .unset, .unset, .unset, .unset, .unset, .unset, .unset, .unset]) [] (plainFor_of_name pn_com_example_triage_triage_search_TopicQueryPinLaw) (fun m => by first | (simp [entryFrame, mkF, argsToLocals, Value.category, maxLocals]; done) | rfl) ?_
  intro p e s m below meth c s₁ hml hret hnm hlk hss P0
  have hml : c.maxLocals = 28 := hml
  show W.Go p.tables e below _ (s₁.setTop (mkF m 0 #[.val (.int dd), .val (.int sn), .val (.int gg), .val (.int fl), .val (.int nu), .val (.int ts), .unset, .unset, .unset, .unset, .unset, .unset, .unset, .unset, .unset, .unset, .unset, .unset, .unset, .unset, .unset, .unset, .unset, .unset, .unset, .unset, .unset, .unset] []))
  have hws : ∀ d ∈ StrChars.Road.words, d.before a0 Z = true := fun d hd => hw d (own_words d hd)
  have hwq : ∀ d ∈ StrChars.Road.wordsEq, d.before a0 Z = true := fun d hd => hw d (own_wordsEq d hd)
  refine W.g_iloadN (pc1 := 1) P0.q at_0 rfl rfl ?_
  refine W.g_sipush (pc1 := 4) (v := (255 : Int32)) P0.q at_1 (by decide) rfl ?_
  refine W.g_iand (pc1 := 5) P0.q at_4 rfl ?_
  refine W.g_i2c (pc1 := 6) P0.q at_5 rfl ?_
  obtain ⟨c6, e6, b6⟩ : ∃ c : Int32, c = (dd &&& (255 : Int32)).toUInt32.toUInt16.toUInt32.toInt32 ∧ By c := ⟨_, rfl, own_i2c _⟩
  rw [← e6]
  show W.Go p.tables e below _ (s₁.setTop (mkF m 6 #[.val (.int dd), .val (.int sn), .val (.int gg), .val (.int fl), .val (.int nu), .val (.int ts), .unset, .unset, .unset, .unset, .unset, .unset, .unset, .unset, .unset, .unset, .unset, .unset, .unset, .unset, .unset, .unset, .unset, .unset, .unset, .unset, .unset, .unset] [(.int c6)]))
  refine W.g_istore (pc1 := 8) (ls2 := #[.val (.int dd), .val (.int sn), .val (.int gg), .val (.int fl), .val (.int nu), .val (.int ts), .val (.int c6), .unset, .unset, .unset, .unset, .unset, .unset, .unset, .unset, .unset, .unset, .unset, .unset, .unset, .unset, .unset, .unset, .unset, .unset, .unset, .unset, .unset]) P0.q at_6 rfl rfl ?_
  refine W.g_iloadN (pc1 := 9) P0.q at_8 rfl rfl ?_
  refine W.g_bipush (pc1 := 11) (v := (8 : Int32)) P0.q at_9 (by decide) rfl ?_
  refine W.g_iushr (pc1 := 12) P0.q at_11 rfl ?_
  refine W.g_sipush (pc1 := 15) (v := (255 : Int32)) P0.q at_12 (by decide) rfl ?_
  refine W.g_iand (pc1 := 16) P0.q at_15 rfl ?_
  refine W.g_i2c (pc1 := 17) P0.q at_16 rfl ?_
  obtain ⟨c7, e7, b7⟩ : ∃ c : Int32, c = ((Jvm.Free.XT.ushr dd (8 : Int32)) &&& (255 : Int32)).toUInt32.toUInt16.toUInt32.toInt32 ∧ By c := ⟨_, rfl, own_i2c _⟩
  rw [← e7]
  show W.Go p.tables e below _ (s₁.setTop (mkF m 17 #[.val (.int dd), .val (.int sn), .val (.int gg), .val (.int fl), .val (.int nu), .val (.int ts), .val (.int c6), .unset, .unset, .unset, .unset, .unset, .unset, .unset, .unset, .unset, .unset, .unset, .unset, .unset, .unset, .unset, .unset, .unset, .unset, .unset, .unset, .unset] [(.int c7)]))
  refine W.g_istore (pc1 := 19) (ls2 := #[.val (.int dd), .val (.int sn), .val (.int gg), .val (.int fl), .val (.int nu), .val (.int ts), .val (.int c6), .val (.int c7), .unset, .unset, .unset, .unset, .unset, .unset, .unset, .unset, .unset, .unset, .unset, .unset, .unset, .unset, .unset, .unset, .unset, .unset, .unset, .unset]) P0.q at_17 rfl rfl ?_
  refine W.g_iloadN (pc1 := 20) P0.q at_19 rfl rfl ?_
  refine W.g_sipush (pc1 := 23) (v := (255 : Int32)) P0.q at_20 (by decide) rfl ?_
  refine W.g_iand (pc1 := 24) P0.q at_23 rfl ?_
  refine W.g_i2c (pc1 := 25) P0.q at_24 rfl ?_
  obtain ⟨c8, e8, b8⟩ : ∃ c : Int32, c = (sn &&& (255 : Int32)).toUInt32.toUInt16.toUInt32.toInt32 ∧ By c := ⟨_, rfl, own_i2c _⟩
  rw [← e8]
  show W.Go p.tables e below _ (s₁.setTop (mkF m 25 #[.val (.int dd), .val (.int sn), .val (.int gg), .val (.int fl), .val (.int nu), .val (.int ts), .val (.int c6), .val (.int c7), .unset, .unset, .unset, .unset, .unset, .unset, .unset, .unset, .unset, .unset, .unset, .unset, .unset, .unset, .unset, .unset, .unset, .unset, .unset, .unset] [(.int c8)]))
  refine W.g_istore (pc1 := 27) (ls2 := #[.val (.int dd), .val (.int sn), .val (.int gg), .val (.int fl), .val (.int nu), .val (.int ts), .val (.int c6), .val (.int c7), .val (.int c8), .unset, .unset, .unset, .unset, .unset, .unset, .unset, .unset, .unset, .unset, .unset, .unset, .unset, .unset, .unset, .unset, .unset, .unset, .unset]) P0.q at_25 rfl rfl ?_
  refine W.g_iloadN (pc1 := 28) P0.q at_27 rfl rfl ?_
  refine W.g_bipush (pc1 := 30) (v := (8 : Int32)) P0.q at_28 (by decide) rfl ?_
  refine W.g_iushr (pc1 := 31) P0.q at_30 rfl ?_
  refine W.g_sipush (pc1 := 34) (v := (255 : Int32)) P0.q at_31 (by decide) rfl ?_
  refine W.g_iand (pc1 := 35) P0.q at_34 rfl ?_
  refine W.g_i2c (pc1 := 36) P0.q at_35 rfl ?_
  obtain ⟨c9, e9, b9⟩ : ∃ c : Int32, c = ((Jvm.Free.XT.ushr sn (8 : Int32)) &&& (255 : Int32)).toUInt32.toUInt16.toUInt32.toInt32 ∧ By c := ⟨_, rfl, own_i2c _⟩
  rw [← e9]
  show W.Go p.tables e below _ (s₁.setTop (mkF m 36 #[.val (.int dd), .val (.int sn), .val (.int gg), .val (.int fl), .val (.int nu), .val (.int ts), .val (.int c6), .val (.int c7), .val (.int c8), .unset, .unset, .unset, .unset, .unset, .unset, .unset, .unset, .unset, .unset, .unset, .unset, .unset, .unset, .unset, .unset, .unset, .unset, .unset] [(.int c9)]))
  refine W.g_istore (pc1 := 38) (ls2 := #[.val (.int dd), .val (.int sn), .val (.int gg), .val (.int fl), .val (.int nu), .val (.int ts), .val (.int c6), .val (.int c7), .val (.int c8), .val (.int c9), .unset, .unset, .unset, .unset, .unset, .unset, .unset, .unset, .unset, .unset, .unset, .unset, .unset, .unset, .unset, .unset, .unset, .unset]) P0.q at_36 rfl rfl ?_
  refine W.g_iloadN (pc1 := 39) P0.q at_38 rfl rfl ?_
  refine W.g_sipush (pc1 := 42) (v := (255 : Int32)) P0.q at_39 (by decide) rfl ?_
  refine W.g_iand (pc1 := 43) P0.q at_42 rfl ?_
  refine W.g_i2c (pc1 := 44) P0.q at_43 rfl ?_
  obtain ⟨c10, e10, b10⟩ : ∃ c : Int32, c = (gg &&& (255 : Int32)).toUInt32.toUInt16.toUInt32.toInt32 ∧ By c := ⟨_, rfl, own_i2c _⟩
  rw [← e10]
  show W.Go p.tables e below _ (s₁.setTop (mkF m 44 #[.val (.int dd), .val (.int sn), .val (.int gg), .val (.int fl), .val (.int nu), .val (.int ts), .val (.int c6), .val (.int c7), .val (.int c8), .val (.int c9), .unset, .unset, .unset, .unset, .unset, .unset, .unset, .unset, .unset, .unset, .unset, .unset, .unset, .unset, .unset, .unset, .unset, .unset] [(.int c10)]))
  refine W.g_istore (pc1 := 46) (ls2 := #[.val (.int dd), .val (.int sn), .val (.int gg), .val (.int fl), .val (.int nu), .val (.int ts), .val (.int c6), .val (.int c7), .val (.int c8), .val (.int c9), .val (.int c10), .unset, .unset, .unset, .unset, .unset, .unset, .unset, .unset, .unset, .unset, .unset, .unset, .unset, .unset, .unset, .unset, .unset]) P0.q at_44 rfl rfl ?_
  refine W.g_iloadN (pc1 := 47) P0.q at_46 rfl rfl ?_
  refine W.g_bipush (pc1 := 49) (v := (8 : Int32)) P0.q at_47 (by decide) rfl ?_
  refine W.g_iushr (pc1 := 50) P0.q at_49 rfl ?_
  refine W.g_sipush (pc1 := 53) (v := (255 : Int32)) P0.q at_50 (by decide) rfl ?_
  refine W.g_iand (pc1 := 54) P0.q at_53 rfl ?_
  refine W.g_i2c (pc1 := 55) P0.q at_54 rfl ?_
  obtain ⟨c11, e11, b11⟩ : ∃ c : Int32, c = ((Jvm.Free.XT.ushr gg (8 : Int32)) &&& (255 : Int32)).toUInt32.toUInt16.toUInt32.toInt32 ∧ By c := ⟨_, rfl, own_i2c _⟩
  rw [← e11]
  show W.Go p.tables e below _ (s₁.setTop (mkF m 55 #[.val (.int dd), .val (.int sn), .val (.int gg), .val (.int fl), .val (.int nu), .val (.int ts), .val (.int c6), .val (.int c7), .val (.int c8), .val (.int c9), .val (.int c10), .unset, .unset, .unset, .unset, .unset, .unset, .unset, .unset, .unset, .unset, .unset, .unset, .unset, .unset, .unset, .unset, .unset] [(.int c11)]))
  refine W.g_istore (pc1 := 57) (ls2 := #[.val (.int dd), .val (.int sn), .val (.int gg), .val (.int fl), .val (.int nu), .val (.int ts), .val (.int c6), .val (.int c7), .val (.int c8), .val (.int c9), .val (.int c10), .val (.int c11), .unset, .unset, .unset, .unset, .unset, .unset, .unset, .unset, .unset, .unset, .unset, .unset, .unset, .unset, .unset, .unset]) P0.q at_55 rfl rfl ?_
  refine W.g_iloadN (pc1 := 58) P0.q at_57 rfl rfl ?_
  refine W.g_iconst (pc1 := 59) (v := (1 : Int32)) P0.q at_58 (by decide) rfl ?_
  refine W.g_iand (pc1 := 60) P0.q at_59 rfl ?_
  have J12 : ∀ b_12 : Int32, (b_12 = 0 ∨ b_12 = 1) → W.Go p.tables e below (W.GW s Z ownEL h0 (Q1 h0.size) room_1) (s₁.setTop (mkF m 68 #[.val (.int dd), .val (.int sn), .val (.int gg), .val (.int fl), .val (.int nu), .val (.int ts), .val (.int c6), .val (.int c7), .val (.int c8), .val (.int c9), .val (.int c10), .val (.int c11), .unset, .unset, .unset, .unset, .unset, .unset, .unset, .unset, .unset, .unset, .unset, .unset, .unset, .unset, .unset, .unset] [.int b_12])) := by
    intro b_12 hb_12
    refine W.g_istore (pc1 := 70) (ls2 := #[.val (.int dd), .val (.int sn), .val (.int gg), .val (.int fl), .val (.int nu), .val (.int ts), .val (.int c6), .val (.int c7), .val (.int c8), .val (.int c9), .val (.int c10), .val (.int c11), .val (.int b_12), .unset, .unset, .unset, .unset, .unset, .unset, .unset, .unset, .unset, .unset, .unset, .unset, .unset, .unset, .unset]) P0.q at_68 rfl rfl ?_
    refine W.g_iloadN (pc1 := 71) P0.q at_70 rfl rfl ?_
    refine W.g_iconst (pc1 := 72) (v := (2 : Int32)) P0.q at_71 (by decide) rfl ?_
    refine W.g_iand (pc1 := 73) P0.q at_72 rfl ?_
    have J13 : ∀ b_13 : Int32, (b_13 = 0 ∨ b_13 = 1) → W.Go p.tables e below (W.GW s Z ownEL h0 (Q1 h0.size) room_1) (s₁.setTop (mkF m 81 #[.val (.int dd), .val (.int sn), .val (.int gg), .val (.int fl), .val (.int nu), .val (.int ts), .val (.int c6), .val (.int c7), .val (.int c8), .val (.int c9), .val (.int c10), .val (.int c11), .val (.int b_12), .unset, .unset, .unset, .unset, .unset, .unset, .unset, .unset, .unset, .unset, .unset, .unset, .unset, .unset, .unset] [.int b_13])) := by
      intro b_13 hb_13
      refine W.g_istore (pc1 := 83) (ls2 := #[.val (.int dd), .val (.int sn), .val (.int gg), .val (.int fl), .val (.int nu), .val (.int ts), .val (.int c6), .val (.int c7), .val (.int c8), .val (.int c9), .val (.int c10), .val (.int c11), .val (.int b_12), .val (.int b_13), .unset, .unset, .unset, .unset, .unset, .unset, .unset, .unset, .unset, .unset, .unset, .unset, .unset, .unset]) P0.q at_81 rfl rfl ?_
      refine W.g_iloadN (pc1 := 84) P0.q at_83 rfl rfl ?_
      refine W.g_iconst (pc1 := 85) (v := (4 : Int32)) P0.q at_84 (by decide) rfl ?_
      refine W.g_iand (pc1 := 86) P0.q at_85 rfl ?_
      have J14 : ∀ b_14 : Int32, (b_14 = 0 ∨ b_14 = 1) → W.Go p.tables e below (W.GW s Z ownEL h0 (Q1 h0.size) room_1) (s₁.setTop (mkF m 94 #[.val (.int dd), .val (.int sn), .val (.int gg), .val (.int fl), .val (.int nu), .val (.int ts), .val (.int c6), .val (.int c7), .val (.int c8), .val (.int c9), .val (.int c10), .val (.int c11), .val (.int b_12), .val (.int b_13), .unset, .unset, .unset, .unset, .unset, .unset, .unset, .unset, .unset, .unset, .unset, .unset, .unset, .unset] [.int b_14])) := by
        intro b_14 hb_14
        refine W.g_istore (pc1 := 96) (ls2 := #[.val (.int dd), .val (.int sn), .val (.int gg), .val (.int fl), .val (.int nu), .val (.int ts), .val (.int c6), .val (.int c7), .val (.int c8), .val (.int c9), .val (.int c10), .val (.int c11), .val (.int b_12), .val (.int b_13), .val (.int b_14), .unset, .unset, .unset, .unset, .unset, .unset, .unset, .unset, .unset, .unset, .unset, .unset, .unset]) P0.q at_94 rfl rfl ?_
        refine W.g_iloadN (pc1 := 97) P0.q at_96 rfl rfl ?_
        refine W.g_bipush (pc1 := 99) (v := (8 : Int32)) P0.q at_97 (by decide) rfl ?_
        refine W.g_iand (pc1 := 100) P0.q at_99 rfl ?_
        have J15 : ∀ b_15 : Int32, (b_15 = 0 ∨ b_15 = 1) → W.Go p.tables e below (W.GW s Z ownEL h0 (Q1 h0.size) room_1) (s₁.setTop (mkF m 108 #[.val (.int dd), .val (.int sn), .val (.int gg), .val (.int fl), .val (.int nu), .val (.int ts), .val (.int c6), .val (.int c7), .val (.int c8), .val (.int c9), .val (.int c10), .val (.int c11), .val (.int b_12), .val (.int b_13), .val (.int b_14), .unset, .unset, .unset, .unset, .unset, .unset, .unset, .unset, .unset, .unset, .unset, .unset, .unset] [.int b_15])) := by
          intro b_15 hb_15
          refine W.g_istore (pc1 := 110) (ls2 := #[.val (.int dd), .val (.int sn), .val (.int gg), .val (.int fl), .val (.int nu), .val (.int ts), .val (.int c6), .val (.int c7), .val (.int c8), .val (.int c9), .val (.int c10), .val (.int c11), .val (.int b_12), .val (.int b_13), .val (.int b_14), .val (.int b_15), .unset, .unset, .unset, .unset, .unset, .unset, .unset, .unset, .unset, .unset, .unset, .unset]) P0.q at_108 rfl rfl ?_
          refine W.g_iload (pc1 := 112) P0.q at_110 rfl rfl ?_
          refine P0.ldcI (pc1 := 114) (wd hw (k := 0) rfl) at_112 rfl ?_
          refine W.g_iand (pc1 := 115) P0.q at_114 rfl ?_
          refine W.g_iconst (pc1 := 116) (v := (3 : Int32)) P0.q at_115 (by decide) rfl ?_
          refine W.g_irem (pc1 := 117) P0.q at_116 (by decide) rfl ?_
          obtain ⟨q16, e16⟩ : ∃ c : Int32, c = ((ts &&& (2147483647 : Int32)) - ((ts &&& (2147483647 : Int32)) / (3 : Int32)) * (3 : Int32)) := ⟨_, rfl⟩
          rw [← e16]
          show W.Go p.tables e below _ (s₁.setTop (mkF m 117 #[.val (.int dd), .val (.int sn), .val (.int gg), .val (.int fl), .val (.int nu), .val (.int ts), .val (.int c6), .val (.int c7), .val (.int c8), .val (.int c9), .val (.int c10), .val (.int c11), .val (.int b_12), .val (.int b_13), .val (.int b_14), .val (.int b_15), .unset, .unset, .unset, .unset, .unset, .unset, .unset, .unset, .unset, .unset, .unset, .unset] [(.int q16)]))
          refine W.g_istore (pc1 := 119) (ls2 := #[.val (.int dd), .val (.int sn), .val (.int gg), .val (.int fl), .val (.int nu), .val (.int ts), .val (.int c6), .val (.int c7), .val (.int c8), .val (.int c9), .val (.int c10), .val (.int c11), .val (.int b_12), .val (.int b_13), .val (.int b_14), .val (.int b_15), .val (.int q16), .unset, .unset, .unset, .unset, .unset, .unset, .unset, .unset, .unset, .unset, .unset]) P0.q at_117 rfl rfl ?_
          refine W.g_iload (pc1 := 121) P0.q at_119 rfl rfl ?_
          have J17 : ∀ (T17 : State) (ty : Addr), W.Pos p l e room_1 s m #[.int dd, .int sn, .int gg, .int fl, .int nu, .int ts] below meth c code Z ownEL [] h0 x.cls s.vm T17 [] 0 0 h0 → W.Go p.tables e below (W.GW s Z ownEL h0 (Q1 h0.size) room_1) (T17.setTop (mkF m 145 #[.val (.int dd), .val (.int sn), .val (.int gg), .val (.int fl), .val (.int nu), .val (.int ts), .val (.int c6), .val (.int c7), .val (.int c8), .val (.int c9), .val (.int c10), .val (.int c11), .val (.int b_12), .val (.int b_13), .val (.int b_14), .val (.int b_15), .val (.int q16), .unset, .unset, .unset, .unset, .unset, .unset, .unset, .unset, .unset, .unset, .unset] [.ref ty])) := by
            intro T17 ty P17
            refine W.g_astore (pc1 := 147) (ls2 := #[.val (.int dd), .val (.int sn), .val (.int gg), .val (.int fl), .val (.int nu), .val (.int ts), .val (.int c6), .val (.int c7), .val (.int c8), .val (.int c9), .val (.int c10), .val (.int c11), .val (.int b_12), .val (.int b_13), .val (.int b_14), .val (.int b_15), .val (.int q16), .val (.ref ty), .unset, .unset, .unset, .unset, .unset, .unset, .unset, .unset, .unset, .unset]) P17.q at_145 rfl rfl rfl ?_
            refine P17.newO (pc1 := 150) (wd hw (k := 4) rfl) (wd hw (k := 5) rfl) (wd hw (k := 6) rfl) (by decide) (by decide) at_147 rfl ?_
            intro T189 h189 x189 g189 P189 E189 A189 D189 U189
            refine W.g_dup (pc1 := 151) P189.q at_150 rfl rfl ?_
            refine W.g_iconst (pc1 := 152) (v := (2 : Int32)) P189.q at_151 (by decide) rfl ?_
            have Fv189 : Fld Z h189 x189 "java/lang/String" "value" "[B" .null := D189 (Or.inr (wd hw (k := 33) rfl)) (ty := .array .byte) (by decide)
            have Fc189 : Fld Z h189 x189 "java/lang/String" "coder" "B" (.int 0) := D189 (Or.inr (wd hw (k := 31) rfl)) (ty := .byte) (by decide)
            have Sx189 := Safe.ext (EL := ownEL) E189 P17.chv (Safe.new (Nat.le_of_eq g189.symm))
            refine P189.newP (pc1 := 154) (cap := 2) (wd hw (k := 7) rfl) (by decide) (by decide) (by decide) (by decide) (by decide) at_152 rfl ?_
            intro T190 h190 x190 k190 g190 P190 E190 V190
            have hne190 : x189 ≠ x190 := Nat.ne_of_lt (by rw [g190]; exact A189.lt)
            have Ex190 := A189.ext E190
            have Fv190 := Fv189.ext E190
            have Fc190 := Fc189.ext E190
            have Sx190 := Safe.ext E190 P189.chv Sx189
            have G190 : W.Arg Z h190 x190 k190 .char 2 (fun _ => 0) := W.Arg.new (by decide) V190
            have Q190 := W.Ext.trans E189 E190
            refine W.g_dup (pc1 := 155) P190.q at_154 rfl rfl ?_
            refine W.g_iconst (pc1 := 156) (v := (0 : Int32)) P190.q at_155 (by decide) rfl ?_
            refine W.g_iload (pc1 := 158) P190.q at_156 rfl rfl ?_
            refine P190.stCg (pc1 := 159) (x := c6) G190 (i := 0) (by decide) (Or.inr (by rw [g190]; exact P189.sz)) (W.Arg.safe P190.al G190 (by decide)) at_158 rfl ?_
            intro T191 h191 P191 W191 G191
            have Ex191 := Ex190.wr W191
            have Fv191 := Fv190.other W191 (Or.inl hne190)
            have Fc191 := Fc190.other W191 (Or.inl hne190)
            have Sx191 := Safe.wr W191 (W.Arg.safe P190.al G190 (by decide)) P190.chv Sx190
            have Q191 := W.Ext.wrNew Q190 W191 (by rw [g190]; exact E189.1)
            refine W.g_dup (pc1 := 160) P191.q at_159 rfl rfl ?_
            refine W.g_iconst (pc1 := 161) (v := (1 : Int32)) P191.q at_160 (by decide) rfl ?_
            refine W.g_iload (pc1 := 163) P191.q at_161 rfl rfl ?_
            refine P191.stCg (pc1 := 164) (x := c7) G191 (i := 1) (by decide) (Or.inr (by rw [g190]; exact P189.sz)) (W.Arg.safe P191.al G191 (by decide)) at_163 rfl ?_
            intro T192 h192 P192 W192 G192
            have Ex192 := Ex191.wr W192
            have Fv192 := Fv191.other W192 (Or.inl hne190)
            have Fc192 := Fc191.other W192 (Or.inl hne190)
            have Sx192 := Safe.wr W192 (W.Arg.safe P191.al G191 (by decide)) P191.chv Sx191
            have Q192 := W.Ext.wrNew Q191 W192 (by rw [g190]; exact E189.1)
            have VL192 : Arv Z h192 x190 k190 .char 2 (([c6, c7] : List Int32).map Value.int) (.int 0) := W.Arg.list G192 rfl (fun i hi => match i, hi with | 0, _ => own_narc (b6).ch | 1, _ => own_narc (b7).ch | k + 2, hk => absurd hk (Nat.not_lt.mpr (Nat.le_add_left _ _)))
            have hp192 : ∀ c ∈ ([c6, c7] : List Int32), ¬ c < 0 ∧ ¬ (255 : Int32) < c := (List.forall_mem_cons.mpr ⟨b6, (List.forall_mem_cons.mpr ⟨b7, (fun c hc => absurd hc (List.not_mem_nil))⟩)⟩)
            refine P192.callN (pc1 := 167) rfl (wd hw (k := 8) rfl) (wd hw (k := 9) rfl) (wd hw (k := 10) rfl) (by decide) (StrChars.Road.backV (W := 1) P192.hz hws (kI := 4) (wd hw (k := 5) rfl) (cs := [c6, c7]) (bs := ([c6, c7]).map (fun c => c.toInt8.toInt32)) (n := 2) (n0 := h0.size) (by rw [g189]; exact P17.sz) P192.sz Ex192 Fv192 Fc192 VL192 (US.2.1.ext (P192.extZ EZ all0)) US.1 rfl rfl (by decide) (by decide) hp192 rfl (by decide) (by decide)) (argsL := [(.ref x190)]) (st0 := [(.ref x189)]) (lenOf pd_AC_R_V rfl) rfl rfl (Nat.le_of_eq rfl) (by rw [hml]; rfl) (by decide) (by decide) (fun _ _ _ q => ⟨W.Frw.of_fr q.2.1 (Nat.le_refl _), CHr.keep q.2.2.1 (sfS Sx192 sf0) P192.chv⟩) at_164 rfl ?_
            intro v193 T193 h193 L193 q193 P193
            obtain ⟨rfl, f193, K193, A193, C193, t193, k193, b193, c193, d193, F193, V193⟩ := q193
            show W.Go p.tables e below _ (T193.setTop (mkF m 167 #[.val (.int dd), .val (.int sn), .val (.int gg), .val (.int fl), .val (.int nu), .val (.int ts), .val (.int c6), .val (.int c7), .val (.int c8), .val (.int c9), .val (.int c10), .val (.int c11), .val (.int b_12), .val (.int b_13), .val (.int b_14), .val (.int b_15), .val (.int q16), .val (.ref ty), .unset, .unset, .unset, .unset, .unset, .unset, .unset, .unset, .unset, .unset] [(.ref x189)]))
            have S193 : W.Str Z h193 x189 [c6, c7] := ⟨t193, k193, _, _, _, A193, F193, C193, V193, StrChars.Road.codOf (cs := [c6, c7]) (n := 2) rfl (fun c hc => (hp192 c hc).2), fun c hc => ⟨(hp192 c hc).1, own_up (hp192 c hc).2⟩, Nat.le_of_ble_eq_true rfl⟩
            have Q193 := W.Ext.keepNew Q192 K193 (allS (Nat.le_of_eq g189.symm) all0)
            refine W.g_astore (pc1 := 169) (ls2 := #[.val (.int dd), .val (.int sn), .val (.int gg), .val (.int fl), .val (.int nu), .val (.int ts), .val (.int c6), .val (.int c7), .val (.int c8), .val (.int c9), .val (.int c10), .val (.int c11), .val (.int b_12), .val (.int b_13), .val (.int b_14), .val (.int b_15), .val (.int q16), .val (.ref ty), .val (.ref x189), .unset, .unset, .unset, .unset, .unset, .unset, .unset, .unset, .unset]) P193.q at_167 rfl rfl rfl ?_
            refine P193.newO (pc1 := 172) (wd hw (k := 4) rfl) (wd hw (k := 5) rfl) (wd hw (k := 6) rfl) (by decide) (by decide) at_169 rfl ?_
            intro T194 h194 x194 g194 P194 E194 A194 D194 U194
            refine W.g_dup (pc1 := 173) P194.q at_172 rfl rfl ?_
            refine W.g_iconst (pc1 := 174) (v := (2 : Int32)) P194.q at_173 (by decide) rfl ?_
            have Fv194 : Fld Z h194 x194 "java/lang/String" "value" "[B" .null := D194 (Or.inr (wd hw (k := 33) rfl)) (ty := .array .byte) (by decide)
            have Fc194 : Fld Z h194 x194 "java/lang/String" "coder" "B" (.int 0) := D194 (Or.inr (wd hw (k := 31) rfl)) (ty := .byte) (by decide)
            have Sx194 := Safe.ext (EL := ownEL) E194 P193.chv (Safe.new (Nat.le_of_eq g194.symm))
            refine P194.newP (pc1 := 176) (cap := 2) (wd hw (k := 7) rfl) (by decide) (by decide) (by decide) (by decide) (by decide) at_174 rfl ?_
            intro T195 h195 x195 k195 g195 P195 E195 V195
            have hne195 : x194 ≠ x195 := Nat.ne_of_lt (by rw [g195]; exact A194.lt)
            have Ex195 := A194.ext E195
            have Fv195 := Fv194.ext E195
            have Fc195 := Fc194.ext E195
            have Sx195 := Safe.ext E195 P194.chv Sx194
            have G195 : W.Arg Z h195 x195 k195 .char 2 (fun _ => 0) := W.Arg.new (by decide) V195
            have Q195 := W.Ext.trans E194 E195
            refine W.g_dup (pc1 := 177) P195.q at_176 rfl rfl ?_
            refine W.g_iconst (pc1 := 178) (v := (0 : Int32)) P195.q at_177 (by decide) rfl ?_
            refine W.g_iload (pc1 := 180) P195.q at_178 rfl rfl ?_
            refine P195.stCg (pc1 := 181) (x := c8) G195 (i := 0) (by decide) (Or.inr (by rw [g195]; exact P194.sz)) (W.Arg.safe P195.al G195 (by decide)) at_180 rfl ?_
            intro T196 h196 P196 W196 G196
            have Ex196 := Ex195.wr W196
            have Fv196 := Fv195.other W196 (Or.inl hne195)
            have Fc196 := Fc195.other W196 (Or.inl hne195)
            have Sx196 := Safe.wr W196 (W.Arg.safe P195.al G195 (by decide)) P195.chv Sx195
            have Q196 := W.Ext.wrNew Q195 W196 (by rw [g195]; exact E194.1)
            refine W.g_dup (pc1 := 182) P196.q at_181 rfl rfl ?_
            refine W.g_iconst (pc1 := 183) (v := (1 : Int32)) P196.q at_182 (by decide) rfl ?_
            refine W.g_iload (pc1 := 185) P196.q at_183 rfl rfl ?_
            refine P196.stCg (pc1 := 186) (x := c9) G196 (i := 1) (by decide) (Or.inr (by rw [g195]; exact P194.sz)) (W.Arg.safe P196.al G196 (by decide)) at_185 rfl ?_
            intro T197 h197 P197 W197 G197
            have Ex197 := Ex196.wr W197
            have Fv197 := Fv196.other W197 (Or.inl hne195)
            have Fc197 := Fc196.other W197 (Or.inl hne195)
            have Sx197 := Safe.wr W197 (W.Arg.safe P196.al G196 (by decide)) P196.chv Sx196
            have Q197 := W.Ext.wrNew Q196 W197 (by rw [g195]; exact E194.1)
            have VL197 : Arv Z h197 x195 k195 .char 2 (([c8, c9] : List Int32).map Value.int) (.int 0) := W.Arg.list G197 rfl (fun i hi => match i, hi with | 0, _ => own_narc (b8).ch | 1, _ => own_narc (b9).ch | k + 2, hk => absurd hk (Nat.not_lt.mpr (Nat.le_add_left _ _)))
            have hp197 : ∀ c ∈ ([c8, c9] : List Int32), ¬ c < 0 ∧ ¬ (255 : Int32) < c := (List.forall_mem_cons.mpr ⟨b8, (List.forall_mem_cons.mpr ⟨b9, (fun c hc => absurd hc (List.not_mem_nil))⟩)⟩)
            refine P197.callN (pc1 := 189) rfl (wd hw (k := 8) rfl) (wd hw (k := 9) rfl) (wd hw (k := 10) rfl) (by decide) (StrChars.Road.backV (W := 1) P197.hz hws (kI := 4) (wd hw (k := 5) rfl) (cs := [c8, c9]) (bs := ([c8, c9]).map (fun c => c.toInt8.toInt32)) (n := 2) (n0 := h0.size) (by rw [g194]; exact P193.sz) P197.sz Ex197 Fv197 Fc197 VL197 (US.2.1.ext (P197.extZ EZ all0)) US.1 rfl rfl (by decide) (by decide) hp197 rfl (by decide) (by decide)) (argsL := [(.ref x195)]) (st0 := [(.ref x194)]) (lenOf pd_AC_R_V rfl) rfl rfl (Nat.le_of_eq rfl) (by rw [hml]; rfl) (by decide) (by decide) (fun _ _ _ q => ⟨W.Frw.of_fr q.2.1 (Nat.le_refl _), CHr.keep q.2.2.1 (sfS Sx197 sf0) P197.chv⟩) at_186 rfl ?_
            intro v198 T198 h198 L198 q198 P198
            obtain ⟨rfl, f198, K198, A198, C198, t198, k198, b198, c198, d198, F198, V198⟩ := q198
            show W.Go p.tables e below _ (T198.setTop (mkF m 189 #[.val (.int dd), .val (.int sn), .val (.int gg), .val (.int fl), .val (.int nu), .val (.int ts), .val (.int c6), .val (.int c7), .val (.int c8), .val (.int c9), .val (.int c10), .val (.int c11), .val (.int b_12), .val (.int b_13), .val (.int b_14), .val (.int b_15), .val (.int q16), .val (.ref ty), .val (.ref x189), .unset, .unset, .unset, .unset, .unset, .unset, .unset, .unset, .unset] [(.ref x194)]))
            have S198 : W.Str Z h198 x194 [c8, c9] := ⟨t198, k198, _, _, _, A198, F198, C198, V198, StrChars.Road.codOf (cs := [c8, c9]) (n := 2) rfl (fun c hc => (hp197 c hc).2), fun c hc => ⟨(hp197 c hc).1, own_up (hp197 c hc).2⟩, Nat.le_of_ble_eq_true rfl⟩
            have Q198 := W.Ext.keepNew Q197 K198 (allS (Nat.le_of_eq g194.symm) all0)
            have SD := S193.ext Q198
            refine W.g_astore (pc1 := 191) (ls2 := #[.val (.int dd), .val (.int sn), .val (.int gg), .val (.int fl), .val (.int nu), .val (.int ts), .val (.int c6), .val (.int c7), .val (.int c8), .val (.int c9), .val (.int c10), .val (.int c11), .val (.int b_12), .val (.int b_13), .val (.int b_14), .val (.int b_15), .val (.int q16), .val (.ref ty), .val (.ref x189), .val (.ref x194), .unset, .unset, .unset, .unset, .unset, .unset, .unset, .unset]) P198.q at_189 rfl rfl rfl ?_
            refine W.g_iload (pc1 := 193) P198.q at_191 rfl rfl ?_
            have J20 : ∀ (vm20 : Vm) (T20 : State) (L20 : List Loc) (h20 : Heap) (yg : Addr) (cg : List Int32) (P20 : W.Pos p l e room_1 s m #[.int dd, .int sn, .int gg, .int fl, .int nu, .int ts] below meth c code Z ownEL [] h0 x.cls vm20 T20 L20 24 200 h20) (hcg : cg = if b_15 = 0 then [c10, c11] else []) (SDj : W.Str Z h20 x189 [c6, c7]) (SSj : W.Str Z h20 x194 [c8, c9]) (SGj : W.Str Z h20 yg cg), W.Go p.tables e below (W.GW s Z ownEL h0 (Q1 h0.size) room_1) (T20.setTop (mkF m 221 #[.val (.int dd), .val (.int sn), .val (.int gg), .val (.int fl), .val (.int nu), .val (.int ts), .val (.int c6), .val (.int c7), .val (.int c8), .val (.int c9), .val (.int c10), .val (.int c11), .val (.int b_12), .val (.int b_13), .val (.int b_14), .val (.int b_15), .val (.int q16), .val (.ref ty), .val (.ref x189), .val (.ref x194), .unset, .unset, .unset, .unset, .unset, .unset, .unset, .unset] [.ref yg])) := by
              intro vm20 T20 L20 h20 yg cg P20 hcg SD20 SS20 SG20
              refine W.g_astore (pc1 := 223) (ls2 := #[.val (.int dd), .val (.int sn), .val (.int gg), .val (.int fl), .val (.int nu), .val (.int ts), .val (.int c6), .val (.int c7), .val (.int c8), .val (.int c9), .val (.int c10), .val (.int c11), .val (.int b_12), .val (.int b_13), .val (.int b_14), .val (.int b_15), .val (.int q16), .val (.ref ty), .val (.ref x189), .val (.ref x194), .val (.ref yg), .unset, .unset, .unset, .unset, .unset, .unset, .unset]) P20.q at_221 rfl rfl rfl ?_
              refine W.g_iload (pc1 := 225) P20.q at_223 rfl rfl ?_
              have J21 : ∀ (T21 : State) (L21 : List Loc) (h21 : Heap) (o : Addr) (dv : Value) (P21 : W.Pos p l e room_1 s m #[.int dd, .int sn, .int gg, .int fl, .int nu, .int ts] below meth c code Z ownEL [] h0 x.cls vm20 T21 L21 26 210 h21) (Eo : Exa Z h21 o "java/util/Optional") (Fo : Fld Z h21 o "java/util/Optional" "value" "Ljava/lang/Object;" dv) (hdv : (b_14 = 0 ∧ dv = .null) ∨ (¬ b_14 = 0 ∧ dv = .ref yg)) (E21 : Ext h20 h21), W.Go p.tables e below (W.GW s Z ownEL h0 (Q1 h0.size) room_1) (T21.setTop (mkF m 239 #[.val (.int dd), .val (.int sn), .val (.int gg), .val (.int fl), .val (.int nu), .val (.int ts), .val (.int c6), .val (.int c7), .val (.int c8), .val (.int c9), .val (.int c10), .val (.int c11), .val (.int b_12), .val (.int b_13), .val (.int b_14), .val (.int b_15), .val (.int q16), .val (.ref ty), .val (.ref x189), .val (.ref x194), .val (.ref yg), .unset, .unset, .unset, .unset, .unset, .unset, .unset] [.ref o])) := by
                intro T21 L21 h21 o dv P21 Eo Fo hdv E21
                refine W.g_astore (pc1 := 241) (ls2 := #[.val (.int dd), .val (.int sn), .val (.int gg), .val (.int fl), .val (.int nu), .val (.int ts), .val (.int c6), .val (.int c7), .val (.int c8), .val (.int c9), .val (.int c10), .val (.int c11), .val (.int b_12), .val (.int b_13), .val (.int b_14), .val (.int b_15), .val (.int q16), .val (.ref ty), .val (.ref x189), .val (.ref x194), .val (.ref yg), .val (.ref o), .unset, .unset, .unset, .unset, .unset, .unset]) P21.q at_239 rfl rfl rfl ?_
                refine P21.newO (pc1 := 244) (wd hw (k := 39) rfl) (wd hw (k := 40) rfl) (wd hw (k := 41) rfl) (by decide) (by decide) at_241 rfl ?_
                intro T199 h199 x199 g199 P199 E199 A199 D199 U199
                refine W.g_dup (pc1 := 245) P199.q at_244 rfl rfl ?_
                refine W.g_iload (pc1 := 247) P199.q at_245 rfl rfl ?_
                refine W.g_aload (pc1 := 249) P199.q at_247 rfl rfl rfl ?_
                refine W.g_aload (pc1 := 251) P199.q at_249 rfl rfl rfl ?_
                refine W.g_aload (pc1 := 253) P199.q at_251 rfl rfl rfl ?_
                refine W.g_aload (pc1 := 255) P199.q at_253 rfl rfl rfl ?_
                have G0 : Fld Z h199 x199 "com/example/triage/triage/search/CaseTopics$Topic" "number" "I" (.int 0) := D199 (Or.inr (wd hw (k := 52) rfl)) (ty := .int) (by decide)
                have G1 : Fld Z h199 x199 "com/example/triage/triage/search/CaseTopics$Topic" "type" "Lcom/example/triage/triage/search/CaseTopics$Type;" .null := D199 (Or.inr (wd hw (k := 54) rfl)) (ty := .object "com/example/triage/triage/search/CaseTopics$Type") (by decide)
                have G2 : Fld Z h199 x199 "com/example/triage/triage/search/CaseTopics$Topic" "description" "Ljava/lang/String;" .null := D199 (Or.inr (wd hw (k := 56) rfl)) (ty := .object "java/lang/String") (by decide)
                have G3 : Fld Z h199 x199 "com/example/triage/triage/search/CaseTopics$Topic" "summary" "Ljava/lang/String;" .null := D199 (Or.inr (wd hw (k := 58) rfl)) (ty := .object "java/lang/String") (by decide)
                have G4 : Fld Z h199 x199 "com/example/triage/triage/search/CaseTopics$Topic" "diagnosis" "Ljava/util/Optional;" .null := D199 (Or.inr (wd hw (k := 60) rfl)) (ty := .object "java/util/Optional") (by decide)
                refine P199.callN (pc1 := 258) rfl (wd hw (k := 42) rfl) (wd hw (k := 43) rfl) (wd hw (k := 44) rfl) (by decide) (W.MetN.pay (W := 1) (c_tini l Z a0 hw x199 ty x189 x194 o nu h199 A199 _ G0 _ G1 _ G2 _ G3 _ G4) P199 (wd hw (k := 44) rfl) (wd hw (k := 41) rfl) (by decide) (by decide)) (argsL := [(.int nu), (.ref ty), (.ref x189), (.ref x194), (.ref o)]) (st0 := [(.ref x199)]) (lenOf pd_ILcom_example_triage_triage_search_CaseTopics_TypeLjava_lang_StringLjava_lang_StringLjava_util_Optional_R_V rfl) rfl rfl (Nat.le_of_eq rfl) (by rw [hml]; rfl) (by decide) (by decide) (fun _ _ _ q => ⟨q.2.1.up P199.sz (allS (Or.inr (by rw [g199]; exact P21.sz)) all0), CHr.keep q.2.2.1 (sfS (Safe.exa P199.al A199 (by decide) (by decide)) sf0) P199.chv⟩) at_255 rfl ?_
                intro v200 T200 h200 L200 q200 P200
                obtain ⟨rfl, f200, K200, U200⟩ := q200
                show W.Go p.tables e below _ (T200.setTop (mkF m 258 #[.val (.int dd), .val (.int sn), .val (.int gg), .val (.int fl), .val (.int nu), .val (.int ts), .val (.int c6), .val (.int c7), .val (.int c8), .val (.int c9), .val (.int c10), .val (.int c11), .val (.int b_12), .val (.int b_13), .val (.int b_14), .val (.int b_15), .val (.int q16), .val (.ref ty), .val (.ref x189), .val (.ref x194), .val (.ref yg), .val (.ref o), .unset, .unset, .unset, .unset, .unset, .unset] [(.ref x199)]))
                have EK : Ext h21 h200 := W.Ext.keepNew E199 K200 (allS (Nat.le_of_eq g199.symm) all0)
                have E2K := W.Ext.trans E21 EK
                have Eo2 := Eo.ext EK
                have Fo2 := Fo.ext EK
                have SD2 := SD20.ext E2K
                have SS2 := SS20.ext E2K
                have SG2 := SG20.ext E2K
                have SN := S.ext P200.ext0
                refine W.g_astore (pc1 := 260) (ls2 := #[.val (.int dd), .val (.int sn), .val (.int gg), .val (.int fl), .val (.int nu), .val (.int ts), .val (.int c6), .val (.int c7), .val (.int c8), .val (.int c9), .val (.int c10), .val (.int c11), .val (.int b_12), .val (.int b_13), .val (.int b_14), .val (.int b_15), .val (.int q16), .val (.ref ty), .val (.ref x189), .val (.ref x194), .val (.ref yg), .val (.ref o), .val (.ref x199), .unset, .unset, .unset, .unset, .unset]) P200.q at_258 rfl rfl rfl ?_
                refine W.g_iload (pc1 := 262) P200.q at_260 rfl rfl ?_
                rcases hb_12 with rfl | rfl
                · show W.Go p.tables e below _ (T200.setTop (mkF m 262 #[.val (.int dd), .val (.int sn), .val (.int gg), .val (.int fl), .val (.int nu), .val (.int ts), .val (.int c6), .val (.int c7), .val (.int c8), .val (.int c9), .val (.int c10), .val (.int c11), .val (.int (0 : Int32)), .val (.int b_13), .val (.int b_14), .val (.int b_15), .val (.int q16), .val (.ref ty), .val (.ref x189), .val (.ref x194), .val (.ref yg), .val (.ref o), .val (.ref x199), .unset, .unset, .unset, .unset, .unset] [(.int (0 : Int32))]))
                  refine W.g_ifY (pc1 := 271) P200.q at_262 (by decide) rfl (by decide) ?_
                  refine P200.getS (pc1 := 274) (wd hw (k := 222) rfl) Via.refl (SN.2.2.2.2.1) at_271 rfl ?_
                  intro T201 P201
                  refine W.g_astore (pc1 := 276) (ls2 := #[.val (.int dd), .val (.int sn), .val (.int gg), .val (.int fl), .val (.int nu), .val (.int ts), .val (.int c6), .val (.int c7), .val (.int c8), .val (.int c9), .val (.int c10), .val (.int c11), .val (.int (0 : Int32)), .val (.int b_13), .val (.int b_14), .val (.int b_15), .val (.int q16), .val (.ref ty), .val (.ref x189), .val (.ref x194), .val (.ref yg), .val (.ref o), .val (.ref x199), .val (.ref ds), .unset, .unset, .unset, .unset]) P201.q at_274 rfl rfl rfl ?_
                  refine W.g_aload (pc1 := 278) P201.q at_276 rfl rfl rfl ?_
                  refine W.g_aload (pc1 := 280) P201.q at_278 rfl rfl rfl ?_
                  refine W.g_iload (pc1 := 282) P201.q at_280 rfl rfl ?_
                  rcases hb_13 with rfl | rfl
                  · show W.Go p.tables e below _ (T201.setTop (mkF m 282 #[.val (.int dd), .val (.int sn), .val (.int gg), .val (.int fl), .val (.int nu), .val (.int ts), .val (.int c6), .val (.int c7), .val (.int c8), .val (.int c9), .val (.int c10), .val (.int c11), .val (.int (0 : Int32)), .val (.int (0 : Int32)), .val (.int b_14), .val (.int b_15), .val (.int q16), .val (.ref ty), .val (.ref x189), .val (.ref x194), .val (.ref yg), .val (.ref o), .val (.ref x199), .val (.ref ds), .unset, .unset, .unset, .unset] [(.int (0 : Int32)), (.ref ds), (.ref x199)]))
                    refine P201.callV (pc1 := 285) U200.1 (wd hw (k := 64) rfl) (wd hw (k := 65) rfl) (wd hw (k := 67) rfl) (wd hw (k := 66) rfl) (notFace_of_selects (args := #[]) (mvT P201.hz (wd hw (k := 67) rfl))) (by decide) (W.MetN.pay (W := 0) (c_q0 l Z a0 hw x199 x189 x194 o ds sm x189 _ h200 U200 Eo2 Fo2 (SN.2.2.2.1) (Or.inr ⟨hds, rfl⟩) 0 (Or.inl rfl)) P201 (wd hw (k := 68) rfl) (wd hw (k := 41) rfl) (by decide) (by decide)) (argsL := [(.ref ds), (.int (0 : Int32))]) (st0 := []) (lenOf pd_Lcom_example_triage_triage_search_CaseTopics_NarrativeZ_R_Ljava_lang_String rfl) rfl rfl (Nat.le_of_eq rfl) (by rw [hml]; rfl) (by decide) (by decide) (W.Pure.ok P201.chv) at_282 rfl ?_
                    intro v202 T202 h202 L202 q202 P202
                    obtain ⟨rfl, rfl, rfl⟩ := q202
                    show W.Go p.tables e below _ (T202.setTop (mkF m 285 #[.val (.int dd), .val (.int sn), .val (.int gg), .val (.int fl), .val (.int nu), .val (.int ts), .val (.int c6), .val (.int c7), .val (.int c8), .val (.int c9), .val (.int c10), .val (.int c11), .val (.int (0 : Int32)), .val (.int (0 : Int32)), .val (.int b_14), .val (.int b_15), .val (.int q16), .val (.ref ty), .val (.ref x189), .val (.ref x194), .val (.ref yg), .val (.ref o), .val (.ref x199), .val (.ref ds), .unset, .unset, .unset, .unset] [(.ref x189)]))
                    refine W.g_astore (pc1 := 287) (ls2 := #[.val (.int dd), .val (.int sn), .val (.int gg), .val (.int fl), .val (.int nu), .val (.int ts), .val (.int c6), .val (.int c7), .val (.int c8), .val (.int c9), .val (.int c10), .val (.int c11), .val (.int (0 : Int32)), .val (.int (0 : Int32)), .val (.int b_14), .val (.int b_15), .val (.int q16), .val (.ref ty), .val (.ref x189), .val (.ref x194), .val (.ref yg), .val (.ref o), .val (.ref x199), .val (.ref ds), .val (.ref x189), .unset, .unset, .unset]) P202.q at_285 rfl rfl rfl ?_
                    refine W.g_iload (pc1 := 289) P202.q at_287 rfl rfl ?_
                    refine W.g_ifY (pc1 := 297) P202.q at_289 (by decide) rfl (by decide) ?_
                    refine W.g_iload (pc1 := 299) P202.q at_297 rfl rfl ?_
                    refine W.g_istore (pc1 := 301) (ls2 := #[.val (.int dd), .val (.int sn), .val (.int gg), .val (.int fl), .val (.int nu), .val (.int ts), .val (.int c6), .val (.int c7), .val (.int c8), .val (.int c9), .val (.int c10), .val (.int c11), .val (.int (0 : Int32)), .val (.int (0 : Int32)), .val (.int b_14), .val (.int b_15), .val (.int q16), .val (.ref ty), .val (.ref x189), .val (.ref x194), .val (.ref yg), .val (.ref o), .val (.ref x199), .val (.ref ds), .val (.ref x189), .val (.int c6), .unset, .unset]) P202.q at_299 rfl rfl ?_
                    refine W.g_iload (pc1 := 303) P202.q at_301 rfl rfl ?_
                    refine W.g_ifY (pc1 := 311) P202.q at_303 (by decide) rfl (by decide) ?_
                    refine W.g_iload (pc1 := 313) P202.q at_311 rfl rfl ?_
                    refine W.g_istore (pc1 := 315) (ls2 := #[.val (.int dd), .val (.int sn), .val (.int gg), .val (.int fl), .val (.int nu), .val (.int ts), .val (.int c6), .val (.int c7), .val (.int c8), .val (.int c9), .val (.int c10), .val (.int c11), .val (.int (0 : Int32)), .val (.int (0 : Int32)), .val (.int b_14), .val (.int b_15), .val (.int q16), .val (.ref ty), .val (.ref x189), .val (.ref x194), .val (.ref yg), .val (.ref o), .val (.ref x199), .val (.ref ds), .val (.ref x189), .val (.int c6), .val (.int c7), .unset]) P202.q at_313 rfl rfl ?_
                    refine W.g_iload (pc1 := 317) P202.q at_315 rfl rfl ?_
                    refine W.g_ifY (pc1 := 400) P202.q at_317 (by decide) rfl (by decide) ?_
                    refine P202.newO (pc1 := 403) (wd hw (k := 4) rfl) (wd hw (k := 5) rfl) (wd hw (k := 6) rfl) (by decide) (by decide) at_400 rfl ?_
                    intro T203 h203 x203 g203 P203 E203 A203 D203 U203
                    refine W.g_dup (pc1 := 404) P203.q at_403 rfl rfl ?_
                    refine W.g_iconst (pc1 := 405) (v := (2 : Int32)) P203.q at_404 (by decide) rfl ?_
                    have Fv203 : Fld Z h203 x203 "java/lang/String" "value" "[B" .null := D203 (Or.inr (wd hw (k := 33) rfl)) (ty := .array .byte) (by decide)
                    have Fc203 : Fld Z h203 x203 "java/lang/String" "coder" "B" (.int 0) := D203 (Or.inr (wd hw (k := 31) rfl)) (ty := .byte) (by decide)
                    have Sx203 := Safe.ext (EL := ownEL) E203 P202.chv (Safe.new (Nat.le_of_eq g203.symm))
                    refine P203.newP (pc1 := 407) (cap := 2) (wd hw (k := 7) rfl) (by decide) (by decide) (by decide) (by decide) (by decide) at_405 rfl ?_
                    intro T204 h204 x204 k204 g204 P204 E204 V204
                    have hne204 : x203 ≠ x204 := Nat.ne_of_lt (by rw [g204]; exact A203.lt)
                    have Ex204 := A203.ext E204
                    have Fv204 := Fv203.ext E204
                    have Fc204 := Fc203.ext E204
                    have Sx204 := Safe.ext E204 P203.chv Sx203
                    have G204 : W.Arg Z h204 x204 k204 .char 2 (fun _ => 0) := W.Arg.new (by decide) V204
                    have Q204 := W.Ext.trans E203 E204
                    refine W.g_dup (pc1 := 408) P204.q at_407 rfl rfl ?_
                    refine W.g_iconst (pc1 := 409) (v := (0 : Int32)) P204.q at_408 (by decide) rfl ?_
                    refine W.g_iload (pc1 := 411) P204.q at_409 rfl rfl ?_
                    refine P204.stCg (pc1 := 412) (x := c6) G204 (i := 0) (by decide) (Or.inr (by rw [g204]; exact P203.sz)) (W.Arg.safe P204.al G204 (by decide)) at_411 rfl ?_
                    intro T205 h205 P205 W205 G205
                    have Ex205 := Ex204.wr W205
                    have Fv205 := Fv204.other W205 (Or.inl hne204)
                    have Fc205 := Fc204.other W205 (Or.inl hne204)
                    have Sx205 := Safe.wr W205 (W.Arg.safe P204.al G204 (by decide)) P204.chv Sx204
                    have Q205 := W.Ext.wrNew Q204 W205 (by rw [g204]; exact E203.1)
                    refine W.g_dup (pc1 := 413) P205.q at_412 rfl rfl ?_
                    refine W.g_iconst (pc1 := 414) (v := (1 : Int32)) P205.q at_413 (by decide) rfl ?_
                    refine W.g_iload (pc1 := 416) P205.q at_414 rfl rfl ?_
                    refine P205.stCg (pc1 := 417) (x := c7) G205 (i := 1) (by decide) (Or.inr (by rw [g204]; exact P203.sz)) (W.Arg.safe P205.al G205 (by decide)) at_416 rfl ?_
                    intro T206 h206 P206 W206 G206
                    have Ex206 := Ex205.wr W206
                    have Fv206 := Fv205.other W206 (Or.inl hne204)
                    have Fc206 := Fc205.other W206 (Or.inl hne204)
                    have Sx206 := Safe.wr W206 (W.Arg.safe P205.al G205 (by decide)) P205.chv Sx205
                    have Q206 := W.Ext.wrNew Q205 W206 (by rw [g204]; exact E203.1)
                    have VL206 : Arv Z h206 x204 k204 .char 2 (([c6, c7] : List Int32).map Value.int) (.int 0) := W.Arg.list G206 rfl (fun i hi => match i, hi with | 0, _ => own_narc (b6).ch | 1, _ => own_narc (b7).ch | k + 2, hk => absurd hk (Nat.not_lt.mpr (Nat.le_add_left _ _)))
                    have hp206 : ∀ c ∈ ([c6, c7] : List Int32), ¬ c < 0 ∧ ¬ (255 : Int32) < c := (List.forall_mem_cons.mpr ⟨b6, (List.forall_mem_cons.mpr ⟨b7, (fun c hc => absurd hc (List.not_mem_nil))⟩)⟩)
                    refine P206.callN (pc1 := 420) rfl (wd hw (k := 8) rfl) (wd hw (k := 9) rfl) (wd hw (k := 10) rfl) (by decide) (StrChars.Road.backV (W := 1) P206.hz hws (kI := 4) (wd hw (k := 5) rfl) (cs := [c6, c7]) (bs := ([c6, c7]).map (fun c => c.toInt8.toInt32)) (n := 2) (n0 := h0.size) (by rw [g203]; exact P202.sz) P206.sz Ex206 Fv206 Fc206 VL206 (US.2.1.ext (P206.extZ EZ all0)) US.1 rfl rfl (by decide) (by decide) hp206 rfl (by decide) (by decide)) (argsL := [(.ref x204)]) (st0 := [(.ref x203)]) (lenOf pd_AC_R_V rfl) rfl rfl (Nat.le_of_eq rfl) (by rw [hml]; rfl) (by decide) (by decide) (fun _ _ _ q => ⟨W.Frw.of_fr q.2.1 (Nat.le_refl _), CHr.keep q.2.2.1 (sfS Sx206 sf0) P206.chv⟩) at_417 rfl ?_
                    intro v207 T207 h207 L207 q207 P207
                    obtain ⟨rfl, f207, K207, A207, C207, t207, k207, b207, c207, d207, F207, V207⟩ := q207
                    show W.Go p.tables e below _ (T207.setTop (mkF m 420 #[.val (.int dd), .val (.int sn), .val (.int gg), .val (.int fl), .val (.int nu), .val (.int ts), .val (.int c6), .val (.int c7), .val (.int c8), .val (.int c9), .val (.int c10), .val (.int c11), .val (.int (0 : Int32)), .val (.int (0 : Int32)), .val (.int b_14), .val (.int b_15), .val (.int q16), .val (.ref ty), .val (.ref x189), .val (.ref x194), .val (.ref yg), .val (.ref o), .val (.ref x199), .val (.ref ds), .val (.ref x189), .val (.int c6), .val (.int c7), .unset] [(.ref x203)]))
                    have S207 : W.Str Z h207 x203 [c6, c7] := ⟨t207, k207, _, _, _, A207, F207, C207, V207, StrChars.Road.codOf (cs := [c6, c7]) (n := 2) rfl (fun c hc => (hp206 c hc).2), fun c hc => ⟨(hp206 c hc).1, own_up (hp206 c hc).2⟩, Nat.le_of_ble_eq_true rfl⟩
                    have Q207 := W.Ext.keepNew Q206 K207 (allS (Nat.le_of_eq g203.symm) all0)
                    refine W.g_astore (pc1 := 422) (ls2 := #[.val (.int dd), .val (.int sn), .val (.int gg), .val (.int fl), .val (.int nu), .val (.int ts), .val (.int c6), .val (.int c7), .val (.int c8), .val (.int c9), .val (.int c10), .val (.int c11), .val (.int (0 : Int32)), .val (.int (0 : Int32)), .val (.int b_14), .val (.int b_15), .val (.int q16), .val (.ref ty), .val (.ref x189), .val (.ref x194), .val (.ref yg), .val (.ref o), .val (.ref x199), .val (.ref ds), .val (.ref x189), .val (.int c6), .val (.int c7), .val (.ref x203)]) P207.q at_420 rfl rfl rfl ?_
                    refine W.g_aload (pc1 := 424) P207.q at_422 rfl rfl rfl ?_
                    refine W.g_aload (pc1 := 426) P207.q at_424 rfl rfl rfl ?_
                    refine P207.callV (pc1 := 429) (SD2.ext Q207).exa (wd hw (k := 70) rfl) (wd hw (k := 71) rfl) (wd hw (k := 73) rfl) (wd hw (k := 72) rfl) (notFace_of_selects (args := #[]) (mvT P207.hz (wd hw (k := 73) rfl))) (by decide) (W.Str.eqPay (k := 0) P207.hz hwq (wd hw (k := 5) rfl) (SD2.ext Q207) S207 (US.2.1.ext (P207.extZ EZ all0)) US.1 (by decide) (by decide)) (argsL := [(.ref x203)]) (st0 := []) (lenOf pd_Ljava_lang_Object_R_Z rfl) rfl rfl (Nat.le_of_eq rfl) (by rw [hml]; rfl) (by decide) (by decide) (W.QEq.ok P207.chv) at_426 rfl ?_
                    intro v208 T208 h208 L208 q208 P208
                    obtain ⟨hq208, rfl, rfl⟩ := q208
                    rcases hq208 with ⟨rfl, cq208⟩ | ⟨rfl, cq208⟩
                    · exact P208.retVW hEL hlk hret (Or.inl rfl) at_429 (by decide) (by decide) ⟨rfl, P208.fr⟩
                    · exact absurd rfl cq208
                  · show W.Go p.tables e below _ (T201.setTop (mkF m 282 #[.val (.int dd), .val (.int sn), .val (.int gg), .val (.int fl), .val (.int nu), .val (.int ts), .val (.int c6), .val (.int c7), .val (.int c8), .val (.int c9), .val (.int c10), .val (.int c11), .val (.int (0 : Int32)), .val (.int (1 : Int32)), .val (.int b_14), .val (.int b_15), .val (.int q16), .val (.ref ty), .val (.ref x189), .val (.ref x194), .val (.ref yg), .val (.ref o), .val (.ref x199), .val (.ref ds), .unset, .unset, .unset, .unset] [(.int (1 : Int32)), (.ref ds), (.ref x199)]))
                    rcases hdv with ⟨rfl, rfl⟩ | ⟨h14, rfl⟩
                    · show W.Go p.tables e below _ (T201.setTop (mkF m 282 #[.val (.int dd), .val (.int sn), .val (.int gg), .val (.int fl), .val (.int nu), .val (.int ts), .val (.int c6), .val (.int c7), .val (.int c8), .val (.int c9), .val (.int c10), .val (.int c11), .val (.int (0 : Int32)), .val (.int (1 : Int32)), .val (.int (0 : Int32)), .val (.int b_15), .val (.int q16), .val (.ref ty), .val (.ref x189), .val (.ref x194), .val (.ref yg), .val (.ref o), .val (.ref x199), .val (.ref ds), .unset, .unset, .unset, .unset] [(.int (1 : Int32)), (.ref ds), (.ref x199)]))
                      refine P201.callV (pc1 := 285) U200.1 (wd hw (k := 64) rfl) (wd hw (k := 65) rfl) (wd hw (k := 67) rfl) (wd hw (k := 66) rfl) (notFace_of_selects (args := #[]) (mvT P201.hz (wd hw (k := 67) rfl))) (by decide) (W.MetN.pay (W := 0) (c_q0 l Z a0 hw x199 x189 x194 o ds sm x189 _ h200 U200 Eo2 Fo2 (SN.2.2.2.1) (Or.inr ⟨hds, rfl⟩) 1 (Or.inr rfl)) P201 (wd hw (k := 68) rfl) (wd hw (k := 41) rfl) (by decide) (by decide)) (argsL := [(.ref ds), (.int (1 : Int32))]) (st0 := []) (lenOf pd_Lcom_example_triage_triage_search_CaseTopics_NarrativeZ_R_Ljava_lang_String rfl) rfl rfl (Nat.le_of_eq rfl) (by rw [hml]; rfl) (by decide) (by decide) (W.Pure.ok P201.chv) at_282 rfl ?_
                      intro v209 T209 h209 L209 q209 P209
                      obtain ⟨rfl, rfl, rfl⟩ := q209
                      show W.Go p.tables e below _ (T209.setTop (mkF m 285 #[.val (.int dd), .val (.int sn), .val (.int gg), .val (.int fl), .val (.int nu), .val (.int ts), .val (.int c6), .val (.int c7), .val (.int c8), .val (.int c9), .val (.int c10), .val (.int c11), .val (.int (0 : Int32)), .val (.int (1 : Int32)), .val (.int (0 : Int32)), .val (.int b_15), .val (.int q16), .val (.ref ty), .val (.ref x189), .val (.ref x194), .val (.ref yg), .val (.ref o), .val (.ref x199), .val (.ref ds), .unset, .unset, .unset, .unset] [(.ref x189)]))
                      refine W.g_astore (pc1 := 287) (ls2 := #[.val (.int dd), .val (.int sn), .val (.int gg), .val (.int fl), .val (.int nu), .val (.int ts), .val (.int c6), .val (.int c7), .val (.int c8), .val (.int c9), .val (.int c10), .val (.int c11), .val (.int (0 : Int32)), .val (.int (1 : Int32)), .val (.int (0 : Int32)), .val (.int b_15), .val (.int q16), .val (.ref ty), .val (.ref x189), .val (.ref x194), .val (.ref yg), .val (.ref o), .val (.ref x199), .val (.ref ds), .val (.ref x189), .unset, .unset, .unset]) P209.q at_285 rfl rfl rfl ?_
                      refine W.g_iload (pc1 := 289) P209.q at_287 rfl rfl ?_
                      refine W.g_ifY (pc1 := 297) P209.q at_289 (by decide) rfl (by decide) ?_
                      refine W.g_iload (pc1 := 299) P209.q at_297 rfl rfl ?_
                      refine W.g_istore (pc1 := 301) (ls2 := #[.val (.int dd), .val (.int sn), .val (.int gg), .val (.int fl), .val (.int nu), .val (.int ts), .val (.int c6), .val (.int c7), .val (.int c8), .val (.int c9), .val (.int c10), .val (.int c11), .val (.int (0 : Int32)), .val (.int (1 : Int32)), .val (.int (0 : Int32)), .val (.int b_15), .val (.int q16), .val (.ref ty), .val (.ref x189), .val (.ref x194), .val (.ref yg), .val (.ref o), .val (.ref x199), .val (.ref ds), .val (.ref x189), .val (.int c6), .unset, .unset]) P209.q at_299 rfl rfl ?_
                      refine W.g_iload (pc1 := 303) P209.q at_301 rfl rfl ?_
                      refine W.g_ifY (pc1 := 311) P209.q at_303 (by decide) rfl (by decide) ?_
                      refine W.g_iload (pc1 := 313) P209.q at_311 rfl rfl ?_
                      refine W.g_istore (pc1 := 315) (ls2 := #[.val (.int dd), .val (.int sn), .val (.int gg), .val (.int fl), .val (.int nu), .val (.int ts), .val (.int c6), .val (.int c7), .val (.int c8), .val (.int c9), .val (.int c10), .val (.int c11), .val (.int (0 : Int32)), .val (.int (1 : Int32)), .val (.int (0 : Int32)), .val (.int b_15), .val (.int q16), .val (.ref ty), .val (.ref x189), .val (.ref x194), .val (.ref yg), .val (.ref o), .val (.ref x199), .val (.ref ds), .val (.ref x189), .val (.int c6), .val (.int c7), .unset]) P209.q at_313 rfl rfl ?_
                      refine W.g_iload (pc1 := 317) P209.q at_315 rfl rfl ?_
                      refine W.g_ifN (pc2 := 320) P209.q at_317 rfl (by decide) ?_
                      refine W.g_iload (pc1 := 322) P209.q at_320 rfl rfl ?_
                      refine W.g_ifY (pc1 := 400) P209.q at_322 (by decide) rfl (by decide) ?_
                      refine P209.newO (pc1 := 403) (wd hw (k := 4) rfl) (wd hw (k := 5) rfl) (wd hw (k := 6) rfl) (by decide) (by decide) at_400 rfl ?_
                      intro T210 h210 x210 g210 P210 E210 A210 D210 U210
                      refine W.g_dup (pc1 := 404) P210.q at_403 rfl rfl ?_
                      refine W.g_iconst (pc1 := 405) (v := (2 : Int32)) P210.q at_404 (by decide) rfl ?_
                      have Fv210 : Fld Z h210 x210 "java/lang/String" "value" "[B" .null := D210 (Or.inr (wd hw (k := 33) rfl)) (ty := .array .byte) (by decide)
                      have Fc210 : Fld Z h210 x210 "java/lang/String" "coder" "B" (.int 0) := D210 (Or.inr (wd hw (k := 31) rfl)) (ty := .byte) (by decide)
                      have Sx210 := Safe.ext (EL := ownEL) E210 P209.chv (Safe.new (Nat.le_of_eq g210.symm))
                      refine P210.newP (pc1 := 407) (cap := 2) (wd hw (k := 7) rfl) (by decide) (by decide) (by decide) (by decide) (by decide) at_405 rfl ?_
                      intro T211 h211 x211 k211 g211 P211 E211 V211
                      have hne211 : x210 ≠ x211 := Nat.ne_of_lt (by rw [g211]; exact A210.lt)
                      have Ex211 := A210.ext E211
                      have Fv211 := Fv210.ext E211
                      have Fc211 := Fc210.ext E211
                      have Sx211 := Safe.ext E211 P210.chv Sx210
                      have G211 : W.Arg Z h211 x211 k211 .char 2 (fun _ => 0) := W.Arg.new (by decide) V211
                      have Q211 := W.Ext.trans E210 E211
                      refine W.g_dup (pc1 := 408) P211.q at_407 rfl rfl ?_
                      refine W.g_iconst (pc1 := 409) (v := (0 : Int32)) P211.q at_408 (by decide) rfl ?_
                      refine W.g_iload (pc1 := 411) P211.q at_409 rfl rfl ?_
                      refine P211.stCg (pc1 := 412) (x := c6) G211 (i := 0) (by decide) (Or.inr (by rw [g211]; exact P210.sz)) (W.Arg.safe P211.al G211 (by decide)) at_411 rfl ?_
                      intro T212 h212 P212 W212 G212
                      have Ex212 := Ex211.wr W212
                      have Fv212 := Fv211.other W212 (Or.inl hne211)
                      have Fc212 := Fc211.other W212 (Or.inl hne211)
                      have Sx212 := Safe.wr W212 (W.Arg.safe P211.al G211 (by decide)) P211.chv Sx211
                      have Q212 := W.Ext.wrNew Q211 W212 (by rw [g211]; exact E210.1)
                      refine W.g_dup (pc1 := 413) P212.q at_412 rfl rfl ?_
                      refine W.g_iconst (pc1 := 414) (v := (1 : Int32)) P212.q at_413 (by decide) rfl ?_
                      refine W.g_iload (pc1 := 416) P212.q at_414 rfl rfl ?_
                      refine P212.stCg (pc1 := 417) (x := c7) G212 (i := 1) (by decide) (Or.inr (by rw [g211]; exact P210.sz)) (W.Arg.safe P212.al G212 (by decide)) at_416 rfl ?_
                      intro T213 h213 P213 W213 G213
                      have Ex213 := Ex212.wr W213
                      have Fv213 := Fv212.other W213 (Or.inl hne211)
                      have Fc213 := Fc212.other W213 (Or.inl hne211)
                      have Sx213 := Safe.wr W213 (W.Arg.safe P212.al G212 (by decide)) P212.chv Sx212
                      have Q213 := W.Ext.wrNew Q212 W213 (by rw [g211]; exact E210.1)
                      have VL213 : Arv Z h213 x211 k211 .char 2 (([c6, c7] : List Int32).map Value.int) (.int 0) := W.Arg.list G213 rfl (fun i hi => match i, hi with | 0, _ => own_narc (b6).ch | 1, _ => own_narc (b7).ch | k + 2, hk => absurd hk (Nat.not_lt.mpr (Nat.le_add_left _ _)))
                      have hp213 : ∀ c ∈ ([c6, c7] : List Int32), ¬ c < 0 ∧ ¬ (255 : Int32) < c := (List.forall_mem_cons.mpr ⟨b6, (List.forall_mem_cons.mpr ⟨b7, (fun c hc => absurd hc (List.not_mem_nil))⟩)⟩)
                      refine P213.callN (pc1 := 420) rfl (wd hw (k := 8) rfl) (wd hw (k := 9) rfl) (wd hw (k := 10) rfl) (by decide) (StrChars.Road.backV (W := 1) P213.hz hws (kI := 4) (wd hw (k := 5) rfl) (cs := [c6, c7]) (bs := ([c6, c7]).map (fun c => c.toInt8.toInt32)) (n := 2) (n0 := h0.size) (by rw [g210]; exact P209.sz) P213.sz Ex213 Fv213 Fc213 VL213 (US.2.1.ext (P213.extZ EZ all0)) US.1 rfl rfl (by decide) (by decide) hp213 rfl (by decide) (by decide)) (argsL := [(.ref x211)]) (st0 := [(.ref x210)]) (lenOf pd_AC_R_V rfl) rfl rfl (Nat.le_of_eq rfl) (by rw [hml]; rfl) (by decide) (by decide) (fun _ _ _ q => ⟨W.Frw.of_fr q.2.1 (Nat.le_refl _), CHr.keep q.2.2.1 (sfS Sx213 sf0) P213.chv⟩) at_417 rfl ?_
                      intro v214 T214 h214 L214 q214 P214
                      obtain ⟨rfl, f214, K214, A214, C214, t214, k214, b214, c214, d214, F214, V214⟩ := q214
                      show W.Go p.tables e below _ (T214.setTop (mkF m 420 #[.val (.int dd), .val (.int sn), .val (.int gg), .val (.int fl), .val (.int nu), .val (.int ts), .val (.int c6), .val (.int c7), .val (.int c8), .val (.int c9), .val (.int c10), .val (.int c11), .val (.int (0 : Int32)), .val (.int (1 : Int32)), .val (.int (0 : Int32)), .val (.int b_15), .val (.int q16), .val (.ref ty), .val (.ref x189), .val (.ref x194), .val (.ref yg), .val (.ref o), .val (.ref x199), .val (.ref ds), .val (.ref x189), .val (.int c6), .val (.int c7), .unset] [(.ref x210)]))
                      have S214 : W.Str Z h214 x210 [c6, c7] := ⟨t214, k214, _, _, _, A214, F214, C214, V214, StrChars.Road.codOf (cs := [c6, c7]) (n := 2) rfl (fun c hc => (hp213 c hc).2), fun c hc => ⟨(hp213 c hc).1, own_up (hp213 c hc).2⟩, Nat.le_of_ble_eq_true rfl⟩
                      have Q214 := W.Ext.keepNew Q213 K214 (allS (Nat.le_of_eq g210.symm) all0)
                      refine W.g_astore (pc1 := 422) (ls2 := #[.val (.int dd), .val (.int sn), .val (.int gg), .val (.int fl), .val (.int nu), .val (.int ts), .val (.int c6), .val (.int c7), .val (.int c8), .val (.int c9), .val (.int c10), .val (.int c11), .val (.int (0 : Int32)), .val (.int (1 : Int32)), .val (.int (0 : Int32)), .val (.int b_15), .val (.int q16), .val (.ref ty), .val (.ref x189), .val (.ref x194), .val (.ref yg), .val (.ref o), .val (.ref x199), .val (.ref ds), .val (.ref x189), .val (.int c6), .val (.int c7), .val (.ref x210)]) P214.q at_420 rfl rfl rfl ?_
                      refine W.g_aload (pc1 := 424) P214.q at_422 rfl rfl rfl ?_
                      refine W.g_aload (pc1 := 426) P214.q at_424 rfl rfl rfl ?_
                      refine P214.callV (pc1 := 429) (SD2.ext Q214).exa (wd hw (k := 70) rfl) (wd hw (k := 71) rfl) (wd hw (k := 73) rfl) (wd hw (k := 72) rfl) (notFace_of_selects (args := #[]) (mvT P214.hz (wd hw (k := 73) rfl))) (by decide) (W.Str.eqPay (k := 0) P214.hz hwq (wd hw (k := 5) rfl) (SD2.ext Q214) S214 (US.2.1.ext (P214.extZ EZ all0)) US.1 (by decide) (by decide)) (argsL := [(.ref x210)]) (st0 := []) (lenOf pd_Ljava_lang_Object_R_Z rfl) rfl rfl (Nat.le_of_eq rfl) (by rw [hml]; rfl) (by decide) (by decide) (W.QEq.ok P214.chv) at_426 rfl ?_
                      intro v215 T215 h215 L215 q215 P215
                      obtain ⟨hq215, rfl, rfl⟩ := q215
                      rcases hq215 with ⟨rfl, cq215⟩ | ⟨rfl, cq215⟩
                      · exact P215.retVW hEL hlk hret (Or.inl rfl) at_429 (by decide) (by decide) ⟨rfl, P215.fr⟩
                      · exact absurd rfl cq215
                    · obtain rfl : b_14 = 1 := hb_14.resolve_left h14
                      rcases hb_15 with rfl | rfl
                      · obtain rfl : cg = [c10, c11] := hcg.trans (if_pos rfl)
                        show W.Go p.tables e below _ (T201.setTop (mkF m 282 #[.val (.int dd), .val (.int sn), .val (.int gg), .val (.int fl), .val (.int nu), .val (.int ts), .val (.int c6), .val (.int c7), .val (.int c8), .val (.int c9), .val (.int c10), .val (.int c11), .val (.int (0 : Int32)), .val (.int (1 : Int32)), .val (.int (1 : Int32)), .val (.int (0 : Int32)), .val (.int q16), .val (.ref ty), .val (.ref x189), .val (.ref x194), .val (.ref yg), .val (.ref o), .val (.ref x199), .val (.ref ds), .unset, .unset, .unset, .unset] [(.int (1 : Int32)), (.ref ds), (.ref x199)]))
                        refine P201.callVW (pc1 := 285) U200.1 (wd hw (k := 64) rfl) (wd hw (k := 65) rfl) (wd hw (k := 67) rfl) (wd hw (k := 66) rfl) (notFace_of_selects (args := #[]) (mvT P201.hz (wd hw (k := 67) rfl))) (by decide) (W.MetW.pay (W := 0) (c_q1 l Z a0 hw wS hEL x199 x189 x194 o ds sm x189 yg [c6, c7] [c10, c11] 1 (by decide) h200 U200 Eo2 Fo2 (SN.2.2.2.1) (Or.inr ⟨hds, rfl⟩) SD2 SG2 (own_by2 b6 b7) (own_by2 b10 b11) (Nat.le_of_ble_eq_true rfl) (P201.extZ EZ all0) zc fm US) P201 hEL all0 (wd hw (k := 68) rfl) (wd hw (k := 41) rfl) (by decide) (by decide)) (argsL := [(.ref ds), (.int (1 : Int32))]) (st0 := []) (lenOf pd_Lcom_example_triage_triage_search_CaseTopics_NarrativeZ_R_Ljava_lang_String rfl) rfl rfl (Nat.le_of_eq rfl) (by rw [hml]; rfl) (by decide) (by decide) (fun _ _ _ q => by obtain ⟨_, _, q2, _⟩ := q; exact q2.up P201.sz all0) at_282 rfl ?_
                        intro v216 T216 h216 L216 q216 P216 R216
                        obtain ⟨y216, rfl, f216, E216, Y216⟩ := q216
                        show W.Go p.tables e below _ (T216.setTop (mkF m 285 #[.val (.int dd), .val (.int sn), .val (.int gg), .val (.int fl), .val (.int nu), .val (.int ts), .val (.int c6), .val (.int c7), .val (.int c8), .val (.int c9), .val (.int c10), .val (.int c11), .val (.int (0 : Int32)), .val (.int (1 : Int32)), .val (.int (1 : Int32)), .val (.int (0 : Int32)), .val (.int q16), .val (.ref ty), .val (.ref x189), .val (.ref x194), .val (.ref yg), .val (.ref o), .val (.ref x199), .val (.ref ds), .unset, .unset, .unset, .unset] [(.ref y216)]))
                        refine W.g_astore (pc1 := 287) (ls2 := #[.val (.int dd), .val (.int sn), .val (.int gg), .val (.int fl), .val (.int nu), .val (.int ts), .val (.int c6), .val (.int c7), .val (.int c8), .val (.int c9), .val (.int c10), .val (.int c11), .val (.int (0 : Int32)), .val (.int (1 : Int32)), .val (.int (1 : Int32)), .val (.int (0 : Int32)), .val (.int q16), .val (.ref ty), .val (.ref x189), .val (.ref x194), .val (.ref yg), .val (.ref o), .val (.ref x199), .val (.ref ds), .val (.ref y216), .unset, .unset, .unset]) P216.q at_285 rfl rfl rfl ?_
                        refine W.g_iload (pc1 := 289) P216.q at_287 rfl rfl ?_
                        refine W.g_ifY (pc1 := 297) P216.q at_289 (by decide) rfl (by decide) ?_
                        refine W.g_iload (pc1 := 299) P216.q at_297 rfl rfl ?_
                        refine W.g_istore (pc1 := 301) (ls2 := #[.val (.int dd), .val (.int sn), .val (.int gg), .val (.int fl), .val (.int nu), .val (.int ts), .val (.int c6), .val (.int c7), .val (.int c8), .val (.int c9), .val (.int c10), .val (.int c11), .val (.int (0 : Int32)), .val (.int (1 : Int32)), .val (.int (1 : Int32)), .val (.int (0 : Int32)), .val (.int q16), .val (.ref ty), .val (.ref x189), .val (.ref x194), .val (.ref yg), .val (.ref o), .val (.ref x199), .val (.ref ds), .val (.ref y216), .val (.int c6), .unset, .unset]) P216.q at_299 rfl rfl ?_
                        refine W.g_iload (pc1 := 303) P216.q at_301 rfl rfl ?_
                        refine W.g_ifY (pc1 := 311) P216.q at_303 (by decide) rfl (by decide) ?_
                        refine W.g_iload (pc1 := 313) P216.q at_311 rfl rfl ?_
                        refine W.g_istore (pc1 := 315) (ls2 := #[.val (.int dd), .val (.int sn), .val (.int gg), .val (.int fl), .val (.int nu), .val (.int ts), .val (.int c6), .val (.int c7), .val (.int c8), .val (.int c9), .val (.int c10), .val (.int c11), .val (.int (0 : Int32)), .val (.int (1 : Int32)), .val (.int (1 : Int32)), .val (.int (0 : Int32)), .val (.int q16), .val (.ref ty), .val (.ref x189), .val (.ref x194), .val (.ref yg), .val (.ref o), .val (.ref x199), .val (.ref ds), .val (.ref y216), .val (.int c6), .val (.int c7), .unset]) P216.q at_313 rfl rfl ?_
                        refine W.g_iload (pc1 := 317) P216.q at_315 rfl rfl ?_
                        refine W.g_ifN (pc2 := 320) P216.q at_317 rfl (by decide) ?_
                        refine W.g_iload (pc1 := 322) P216.q at_320 rfl rfl ?_
                        refine W.g_ifN (pc2 := 325) P216.q at_322 rfl (by decide) ?_
                        refine W.g_iload (pc1 := 327) P216.q at_325 rfl rfl ?_
                        refine W.g_ifY (pc1 := 360) P216.q at_327 (by decide) rfl (by decide) ?_
                        refine P216.newO (pc1 := 363) (wd hw (k := 4) rfl) (wd hw (k := 5) rfl) (wd hw (k := 6) rfl) (by decide) (by decide) at_360 rfl ?_
                        intro T217 h217 x217 g217 P217 E217 A217 D217 U217
                        refine W.g_dup (pc1 := 364) P217.q at_363 rfl rfl ?_
                        refine W.g_iconst (pc1 := 365) (v := (5 : Int32)) P217.q at_364 (by decide) rfl ?_
                        have Fv217 : Fld Z h217 x217 "java/lang/String" "value" "[B" .null := D217 (Or.inr (wd hw (k := 33) rfl)) (ty := .array .byte) (by decide)
                        have Fc217 : Fld Z h217 x217 "java/lang/String" "coder" "B" (.int 0) := D217 (Or.inr (wd hw (k := 31) rfl)) (ty := .byte) (by decide)
                        have Sx217 := Safe.ext (EL := ownEL) E217 P216.chv (Safe.new (Nat.le_of_eq g217.symm))
                        refine P217.newP (pc1 := 367) (cap := 5) (wd hw (k := 7) rfl) (by decide) (by decide) (by decide) (by decide) (by decide) at_365 rfl ?_
                        intro T218 h218 x218 k218 g218 P218 E218 V218
                        have hne218 : x217 ≠ x218 := Nat.ne_of_lt (by rw [g218]; exact A217.lt)
                        have Ex218 := A217.ext E218
                        have Fv218 := Fv217.ext E218
                        have Fc218 := Fc217.ext E218
                        have Sx218 := Safe.ext E218 P217.chv Sx217
                        have G218 : W.Arg Z h218 x218 k218 .char 5 (fun _ => 0) := W.Arg.new (by decide) V218
                        have Q218 := W.Ext.trans E217 E218
                        refine W.g_dup (pc1 := 368) P218.q at_367 rfl rfl ?_
                        refine W.g_iconst (pc1 := 369) (v := (0 : Int32)) P218.q at_368 (by decide) rfl ?_
                        refine W.g_iload (pc1 := 371) P218.q at_369 rfl rfl ?_
                        refine P218.stCg (pc1 := 372) (x := c6) G218 (i := 0) (by decide) (Or.inr (by rw [g218]; exact P217.sz)) (W.Arg.safe P218.al G218 (by decide)) at_371 rfl ?_
                        intro T219 h219 P219 W219 G219
                        have Ex219 := Ex218.wr W219
                        have Fv219 := Fv218.other W219 (Or.inl hne218)
                        have Fc219 := Fc218.other W219 (Or.inl hne218)
                        have Sx219 := Safe.wr W219 (W.Arg.safe P218.al G218 (by decide)) P218.chv Sx218
                        have Q219 := W.Ext.wrNew Q218 W219 (by rw [g218]; exact E217.1)
                        refine W.g_dup (pc1 := 373) P219.q at_372 rfl rfl ?_
                        refine W.g_iconst (pc1 := 374) (v := (1 : Int32)) P219.q at_373 (by decide) rfl ?_
                        refine W.g_iload (pc1 := 376) P219.q at_374 rfl rfl ?_
                        refine P219.stCg (pc1 := 377) (x := c7) G219 (i := 1) (by decide) (Or.inr (by rw [g218]; exact P217.sz)) (W.Arg.safe P219.al G219 (by decide)) at_376 rfl ?_
                        intro T220 h220 P220 W220 G220
                        have Ex220 := Ex219.wr W220
                        have Fv220 := Fv219.other W220 (Or.inl hne218)
                        have Fc220 := Fc219.other W220 (Or.inl hne218)
                        have Sx220 := Safe.wr W220 (W.Arg.safe P219.al G219 (by decide)) P219.chv Sx219
                        have Q220 := W.Ext.wrNew Q219 W220 (by rw [g218]; exact E217.1)
                        refine W.g_dup (pc1 := 378) P220.q at_377 rfl rfl ?_
                        refine W.g_iconst (pc1 := 379) (v := (2 : Int32)) P220.q at_378 (by decide) rfl ?_
                        refine W.g_bipush (pc1 := 381) (v := (10 : Int32)) P220.q at_379 (by decide) rfl ?_
                        refine P220.stCg (pc1 := 382) (x := (10 : Int32)) G220 (i := 2) (by decide) (Or.inr (by rw [g218]; exact P217.sz)) (W.Arg.safe P220.al G220 (by decide)) at_381 rfl ?_
                        intro T221 h221 P221 W221 G221
                        have Ex221 := Ex220.wr W221
                        have Fv221 := Fv220.other W221 (Or.inl hne218)
                        have Fc221 := Fc220.other W221 (Or.inl hne218)
                        have Sx221 := Safe.wr W221 (W.Arg.safe P220.al G220 (by decide)) P220.chv Sx220
                        have Q221 := W.Ext.wrNew Q220 W221 (by rw [g218]; exact E217.1)
                        refine W.g_dup (pc1 := 383) P221.q at_382 rfl rfl ?_
                        refine W.g_iconst (pc1 := 384) (v := (3 : Int32)) P221.q at_383 (by decide) rfl ?_
                        refine W.g_iload (pc1 := 386) P221.q at_384 rfl rfl ?_
                        refine P221.stCg (pc1 := 387) (x := c10) G221 (i := 3) (by decide) (Or.inr (by rw [g218]; exact P217.sz)) (W.Arg.safe P221.al G221 (by decide)) at_386 rfl ?_
                        intro T222 h222 P222 W222 G222
                        have Ex222 := Ex221.wr W222
                        have Fv222 := Fv221.other W222 (Or.inl hne218)
                        have Fc222 := Fc221.other W222 (Or.inl hne218)
                        have Sx222 := Safe.wr W222 (W.Arg.safe P221.al G221 (by decide)) P221.chv Sx221
                        have Q222 := W.Ext.wrNew Q221 W222 (by rw [g218]; exact E217.1)
                        refine W.g_dup (pc1 := 388) P222.q at_387 rfl rfl ?_
                        refine W.g_iconst (pc1 := 389) (v := (4 : Int32)) P222.q at_388 (by decide) rfl ?_
                        refine W.g_iload (pc1 := 391) P222.q at_389 rfl rfl ?_
                        refine P222.stCg (pc1 := 392) (x := c11) G222 (i := 4) (by decide) (Or.inr (by rw [g218]; exact P217.sz)) (W.Arg.safe P222.al G222 (by decide)) at_391 rfl ?_
                        intro T223 h223 P223 W223 G223
                        have Ex223 := Ex222.wr W223
                        have Fv223 := Fv222.other W223 (Or.inl hne218)
                        have Fc223 := Fc222.other W223 (Or.inl hne218)
                        have Sx223 := Safe.wr W223 (W.Arg.safe P222.al G222 (by decide)) P222.chv Sx222
                        have Q223 := W.Ext.wrNew Q222 W223 (by rw [g218]; exact E217.1)
                        have VL223 : Arv Z h223 x218 k218 .char 5 (([c6, c7, (10 : Int32), c10, c11] : List Int32).map Value.int) (.int 0) := W.Arg.list G223 rfl (fun i hi => match i, hi with | 0, _ => own_narc (b6).ch | 1, _ => own_narc (b7).ch | 2, _ => own_narc (own_by10).ch | 3, _ => own_narc (b10).ch | 4, _ => own_narc (b11).ch | k + 5, hk => absurd hk (Nat.not_lt.mpr (Nat.le_add_left _ _)))
                        have hp223 : ∀ c ∈ ([c6, c7, (10 : Int32), c10, c11] : List Int32), ¬ c < 0 ∧ ¬ (255 : Int32) < c := (List.forall_mem_cons.mpr ⟨b6, (List.forall_mem_cons.mpr ⟨b7, (List.forall_mem_cons.mpr ⟨own_by10, (List.forall_mem_cons.mpr ⟨b10, (List.forall_mem_cons.mpr ⟨b11, (fun c hc => absurd hc (List.not_mem_nil))⟩)⟩)⟩)⟩)⟩)
                        refine P223.callN (pc1 := 395) rfl (wd hw (k := 8) rfl) (wd hw (k := 9) rfl) (wd hw (k := 10) rfl) (by decide) (StrChars.Road.backV (W := 1) P223.hz hws (kI := 4) (wd hw (k := 5) rfl) (cs := [c6, c7, (10 : Int32), c10, c11]) (bs := ([c6, c7, (10 : Int32), c10, c11]).map (fun c => c.toInt8.toInt32)) (n := 5) (n0 := h0.size) (by rw [g217]; exact P216.sz) P223.sz Ex223 Fv223 Fc223 VL223 (US.2.1.ext (P223.extZ EZ all0)) US.1 rfl rfl (by decide) (by decide) hp223 rfl (by decide) (by decide)) (argsL := [(.ref x218)]) (st0 := [(.ref x217)]) (lenOf pd_AC_R_V rfl) rfl rfl (Nat.le_of_eq rfl) (by rw [hml]; rfl) (by decide) (by decide) (fun _ _ _ q => ⟨W.Frw.of_fr q.2.1 (Nat.le_refl _), CHr.keep q.2.2.1 (sfS Sx223 sf0) P223.chv⟩) at_392 rfl ?_
                        intro v224 T224 h224 L224 q224 P224
                        obtain ⟨rfl, f224, K224, A224, C224, t224, k224, b224, c224, d224, F224, V224⟩ := q224
                        show W.Go p.tables e below _ (T224.setTop (mkF m 395 #[.val (.int dd), .val (.int sn), .val (.int gg), .val (.int fl), .val (.int nu), .val (.int ts), .val (.int c6), .val (.int c7), .val (.int c8), .val (.int c9), .val (.int c10), .val (.int c11), .val (.int (0 : Int32)), .val (.int (1 : Int32)), .val (.int (1 : Int32)), .val (.int (0 : Int32)), .val (.int q16), .val (.ref ty), .val (.ref x189), .val (.ref x194), .val (.ref yg), .val (.ref o), .val (.ref x199), .val (.ref ds), .val (.ref y216), .val (.int c6), .val (.int c7), .unset] [(.ref x217)]))
                        have S224 : W.Str Z h224 x217 [c6, c7, (10 : Int32), c10, c11] := ⟨t224, k224, _, _, _, A224, F224, C224, V224, StrChars.Road.codOf (cs := [c6, c7, (10 : Int32), c10, c11]) (n := 5) rfl (fun c hc => (hp223 c hc).2), fun c hc => ⟨(hp223 c hc).1, own_up (hp223 c hc).2⟩, Nat.le_of_ble_eq_true rfl⟩
                        have Q224 := W.Ext.keepNew Q223 K224 (allS (Nat.le_of_eq g217.symm) all0)
                        refine W.g_astore (pc1 := 397) (ls2 := #[.val (.int dd), .val (.int sn), .val (.int gg), .val (.int fl), .val (.int nu), .val (.int ts), .val (.int c6), .val (.int c7), .val (.int c8), .val (.int c9), .val (.int c10), .val (.int c11), .val (.int (0 : Int32)), .val (.int (1 : Int32)), .val (.int (1 : Int32)), .val (.int (0 : Int32)), .val (.int q16), .val (.ref ty), .val (.ref x189), .val (.ref x194), .val (.ref yg), .val (.ref o), .val (.ref x199), .val (.ref ds), .val (.ref y216), .val (.int c6), .val (.int c7), .val (.ref x217)]) P224.q at_395 rfl rfl rfl ?_
                        refine W.g_goto (pc1 := 422) P224.q at_397 (by decide) rfl ?_
                        refine W.g_aload (pc1 := 424) P224.q at_422 rfl rfl rfl ?_
                        refine W.g_aload (pc1 := 426) P224.q at_424 rfl rfl rfl ?_
                        refine P224.callV (pc1 := 429) (Y216.ext Q224).exa (wd hw (k := 70) rfl) (wd hw (k := 71) rfl) (wd hw (k := 73) rfl) (wd hw (k := 72) rfl) (notFace_of_selects (args := #[]) (mvT P224.hz (wd hw (k := 73) rfl))) (by decide) (W.Str.eqPay (k := 0) P224.hz hwq (wd hw (k := 5) rfl) (Y216.ext Q224) S224 (US.2.1.ext (P224.extZ EZ all0)) US.1 (by decide) (by decide)) (argsL := [(.ref x217)]) (st0 := []) (lenOf pd_Ljava_lang_Object_R_Z rfl) rfl rfl (Nat.le_of_eq rfl) (by rw [hml]; rfl) (by decide) (by decide) (W.QEq.ok P224.chv) at_426 rfl ?_
                        intro v225 T225 h225 L225 q225 P225
                        obtain ⟨hq225, rfl, rfl⟩ := q225
                        rcases hq225 with ⟨rfl, cq225⟩ | ⟨rfl, cq225⟩
                        · exact P225.retVW hEL hlk hret (Or.inl rfl) at_429 (by decide) (by decide) ⟨rfl, P225.fr⟩
                        · exact absurd rfl cq225
                      · obtain rfl : cg = [] := hcg.trans (if_neg (by decide))
                        show W.Go p.tables e below _ (T201.setTop (mkF m 282 #[.val (.int dd), .val (.int sn), .val (.int gg), .val (.int fl), .val (.int nu), .val (.int ts), .val (.int c6), .val (.int c7), .val (.int c8), .val (.int c9), .val (.int c10), .val (.int c11), .val (.int (0 : Int32)), .val (.int (1 : Int32)), .val (.int (1 : Int32)), .val (.int (1 : Int32)), .val (.int q16), .val (.ref ty), .val (.ref x189), .val (.ref x194), .val (.ref yg), .val (.ref o), .val (.ref x199), .val (.ref ds), .unset, .unset, .unset, .unset] [(.int (1 : Int32)), (.ref ds), (.ref x199)]))
                        refine P201.callVW (pc1 := 285) U200.1 (wd hw (k := 64) rfl) (wd hw (k := 65) rfl) (wd hw (k := 67) rfl) (wd hw (k := 66) rfl) (notFace_of_selects (args := #[]) (mvT P201.hz (wd hw (k := 67) rfl))) (by decide) (W.MetW.pay (W := 0) (c_q1 l Z a0 hw wS hEL x199 x189 x194 o ds sm x189 yg [c6, c7] [] 1 (by decide) h200 U200 Eo2 Fo2 (SN.2.2.2.1) (Or.inr ⟨hds, rfl⟩) SD2 SG2 (own_by2 b6 b7) own_by0 (Nat.le_of_ble_eq_true rfl) (P201.extZ EZ all0) zc fm US) P201 hEL all0 (wd hw (k := 68) rfl) (wd hw (k := 41) rfl) (by decide) (by decide)) (argsL := [(.ref ds), (.int (1 : Int32))]) (st0 := []) (lenOf pd_Lcom_example_triage_triage_search_CaseTopics_NarrativeZ_R_Ljava_lang_String rfl) rfl rfl (Nat.le_of_eq rfl) (by rw [hml]; rfl) (by decide) (by decide) (fun _ _ _ q => by obtain ⟨_, _, q2, _⟩ := q; exact q2.up P201.sz all0) at_282 rfl ?_
                        intro v226 T226 h226 L226 q226 P226 R226
                        obtain ⟨y226, rfl, f226, E226, Y226⟩ := q226
                        show W.Go p.tables e below _ (T226.setTop (mkF m 285 #[.val (.int dd), .val (.int sn), .val (.int gg), .val (.int fl), .val (.int nu), .val (.int ts), .val (.int c6), .val (.int c7), .val (.int c8), .val (.int c9), .val (.int c10), .val (.int c11), .val (.int (0 : Int32)), .val (.int (1 : Int32)), .val (.int (1 : Int32)), .val (.int (1 : Int32)), .val (.int q16), .val (.ref ty), .val (.ref x189), .val (.ref x194), .val (.ref yg), .val (.ref o), .val (.ref x199), .val (.ref ds), .unset, .unset, .unset, .unset] [(.ref y226)]))
                        refine W.g_astore (pc1 := 287) (ls2 := #[.val (.int dd), .val (.int sn), .val (.int gg), .val (.int fl), .val (.int nu), .val (.int ts), .val (.int c6), .val (.int c7), .val (.int c8), .val (.int c9), .val (.int c10), .val (.int c11), .val (.int (0 : Int32)), .val (.int (1 : Int32)), .val (.int (1 : Int32)), .val (.int (1 : Int32)), .val (.int q16), .val (.ref ty), .val (.ref x189), .val (.ref x194), .val (.ref yg), .val (.ref o), .val (.ref x199), .val (.ref ds), .val (.ref y226), .unset, .unset, .unset]) P226.q at_285 rfl rfl rfl ?_
                        refine W.g_iload (pc1 := 289) P226.q at_287 rfl rfl ?_
                        refine W.g_ifY (pc1 := 297) P226.q at_289 (by decide) rfl (by decide) ?_
                        refine W.g_iload (pc1 := 299) P226.q at_297 rfl rfl ?_
                        refine W.g_istore (pc1 := 301) (ls2 := #[.val (.int dd), .val (.int sn), .val (.int gg), .val (.int fl), .val (.int nu), .val (.int ts), .val (.int c6), .val (.int c7), .val (.int c8), .val (.int c9), .val (.int c10), .val (.int c11), .val (.int (0 : Int32)), .val (.int (1 : Int32)), .val (.int (1 : Int32)), .val (.int (1 : Int32)), .val (.int q16), .val (.ref ty), .val (.ref x189), .val (.ref x194), .val (.ref yg), .val (.ref o), .val (.ref x199), .val (.ref ds), .val (.ref y226), .val (.int c6), .unset, .unset]) P226.q at_299 rfl rfl ?_
                        refine W.g_iload (pc1 := 303) P226.q at_301 rfl rfl ?_
                        refine W.g_ifY (pc1 := 311) P226.q at_303 (by decide) rfl (by decide) ?_
                        refine W.g_iload (pc1 := 313) P226.q at_311 rfl rfl ?_
                        refine W.g_istore (pc1 := 315) (ls2 := #[.val (.int dd), .val (.int sn), .val (.int gg), .val (.int fl), .val (.int nu), .val (.int ts), .val (.int c6), .val (.int c7), .val (.int c8), .val (.int c9), .val (.int c10), .val (.int c11), .val (.int (0 : Int32)), .val (.int (1 : Int32)), .val (.int (1 : Int32)), .val (.int (1 : Int32)), .val (.int q16), .val (.ref ty), .val (.ref x189), .val (.ref x194), .val (.ref yg), .val (.ref o), .val (.ref x199), .val (.ref ds), .val (.ref y226), .val (.int c6), .val (.int c7), .unset]) P226.q at_313 rfl rfl ?_
                        refine W.g_iload (pc1 := 317) P226.q at_315 rfl rfl ?_
                        refine W.g_ifN (pc2 := 320) P226.q at_317 rfl (by decide) ?_
                        refine W.g_iload (pc1 := 322) P226.q at_320 rfl rfl ?_
                        refine W.g_ifN (pc2 := 325) P226.q at_322 rfl (by decide) ?_
                        refine W.g_iload (pc1 := 327) P226.q at_325 rfl rfl ?_
                        refine W.g_ifN (pc2 := 330) P226.q at_327 rfl (by decide) ?_
                        refine P226.newO (pc1 := 333) (wd hw (k := 4) rfl) (wd hw (k := 5) rfl) (wd hw (k := 6) rfl) (by decide) (by decide) at_330 rfl ?_
                        intro T227 h227 x227 g227 P227 E227 A227 D227 U227
                        refine W.g_dup (pc1 := 334) P227.q at_333 rfl rfl ?_
                        refine W.g_iconst (pc1 := 335) (v := (3 : Int32)) P227.q at_334 (by decide) rfl ?_
                        have Fv227 : Fld Z h227 x227 "java/lang/String" "value" "[B" .null := D227 (Or.inr (wd hw (k := 33) rfl)) (ty := .array .byte) (by decide)
                        have Fc227 : Fld Z h227 x227 "java/lang/String" "coder" "B" (.int 0) := D227 (Or.inr (wd hw (k := 31) rfl)) (ty := .byte) (by decide)
                        have Sx227 := Safe.ext (EL := ownEL) E227 P226.chv (Safe.new (Nat.le_of_eq g227.symm))
                        refine P227.newP (pc1 := 337) (cap := 3) (wd hw (k := 7) rfl) (by decide) (by decide) (by decide) (by decide) (by decide) at_335 rfl ?_
                        intro T228 h228 x228 k228 g228 P228 E228 V228
                        have hne228 : x227 ≠ x228 := Nat.ne_of_lt (by rw [g228]; exact A227.lt)
                        have Ex228 := A227.ext E228
                        have Fv228 := Fv227.ext E228
                        have Fc228 := Fc227.ext E228
                        have Sx228 := Safe.ext E228 P227.chv Sx227
                        have G228 : W.Arg Z h228 x228 k228 .char 3 (fun _ => 0) := W.Arg.new (by decide) V228
                        have Q228 := W.Ext.trans E227 E228
                        refine W.g_dup (pc1 := 338) P228.q at_337 rfl rfl ?_
                        refine W.g_iconst (pc1 := 339) (v := (0 : Int32)) P228.q at_338 (by decide) rfl ?_
                        refine W.g_iload (pc1 := 341) P228.q at_339 rfl rfl ?_
                        refine P228.stCg (pc1 := 342) (x := c6) G228 (i := 0) (by decide) (Or.inr (by rw [g228]; exact P227.sz)) (W.Arg.safe P228.al G228 (by decide)) at_341 rfl ?_
                        intro T229 h229 P229 W229 G229
                        have Ex229 := Ex228.wr W229
                        have Fv229 := Fv228.other W229 (Or.inl hne228)
                        have Fc229 := Fc228.other W229 (Or.inl hne228)
                        have Sx229 := Safe.wr W229 (W.Arg.safe P228.al G228 (by decide)) P228.chv Sx228
                        have Q229 := W.Ext.wrNew Q228 W229 (by rw [g228]; exact E227.1)
                        refine W.g_dup (pc1 := 343) P229.q at_342 rfl rfl ?_
                        refine W.g_iconst (pc1 := 344) (v := (1 : Int32)) P229.q at_343 (by decide) rfl ?_
                        refine W.g_iload (pc1 := 346) P229.q at_344 rfl rfl ?_
                        refine P229.stCg (pc1 := 347) (x := c7) G229 (i := 1) (by decide) (Or.inr (by rw [g228]; exact P227.sz)) (W.Arg.safe P229.al G229 (by decide)) at_346 rfl ?_
                        intro T230 h230 P230 W230 G230
                        have Ex230 := Ex229.wr W230
                        have Fv230 := Fv229.other W230 (Or.inl hne228)
                        have Fc230 := Fc229.other W230 (Or.inl hne228)
                        have Sx230 := Safe.wr W230 (W.Arg.safe P229.al G229 (by decide)) P229.chv Sx229
                        have Q230 := W.Ext.wrNew Q229 W230 (by rw [g228]; exact E227.1)
                        refine W.g_dup (pc1 := 348) P230.q at_347 rfl rfl ?_
                        refine W.g_iconst (pc1 := 349) (v := (2 : Int32)) P230.q at_348 (by decide) rfl ?_
                        refine W.g_bipush (pc1 := 351) (v := (10 : Int32)) P230.q at_349 (by decide) rfl ?_
                        refine P230.stCg (pc1 := 352) (x := (10 : Int32)) G230 (i := 2) (by decide) (Or.inr (by rw [g228]; exact P227.sz)) (W.Arg.safe P230.al G230 (by decide)) at_351 rfl ?_
                        intro T231 h231 P231 W231 G231
                        have Ex231 := Ex230.wr W231
                        have Fv231 := Fv230.other W231 (Or.inl hne228)
                        have Fc231 := Fc230.other W231 (Or.inl hne228)
                        have Sx231 := Safe.wr W231 (W.Arg.safe P230.al G230 (by decide)) P230.chv Sx230
                        have Q231 := W.Ext.wrNew Q230 W231 (by rw [g228]; exact E227.1)
                        have VL231 : Arv Z h231 x228 k228 .char 3 (([c6, c7, (10 : Int32)] : List Int32).map Value.int) (.int 0) := W.Arg.list G231 rfl (fun i hi => match i, hi with | 0, _ => own_narc (b6).ch | 1, _ => own_narc (b7).ch | 2, _ => own_narc (own_by10).ch | k + 3, hk => absurd hk (Nat.not_lt.mpr (Nat.le_add_left _ _)))
                        have hp231 : ∀ c ∈ ([c6, c7, (10 : Int32)] : List Int32), ¬ c < 0 ∧ ¬ (255 : Int32) < c := (List.forall_mem_cons.mpr ⟨b6, (List.forall_mem_cons.mpr ⟨b7, (List.forall_mem_cons.mpr ⟨own_by10, (fun c hc => absurd hc (List.not_mem_nil))⟩)⟩)⟩)
                        refine P231.callN (pc1 := 355) rfl (wd hw (k := 8) rfl) (wd hw (k := 9) rfl) (wd hw (k := 10) rfl) (by decide) (StrChars.Road.backV (W := 1) P231.hz hws (kI := 4) (wd hw (k := 5) rfl) (cs := [c6, c7, (10 : Int32)]) (bs := ([c6, c7, (10 : Int32)]).map (fun c => c.toInt8.toInt32)) (n := 3) (n0 := h0.size) (by rw [g227]; exact P226.sz) P231.sz Ex231 Fv231 Fc231 VL231 (US.2.1.ext (P231.extZ EZ all0)) US.1 rfl rfl (by decide) (by decide) hp231 rfl (by decide) (by decide)) (argsL := [(.ref x228)]) (st0 := [(.ref x227)]) (lenOf pd_AC_R_V rfl) rfl rfl (Nat.le_of_eq rfl) (by rw [hml]; rfl) (by decide) (by decide) (fun _ _ _ q => ⟨W.Frw.of_fr q.2.1 (Nat.le_refl _), CHr.keep q.2.2.1 (sfS Sx231 sf0) P231.chv⟩) at_352 rfl ?_
                        intro v232 T232 h232 L232 q232 P232
                        obtain ⟨rfl, f232, K232, A232, C232, t232, k232, b232, c232, d232, F232, V232⟩ := q232
                        show W.Go p.tables e below _ (T232.setTop (mkF m 355 #[.val (.int dd), .val (.int sn), .val (.int gg), .val (.int fl), .val (.int nu), .val (.int ts), .val (.int c6), .val (.int c7), .val (.int c8), .val (.int c9), .val (.int c10), .val (.int c11), .val (.int (0 : Int32)), .val (.int (1 : Int32)), .val (.int (1 : Int32)), .val (.int (1 : Int32)), .val (.int q16), .val (.ref ty), .val (.ref x189), .val (.ref x194), .val (.ref yg), .val (.ref o), .val (.ref x199), .val (.ref ds), .val (.ref y226), .val (.int c6), .val (.int c7), .unset] [(.ref x227)]))
                        have S232 : W.Str Z h232 x227 [c6, c7, (10 : Int32)] := ⟨t232, k232, _, _, _, A232, F232, C232, V232, StrChars.Road.codOf (cs := [c6, c7, (10 : Int32)]) (n := 3) rfl (fun c hc => (hp231 c hc).2), fun c hc => ⟨(hp231 c hc).1, own_up (hp231 c hc).2⟩, Nat.le_of_ble_eq_true rfl⟩
                        have Q232 := W.Ext.keepNew Q231 K232 (allS (Nat.le_of_eq g227.symm) all0)
                        refine W.g_astore (pc1 := 357) (ls2 := #[.val (.int dd), .val (.int sn), .val (.int gg), .val (.int fl), .val (.int nu), .val (.int ts), .val (.int c6), .val (.int c7), .val (.int c8), .val (.int c9), .val (.int c10), .val (.int c11), .val (.int (0 : Int32)), .val (.int (1 : Int32)), .val (.int (1 : Int32)), .val (.int (1 : Int32)), .val (.int q16), .val (.ref ty), .val (.ref x189), .val (.ref x194), .val (.ref yg), .val (.ref o), .val (.ref x199), .val (.ref ds), .val (.ref y226), .val (.int c6), .val (.int c7), .val (.ref x227)]) P232.q at_355 rfl rfl rfl ?_
                        refine W.g_goto (pc1 := 422) P232.q at_357 (by decide) rfl ?_
                        refine W.g_aload (pc1 := 424) P232.q at_422 rfl rfl rfl ?_
                        refine W.g_aload (pc1 := 426) P232.q at_424 rfl rfl rfl ?_
                        refine P232.callV (pc1 := 429) (Y226.ext Q232).exa (wd hw (k := 70) rfl) (wd hw (k := 71) rfl) (wd hw (k := 73) rfl) (wd hw (k := 72) rfl) (notFace_of_selects (args := #[]) (mvT P232.hz (wd hw (k := 73) rfl))) (by decide) (W.Str.eqPay (k := 0) P232.hz hwq (wd hw (k := 5) rfl) (Y226.ext Q232) S232 (US.2.1.ext (P232.extZ EZ all0)) US.1 (by decide) (by decide)) (argsL := [(.ref x227)]) (st0 := []) (lenOf pd_Ljava_lang_Object_R_Z rfl) rfl rfl (Nat.le_of_eq rfl) (by rw [hml]; rfl) (by decide) (by decide) (W.QEq.ok P232.chv) at_426 rfl ?_
                        intro v233 T233 h233 L233 q233 P233
                        obtain ⟨hq233, rfl, rfl⟩ := q233
                        rcases hq233 with ⟨rfl, cq233⟩ | ⟨rfl, cq233⟩
                        · exact P233.retVW hEL hlk hret (Or.inl rfl) at_429 (by decide) (by decide) ⟨rfl, P233.fr⟩
                        · exact absurd rfl cq233
                · show W.Go p.tables e below _ (T200.setTop (mkF m 262 #[.val (.int dd), .val (.int sn), .val (.int gg), .val (.int fl), .val (.int nu), .val (.int ts), .val (.int c6), .val (.int c7), .val (.int c8), .val (.int c9), .val (.int c10), .val (.int c11), .val (.int (1 : Int32)), .val (.int b_13), .val (.int b_14), .val (.int b_15), .val (.int q16), .val (.ref ty), .val (.ref x189), .val (.ref x194), .val (.ref yg), .val (.ref o), .val (.ref x199), .unset, .unset, .unset, .unset, .unset] [(.int (1 : Int32))]))
                  refine W.g_ifN (pc2 := 265) P200.q at_262 rfl (by decide) ?_
                  refine P200.getS (pc1 := 268) (wd hw (k := 61) rfl) Via.refl (SN.2.2.2.1) at_265 rfl ?_
                  intro T234 P234
                  refine W.g_goto (pc1 := 274) P234.q at_268 (by decide) rfl ?_
                  refine W.g_astore (pc1 := 276) (ls2 := #[.val (.int dd), .val (.int sn), .val (.int gg), .val (.int fl), .val (.int nu), .val (.int ts), .val (.int c6), .val (.int c7), .val (.int c8), .val (.int c9), .val (.int c10), .val (.int c11), .val (.int (1 : Int32)), .val (.int b_13), .val (.int b_14), .val (.int b_15), .val (.int q16), .val (.ref ty), .val (.ref x189), .val (.ref x194), .val (.ref yg), .val (.ref o), .val (.ref x199), .val (.ref sm), .unset, .unset, .unset, .unset]) P234.q at_274 rfl rfl rfl ?_
                  refine W.g_aload (pc1 := 278) P234.q at_276 rfl rfl rfl ?_
                  refine W.g_aload (pc1 := 280) P234.q at_278 rfl rfl rfl ?_
                  refine W.g_iload (pc1 := 282) P234.q at_280 rfl rfl ?_
                  rcases hb_13 with rfl | rfl
                  · show W.Go p.tables e below _ (T234.setTop (mkF m 282 #[.val (.int dd), .val (.int sn), .val (.int gg), .val (.int fl), .val (.int nu), .val (.int ts), .val (.int c6), .val (.int c7), .val (.int c8), .val (.int c9), .val (.int c10), .val (.int c11), .val (.int (1 : Int32)), .val (.int (0 : Int32)), .val (.int b_14), .val (.int b_15), .val (.int q16), .val (.ref ty), .val (.ref x189), .val (.ref x194), .val (.ref yg), .val (.ref o), .val (.ref x199), .val (.ref sm), .unset, .unset, .unset, .unset] [(.int (0 : Int32)), (.ref sm), (.ref x199)]))
                    refine P234.callV (pc1 := 285) U200.1 (wd hw (k := 64) rfl) (wd hw (k := 65) rfl) (wd hw (k := 67) rfl) (wd hw (k := 66) rfl) (notFace_of_selects (args := #[]) (mvT P234.hz (wd hw (k := 67) rfl))) (by decide) (W.MetN.pay (W := 0) (c_q0 l Z a0 hw x199 x189 x194 o sm sm x194 _ h200 U200 Eo2 Fo2 (SN.2.2.2.1) (Or.inl ⟨rfl, rfl⟩) 0 (Or.inl rfl)) P234 (wd hw (k := 68) rfl) (wd hw (k := 41) rfl) (by decide) (by decide)) (argsL := [(.ref sm), (.int (0 : Int32))]) (st0 := []) (lenOf pd_Lcom_example_triage_triage_search_CaseTopics_NarrativeZ_R_Ljava_lang_String rfl) rfl rfl (Nat.le_of_eq rfl) (by rw [hml]; rfl) (by decide) (by decide) (W.Pure.ok P234.chv) at_282 rfl ?_
                    intro v235 T235 h235 L235 q235 P235
                    obtain ⟨rfl, rfl, rfl⟩ := q235
                    show W.Go p.tables e below _ (T235.setTop (mkF m 285 #[.val (.int dd), .val (.int sn), .val (.int gg), .val (.int fl), .val (.int nu), .val (.int ts), .val (.int c6), .val (.int c7), .val (.int c8), .val (.int c9), .val (.int c10), .val (.int c11), .val (.int (1 : Int32)), .val (.int (0 : Int32)), .val (.int b_14), .val (.int b_15), .val (.int q16), .val (.ref ty), .val (.ref x189), .val (.ref x194), .val (.ref yg), .val (.ref o), .val (.ref x199), .val (.ref sm), .unset, .unset, .unset, .unset] [(.ref x194)]))
                    refine W.g_astore (pc1 := 287) (ls2 := #[.val (.int dd), .val (.int sn), .val (.int gg), .val (.int fl), .val (.int nu), .val (.int ts), .val (.int c6), .val (.int c7), .val (.int c8), .val (.int c9), .val (.int c10), .val (.int c11), .val (.int (1 : Int32)), .val (.int (0 : Int32)), .val (.int b_14), .val (.int b_15), .val (.int q16), .val (.ref ty), .val (.ref x189), .val (.ref x194), .val (.ref yg), .val (.ref o), .val (.ref x199), .val (.ref sm), .val (.ref x194), .unset, .unset, .unset]) P235.q at_285 rfl rfl rfl ?_
                    refine W.g_iload (pc1 := 289) P235.q at_287 rfl rfl ?_
                    refine W.g_ifN (pc2 := 292) P235.q at_289 rfl (by decide) ?_
                    refine W.g_iload (pc1 := 294) P235.q at_292 rfl rfl ?_
                    refine W.g_goto (pc1 := 299) P235.q at_294 (by decide) rfl ?_
                    refine W.g_istore (pc1 := 301) (ls2 := #[.val (.int dd), .val (.int sn), .val (.int gg), .val (.int fl), .val (.int nu), .val (.int ts), .val (.int c6), .val (.int c7), .val (.int c8), .val (.int c9), .val (.int c10), .val (.int c11), .val (.int (1 : Int32)), .val (.int (0 : Int32)), .val (.int b_14), .val (.int b_15), .val (.int q16), .val (.ref ty), .val (.ref x189), .val (.ref x194), .val (.ref yg), .val (.ref o), .val (.ref x199), .val (.ref sm), .val (.ref x194), .val (.int c8), .unset, .unset]) P235.q at_299 rfl rfl ?_
                    refine W.g_iload (pc1 := 303) P235.q at_301 rfl rfl ?_
                    refine W.g_ifN (pc2 := 306) P235.q at_303 rfl (by decide) ?_
                    refine W.g_iload (pc1 := 308) P235.q at_306 rfl rfl ?_
                    refine W.g_goto (pc1 := 313) P235.q at_308 (by decide) rfl ?_
                    refine W.g_istore (pc1 := 315) (ls2 := #[.val (.int dd), .val (.int sn), .val (.int gg), .val (.int fl), .val (.int nu), .val (.int ts), .val (.int c6), .val (.int c7), .val (.int c8), .val (.int c9), .val (.int c10), .val (.int c11), .val (.int (1 : Int32)), .val (.int (0 : Int32)), .val (.int b_14), .val (.int b_15), .val (.int q16), .val (.ref ty), .val (.ref x189), .val (.ref x194), .val (.ref yg), .val (.ref o), .val (.ref x199), .val (.ref sm), .val (.ref x194), .val (.int c8), .val (.int c9), .unset]) P235.q at_313 rfl rfl ?_
                    refine W.g_iload (pc1 := 317) P235.q at_315 rfl rfl ?_
                    refine W.g_ifY (pc1 := 400) P235.q at_317 (by decide) rfl (by decide) ?_
                    refine P235.newO (pc1 := 403) (wd hw (k := 4) rfl) (wd hw (k := 5) rfl) (wd hw (k := 6) rfl) (by decide) (by decide) at_400 rfl ?_
                    intro T236 h236 x236 g236 P236 E236 A236 D236 U236
                    refine W.g_dup (pc1 := 404) P236.q at_403 rfl rfl ?_
                    refine W.g_iconst (pc1 := 405) (v := (2 : Int32)) P236.q at_404 (by decide) rfl ?_
                    have Fv236 : Fld Z h236 x236 "java/lang/String" "value" "[B" .null := D236 (Or.inr (wd hw (k := 33) rfl)) (ty := .array .byte) (by decide)
                    have Fc236 : Fld Z h236 x236 "java/lang/String" "coder" "B" (.int 0) := D236 (Or.inr (wd hw (k := 31) rfl)) (ty := .byte) (by decide)
                    have Sx236 := Safe.ext (EL := ownEL) E236 P235.chv (Safe.new (Nat.le_of_eq g236.symm))
                    refine P236.newP (pc1 := 407) (cap := 2) (wd hw (k := 7) rfl) (by decide) (by decide) (by decide) (by decide) (by decide) at_405 rfl ?_
                    intro T237 h237 x237 k237 g237 P237 E237 V237
                    have hne237 : x236 ≠ x237 := Nat.ne_of_lt (by rw [g237]; exact A236.lt)
                    have Ex237 := A236.ext E237
                    have Fv237 := Fv236.ext E237
                    have Fc237 := Fc236.ext E237
                    have Sx237 := Safe.ext E237 P236.chv Sx236
                    have G237 : W.Arg Z h237 x237 k237 .char 2 (fun _ => 0) := W.Arg.new (by decide) V237
                    have Q237 := W.Ext.trans E236 E237
                    refine W.g_dup (pc1 := 408) P237.q at_407 rfl rfl ?_
                    refine W.g_iconst (pc1 := 409) (v := (0 : Int32)) P237.q at_408 (by decide) rfl ?_
                    refine W.g_iload (pc1 := 411) P237.q at_409 rfl rfl ?_
                    refine P237.stCg (pc1 := 412) (x := c8) G237 (i := 0) (by decide) (Or.inr (by rw [g237]; exact P236.sz)) (W.Arg.safe P237.al G237 (by decide)) at_411 rfl ?_
                    intro T238 h238 P238 W238 G238
                    have Ex238 := Ex237.wr W238
                    have Fv238 := Fv237.other W238 (Or.inl hne237)
                    have Fc238 := Fc237.other W238 (Or.inl hne237)
                    have Sx238 := Safe.wr W238 (W.Arg.safe P237.al G237 (by decide)) P237.chv Sx237
                    have Q238 := W.Ext.wrNew Q237 W238 (by rw [g237]; exact E236.1)
                    refine W.g_dup (pc1 := 413) P238.q at_412 rfl rfl ?_
                    refine W.g_iconst (pc1 := 414) (v := (1 : Int32)) P238.q at_413 (by decide) rfl ?_
                    refine W.g_iload (pc1 := 416) P238.q at_414 rfl rfl ?_
                    refine P238.stCg (pc1 := 417) (x := c9) G238 (i := 1) (by decide) (Or.inr (by rw [g237]; exact P236.sz)) (W.Arg.safe P238.al G238 (by decide)) at_416 rfl ?_
                    intro T239 h239 P239 W239 G239
                    have Ex239 := Ex238.wr W239
                    have Fv239 := Fv238.other W239 (Or.inl hne237)
                    have Fc239 := Fc238.other W239 (Or.inl hne237)
                    have Sx239 := Safe.wr W239 (W.Arg.safe P238.al G238 (by decide)) P238.chv Sx238
                    have Q239 := W.Ext.wrNew Q238 W239 (by rw [g237]; exact E236.1)
                    have VL239 : Arv Z h239 x237 k237 .char 2 (([c8, c9] : List Int32).map Value.int) (.int 0) := W.Arg.list G239 rfl (fun i hi => match i, hi with | 0, _ => own_narc (b8).ch | 1, _ => own_narc (b9).ch | k + 2, hk => absurd hk (Nat.not_lt.mpr (Nat.le_add_left _ _)))
                    have hp239 : ∀ c ∈ ([c8, c9] : List Int32), ¬ c < 0 ∧ ¬ (255 : Int32) < c := (List.forall_mem_cons.mpr ⟨b8, (List.forall_mem_cons.mpr ⟨b9, (fun c hc => absurd hc (List.not_mem_nil))⟩)⟩)
                    refine P239.callN (pc1 := 420) rfl (wd hw (k := 8) rfl) (wd hw (k := 9) rfl) (wd hw (k := 10) rfl) (by decide) (StrChars.Road.backV (W := 1) P239.hz hws (kI := 4) (wd hw (k := 5) rfl) (cs := [c8, c9]) (bs := ([c8, c9]).map (fun c => c.toInt8.toInt32)) (n := 2) (n0 := h0.size) (by rw [g236]; exact P235.sz) P239.sz Ex239 Fv239 Fc239 VL239 (US.2.1.ext (P239.extZ EZ all0)) US.1 rfl rfl (by decide) (by decide) hp239 rfl (by decide) (by decide)) (argsL := [(.ref x237)]) (st0 := [(.ref x236)]) (lenOf pd_AC_R_V rfl) rfl rfl (Nat.le_of_eq rfl) (by rw [hml]; rfl) (by decide) (by decide) (fun _ _ _ q => ⟨W.Frw.of_fr q.2.1 (Nat.le_refl _), CHr.keep q.2.2.1 (sfS Sx239 sf0) P239.chv⟩) at_417 rfl ?_
                    intro v240 T240 h240 L240 q240 P240
                    obtain ⟨rfl, f240, K240, A240, C240, t240, k240, b240, c240, d240, F240, V240⟩ := q240
                    show W.Go p.tables e below _ (T240.setTop (mkF m 420 #[.val (.int dd), .val (.int sn), .val (.int gg), .val (.int fl), .val (.int nu), .val (.int ts), .val (.int c6), .val (.int c7), .val (.int c8), .val (.int c9), .val (.int c10), .val (.int c11), .val (.int (1 : Int32)), .val (.int (0 : Int32)), .val (.int b_14), .val (.int b_15), .val (.int q16), .val (.ref ty), .val (.ref x189), .val (.ref x194), .val (.ref yg), .val (.ref o), .val (.ref x199), .val (.ref sm), .val (.ref x194), .val (.int c8), .val (.int c9), .unset] [(.ref x236)]))
                    have S240 : W.Str Z h240 x236 [c8, c9] := ⟨t240, k240, _, _, _, A240, F240, C240, V240, StrChars.Road.codOf (cs := [c8, c9]) (n := 2) rfl (fun c hc => (hp239 c hc).2), fun c hc => ⟨(hp239 c hc).1, own_up (hp239 c hc).2⟩, Nat.le_of_ble_eq_true rfl⟩
                    have Q240 := W.Ext.keepNew Q239 K240 (allS (Nat.le_of_eq g236.symm) all0)
                    refine W.g_astore (pc1 := 422) (ls2 := #[.val (.int dd), .val (.int sn), .val (.int gg), .val (.int fl), .val (.int nu), .val (.int ts), .val (.int c6), .val (.int c7), .val (.int c8), .val (.int c9), .val (.int c10), .val (.int c11), .val (.int (1 : Int32)), .val (.int (0 : Int32)), .val (.int b_14), .val (.int b_15), .val (.int q16), .val (.ref ty), .val (.ref x189), .val (.ref x194), .val (.ref yg), .val (.ref o), .val (.ref x199), .val (.ref sm), .val (.ref x194), .val (.int c8), .val (.int c9), .val (.ref x236)]) P240.q at_420 rfl rfl rfl ?_
                    refine W.g_aload (pc1 := 424) P240.q at_422 rfl rfl rfl ?_
                    refine W.g_aload (pc1 := 426) P240.q at_424 rfl rfl rfl ?_
                    refine P240.callV (pc1 := 429) (SS2.ext Q240).exa (wd hw (k := 70) rfl) (wd hw (k := 71) rfl) (wd hw (k := 73) rfl) (wd hw (k := 72) rfl) (notFace_of_selects (args := #[]) (mvT P240.hz (wd hw (k := 73) rfl))) (by decide) (W.Str.eqPay (k := 0) P240.hz hwq (wd hw (k := 5) rfl) (SS2.ext Q240) S240 (US.2.1.ext (P240.extZ EZ all0)) US.1 (by decide) (by decide)) (argsL := [(.ref x236)]) (st0 := []) (lenOf pd_Ljava_lang_Object_R_Z rfl) rfl rfl (Nat.le_of_eq rfl) (by rw [hml]; rfl) (by decide) (by decide) (W.QEq.ok P240.chv) at_426 rfl ?_
                    intro v241 T241 h241 L241 q241 P241
                    obtain ⟨hq241, rfl, rfl⟩ := q241
                    rcases hq241 with ⟨rfl, cq241⟩ | ⟨rfl, cq241⟩
                    · exact P241.retVW hEL hlk hret (Or.inl rfl) at_429 (by decide) (by decide) ⟨rfl, P241.fr⟩
                    · exact absurd rfl cq241
                  · show W.Go p.tables e below _ (T234.setTop (mkF m 282 #[.val (.int dd), .val (.int sn), .val (.int gg), .val (.int fl), .val (.int nu), .val (.int ts), .val (.int c6), .val (.int c7), .val (.int c8), .val (.int c9), .val (.int c10), .val (.int c11), .val (.int (1 : Int32)), .val (.int (1 : Int32)), .val (.int b_14), .val (.int b_15), .val (.int q16), .val (.ref ty), .val (.ref x189), .val (.ref x194), .val (.ref yg), .val (.ref o), .val (.ref x199), .val (.ref sm), .unset, .unset, .unset, .unset] [(.int (1 : Int32)), (.ref sm), (.ref x199)]))
                    rcases hdv with ⟨rfl, rfl⟩ | ⟨h14, rfl⟩
                    · show W.Go p.tables e below _ (T234.setTop (mkF m 282 #[.val (.int dd), .val (.int sn), .val (.int gg), .val (.int fl), .val (.int nu), .val (.int ts), .val (.int c6), .val (.int c7), .val (.int c8), .val (.int c9), .val (.int c10), .val (.int c11), .val (.int (1 : Int32)), .val (.int (1 : Int32)), .val (.int (0 : Int32)), .val (.int b_15), .val (.int q16), .val (.ref ty), .val (.ref x189), .val (.ref x194), .val (.ref yg), .val (.ref o), .val (.ref x199), .val (.ref sm), .unset, .unset, .unset, .unset] [(.int (1 : Int32)), (.ref sm), (.ref x199)]))
                      refine P234.callV (pc1 := 285) U200.1 (wd hw (k := 64) rfl) (wd hw (k := 65) rfl) (wd hw (k := 67) rfl) (wd hw (k := 66) rfl) (notFace_of_selects (args := #[]) (mvT P234.hz (wd hw (k := 67) rfl))) (by decide) (W.MetN.pay (W := 0) (c_q0 l Z a0 hw x199 x189 x194 o sm sm x194 _ h200 U200 Eo2 Fo2 (SN.2.2.2.1) (Or.inl ⟨rfl, rfl⟩) 1 (Or.inr rfl)) P234 (wd hw (k := 68) rfl) (wd hw (k := 41) rfl) (by decide) (by decide)) (argsL := [(.ref sm), (.int (1 : Int32))]) (st0 := []) (lenOf pd_Lcom_example_triage_triage_search_CaseTopics_NarrativeZ_R_Ljava_lang_String rfl) rfl rfl (Nat.le_of_eq rfl) (by rw [hml]; rfl) (by decide) (by decide) (W.Pure.ok P234.chv) at_282 rfl ?_
                      intro v242 T242 h242 L242 q242 P242
                      obtain ⟨rfl, rfl, rfl⟩ := q242
                      show W.Go p.tables e below _ (T242.setTop (mkF m 285 #[.val (.int dd), .val (.int sn), .val (.int gg), .val (.int fl), .val (.int nu), .val (.int ts), .val (.int c6), .val (.int c7), .val (.int c8), .val (.int c9), .val (.int c10), .val (.int c11), .val (.int (1 : Int32)), .val (.int (1 : Int32)), .val (.int (0 : Int32)), .val (.int b_15), .val (.int q16), .val (.ref ty), .val (.ref x189), .val (.ref x194), .val (.ref yg), .val (.ref o), .val (.ref x199), .val (.ref sm), .unset, .unset, .unset, .unset] [(.ref x194)]))
                      refine W.g_astore (pc1 := 287) (ls2 := #[.val (.int dd), .val (.int sn), .val (.int gg), .val (.int fl), .val (.int nu), .val (.int ts), .val (.int c6), .val (.int c7), .val (.int c8), .val (.int c9), .val (.int c10), .val (.int c11), .val (.int (1 : Int32)), .val (.int (1 : Int32)), .val (.int (0 : Int32)), .val (.int b_15), .val (.int q16), .val (.ref ty), .val (.ref x189), .val (.ref x194), .val (.ref yg), .val (.ref o), .val (.ref x199), .val (.ref sm), .val (.ref x194), .unset, .unset, .unset]) P242.q at_285 rfl rfl rfl ?_
                      refine W.g_iload (pc1 := 289) P242.q at_287 rfl rfl ?_
                      refine W.g_ifN (pc2 := 292) P242.q at_289 rfl (by decide) ?_
                      refine W.g_iload (pc1 := 294) P242.q at_292 rfl rfl ?_
                      refine W.g_goto (pc1 := 299) P242.q at_294 (by decide) rfl ?_
                      refine W.g_istore (pc1 := 301) (ls2 := #[.val (.int dd), .val (.int sn), .val (.int gg), .val (.int fl), .val (.int nu), .val (.int ts), .val (.int c6), .val (.int c7), .val (.int c8), .val (.int c9), .val (.int c10), .val (.int c11), .val (.int (1 : Int32)), .val (.int (1 : Int32)), .val (.int (0 : Int32)), .val (.int b_15), .val (.int q16), .val (.ref ty), .val (.ref x189), .val (.ref x194), .val (.ref yg), .val (.ref o), .val (.ref x199), .val (.ref sm), .val (.ref x194), .val (.int c8), .unset, .unset]) P242.q at_299 rfl rfl ?_
                      refine W.g_iload (pc1 := 303) P242.q at_301 rfl rfl ?_
                      refine W.g_ifN (pc2 := 306) P242.q at_303 rfl (by decide) ?_
                      refine W.g_iload (pc1 := 308) P242.q at_306 rfl rfl ?_
                      refine W.g_goto (pc1 := 313) P242.q at_308 (by decide) rfl ?_
                      refine W.g_istore (pc1 := 315) (ls2 := #[.val (.int dd), .val (.int sn), .val (.int gg), .val (.int fl), .val (.int nu), .val (.int ts), .val (.int c6), .val (.int c7), .val (.int c8), .val (.int c9), .val (.int c10), .val (.int c11), .val (.int (1 : Int32)), .val (.int (1 : Int32)), .val (.int (0 : Int32)), .val (.int b_15), .val (.int q16), .val (.ref ty), .val (.ref x189), .val (.ref x194), .val (.ref yg), .val (.ref o), .val (.ref x199), .val (.ref sm), .val (.ref x194), .val (.int c8), .val (.int c9), .unset]) P242.q at_313 rfl rfl ?_
                      refine W.g_iload (pc1 := 317) P242.q at_315 rfl rfl ?_
                      refine W.g_ifN (pc2 := 320) P242.q at_317 rfl (by decide) ?_
                      refine W.g_iload (pc1 := 322) P242.q at_320 rfl rfl ?_
                      refine W.g_ifY (pc1 := 400) P242.q at_322 (by decide) rfl (by decide) ?_
                      refine P242.newO (pc1 := 403) (wd hw (k := 4) rfl) (wd hw (k := 5) rfl) (wd hw (k := 6) rfl) (by decide) (by decide) at_400 rfl ?_
                      intro T243 h243 x243 g243 P243 E243 A243 D243 U243
                      refine W.g_dup (pc1 := 404) P243.q at_403 rfl rfl ?_
                      refine W.g_iconst (pc1 := 405) (v := (2 : Int32)) P243.q at_404 (by decide) rfl ?_
                      have Fv243 : Fld Z h243 x243 "java/lang/String" "value" "[B" .null := D243 (Or.inr (wd hw (k := 33) rfl)) (ty := .array .byte) (by decide)
                      have Fc243 : Fld Z h243 x243 "java/lang/String" "coder" "B" (.int 0) := D243 (Or.inr (wd hw (k := 31) rfl)) (ty := .byte) (by decide)
                      have Sx243 := Safe.ext (EL := ownEL) E243 P242.chv (Safe.new (Nat.le_of_eq g243.symm))
                      refine P243.newP (pc1 := 407) (cap := 2) (wd hw (k := 7) rfl) (by decide) (by decide) (by decide) (by decide) (by decide) at_405 rfl ?_
                      intro T244 h244 x244 k244 g244 P244 E244 V244
                      have hne244 : x243 ≠ x244 := Nat.ne_of_lt (by rw [g244]; exact A243.lt)
                      have Ex244 := A243.ext E244
                      have Fv244 := Fv243.ext E244
                      have Fc244 := Fc243.ext E244
                      have Sx244 := Safe.ext E244 P243.chv Sx243
                      have G244 : W.Arg Z h244 x244 k244 .char 2 (fun _ => 0) := W.Arg.new (by decide) V244
                      have Q244 := W.Ext.trans E243 E244
                      refine W.g_dup (pc1 := 408) P244.q at_407 rfl rfl ?_
                      refine W.g_iconst (pc1 := 409) (v := (0 : Int32)) P244.q at_408 (by decide) rfl ?_
                      refine W.g_iload (pc1 := 411) P244.q at_409 rfl rfl ?_
                      refine P244.stCg (pc1 := 412) (x := c8) G244 (i := 0) (by decide) (Or.inr (by rw [g244]; exact P243.sz)) (W.Arg.safe P244.al G244 (by decide)) at_411 rfl ?_
                      intro T245 h245 P245 W245 G245
                      have Ex245 := Ex244.wr W245
                      have Fv245 := Fv244.other W245 (Or.inl hne244)
                      have Fc245 := Fc244.other W245 (Or.inl hne244)
                      have Sx245 := Safe.wr W245 (W.Arg.safe P244.al G244 (by decide)) P244.chv Sx244
                      have Q245 := W.Ext.wrNew Q244 W245 (by rw [g244]; exact E243.1)
                      refine W.g_dup (pc1 := 413) P245.q at_412 rfl rfl ?_
                      refine W.g_iconst (pc1 := 414) (v := (1 : Int32)) P245.q at_413 (by decide) rfl ?_
                      refine W.g_iload (pc1 := 416) P245.q at_414 rfl rfl ?_
                      refine P245.stCg (pc1 := 417) (x := c9) G245 (i := 1) (by decide) (Or.inr (by rw [g244]; exact P243.sz)) (W.Arg.safe P245.al G245 (by decide)) at_416 rfl ?_
                      intro T246 h246 P246 W246 G246
                      have Ex246 := Ex245.wr W246
                      have Fv246 := Fv245.other W246 (Or.inl hne244)
                      have Fc246 := Fc245.other W246 (Or.inl hne244)
                      have Sx246 := Safe.wr W246 (W.Arg.safe P245.al G245 (by decide)) P245.chv Sx245
                      have Q246 := W.Ext.wrNew Q245 W246 (by rw [g244]; exact E243.1)
                      have VL246 : Arv Z h246 x244 k244 .char 2 (([c8, c9] : List Int32).map Value.int) (.int 0) := W.Arg.list G246 rfl (fun i hi => match i, hi with | 0, _ => own_narc (b8).ch | 1, _ => own_narc (b9).ch | k + 2, hk => absurd hk (Nat.not_lt.mpr (Nat.le_add_left _ _)))
                      have hp246 : ∀ c ∈ ([c8, c9] : List Int32), ¬ c < 0 ∧ ¬ (255 : Int32) < c := (List.forall_mem_cons.mpr ⟨b8, (List.forall_mem_cons.mpr ⟨b9, (fun c hc => absurd hc (List.not_mem_nil))⟩)⟩)
                      refine P246.callN (pc1 := 420) rfl (wd hw (k := 8) rfl) (wd hw (k := 9) rfl) (wd hw (k := 10) rfl) (by decide) (StrChars.Road.backV (W := 1) P246.hz hws (kI := 4) (wd hw (k := 5) rfl) (cs := [c8, c9]) (bs := ([c8, c9]).map (fun c => c.toInt8.toInt32)) (n := 2) (n0 := h0.size) (by rw [g243]; exact P242.sz) P246.sz Ex246 Fv246 Fc246 VL246 (US.2.1.ext (P246.extZ EZ all0)) US.1 rfl rfl (by decide) (by decide) hp246 rfl (by decide) (by decide)) (argsL := [(.ref x244)]) (st0 := [(.ref x243)]) (lenOf pd_AC_R_V rfl) rfl rfl (Nat.le_of_eq rfl) (by rw [hml]; rfl) (by decide) (by decide) (fun _ _ _ q => ⟨W.Frw.of_fr q.2.1 (Nat.le_refl _), CHr.keep q.2.2.1 (sfS Sx246 sf0) P246.chv⟩) at_417 rfl ?_
                      intro v247 T247 h247 L247 q247 P247
                      obtain ⟨rfl, f247, K247, A247, C247, t247, k247, b247, c247, d247, F247, V247⟩ := q247
                      show W.Go p.tables e below _ (T247.setTop (mkF m 420 #[.val (.int dd), .val (.int sn), .val (.int gg), .val (.int fl), .val (.int nu), .val (.int ts), .val (.int c6), .val (.int c7), .val (.int c8), .val (.int c9), .val (.int c10), .val (.int c11), .val (.int (1 : Int32)), .val (.int (1 : Int32)), .val (.int (0 : Int32)), .val (.int b_15), .val (.int q16), .val (.ref ty), .val (.ref x189), .val (.ref x194), .val (.ref yg), .val (.ref o), .val (.ref x199), .val (.ref sm), .val (.ref x194), .val (.int c8), .val (.int c9), .unset] [(.ref x243)]))
                      have S247 : W.Str Z h247 x243 [c8, c9] := ⟨t247, k247, _, _, _, A247, F247, C247, V247, StrChars.Road.codOf (cs := [c8, c9]) (n := 2) rfl (fun c hc => (hp246 c hc).2), fun c hc => ⟨(hp246 c hc).1, own_up (hp246 c hc).2⟩, Nat.le_of_ble_eq_true rfl⟩
                      have Q247 := W.Ext.keepNew Q246 K247 (allS (Nat.le_of_eq g243.symm) all0)
                      refine W.g_astore (pc1 := 422) (ls2 := #[.val (.int dd), .val (.int sn), .val (.int gg), .val (.int fl), .val (.int nu), .val (.int ts), .val (.int c6), .val (.int c7), .val (.int c8), .val (.int c9), .val (.int c10), .val (.int c11), .val (.int (1 : Int32)), .val (.int (1 : Int32)), .val (.int (0 : Int32)), .val (.int b_15), .val (.int q16), .val (.ref ty), .val (.ref x189), .val (.ref x194), .val (.ref yg), .val (.ref o), .val (.ref x199), .val (.ref sm), .val (.ref x194), .val (.int c8), .val (.int c9), .val (.ref x243)]) P247.q at_420 rfl rfl rfl ?_
                      refine W.g_aload (pc1 := 424) P247.q at_422 rfl rfl rfl ?_
                      refine W.g_aload (pc1 := 426) P247.q at_424 rfl rfl rfl ?_
                      refine P247.callV (pc1 := 429) (SS2.ext Q247).exa (wd hw (k := 70) rfl) (wd hw (k := 71) rfl) (wd hw (k := 73) rfl) (wd hw (k := 72) rfl) (notFace_of_selects (args := #[]) (mvT P247.hz (wd hw (k := 73) rfl))) (by decide) (W.Str.eqPay (k := 0) P247.hz hwq (wd hw (k := 5) rfl) (SS2.ext Q247) S247 (US.2.1.ext (P247.extZ EZ all0)) US.1 (by decide) (by decide)) (argsL := [(.ref x243)]) (st0 := []) (lenOf pd_Ljava_lang_Object_R_Z rfl) rfl rfl (Nat.le_of_eq rfl) (by rw [hml]; rfl) (by decide) (by decide) (W.QEq.ok P247.chv) at_426 rfl ?_
                      intro v248 T248 h248 L248 q248 P248
                      obtain ⟨hq248, rfl, rfl⟩ := q248
                      rcases hq248 with ⟨rfl, cq248⟩ | ⟨rfl, cq248⟩
                      · exact P248.retVW hEL hlk hret (Or.inl rfl) at_429 (by decide) (by decide) ⟨rfl, P248.fr⟩
                      · exact absurd rfl cq248
                    · obtain rfl : b_14 = 1 := hb_14.resolve_left h14
                      rcases hb_15 with rfl | rfl
                      · obtain rfl : cg = [c10, c11] := hcg.trans (if_pos rfl)
                        show W.Go p.tables e below _ (T234.setTop (mkF m 282 #[.val (.int dd), .val (.int sn), .val (.int gg), .val (.int fl), .val (.int nu), .val (.int ts), .val (.int c6), .val (.int c7), .val (.int c8), .val (.int c9), .val (.int c10), .val (.int c11), .val (.int (1 : Int32)), .val (.int (1 : Int32)), .val (.int (1 : Int32)), .val (.int (0 : Int32)), .val (.int q16), .val (.ref ty), .val (.ref x189), .val (.ref x194), .val (.ref yg), .val (.ref o), .val (.ref x199), .val (.ref sm), .unset, .unset, .unset, .unset] [(.int (1 : Int32)), (.ref sm), (.ref x199)]))
                        refine P234.callVW (pc1 := 285) U200.1 (wd hw (k := 64) rfl) (wd hw (k := 65) rfl) (wd hw (k := 67) rfl) (wd hw (k := 66) rfl) (notFace_of_selects (args := #[]) (mvT P234.hz (wd hw (k := 67) rfl))) (by decide) (W.MetW.pay (W := 0) (c_q1 l Z a0 hw wS hEL x199 x189 x194 o sm sm x194 yg [c8, c9] [c10, c11] 1 (by decide) h200 U200 Eo2 Fo2 (SN.2.2.2.1) (Or.inl ⟨rfl, rfl⟩) SS2 SG2 (own_by2 b8 b9) (own_by2 b10 b11) (Nat.le_of_ble_eq_true rfl) (P234.extZ EZ all0) zc fm US) P234 hEL all0 (wd hw (k := 68) rfl) (wd hw (k := 41) rfl) (by decide) (by decide)) (argsL := [(.ref sm), (.int (1 : Int32))]) (st0 := []) (lenOf pd_Lcom_example_triage_triage_search_CaseTopics_NarrativeZ_R_Ljava_lang_String rfl) rfl rfl (Nat.le_of_eq rfl) (by rw [hml]; rfl) (by decide) (by decide) (fun _ _ _ q => by obtain ⟨_, _, q2, _⟩ := q; exact q2.up P234.sz all0) at_282 rfl ?_
                        intro v249 T249 h249 L249 q249 P249 R249
                        obtain ⟨y249, rfl, f249, E249, Y249⟩ := q249
                        show W.Go p.tables e below _ (T249.setTop (mkF m 285 #[.val (.int dd), .val (.int sn), .val (.int gg), .val (.int fl), .val (.int nu), .val (.int ts), .val (.int c6), .val (.int c7), .val (.int c8), .val (.int c9), .val (.int c10), .val (.int c11), .val (.int (1 : Int32)), .val (.int (1 : Int32)), .val (.int (1 : Int32)), .val (.int (0 : Int32)), .val (.int q16), .val (.ref ty), .val (.ref x189), .val (.ref x194), .val (.ref yg), .val (.ref o), .val (.ref x199), .val (.ref sm), .unset, .unset, .unset, .unset] [(.ref y249)]))
                        refine W.g_astore (pc1 := 287) (ls2 := #[.val (.int dd), .val (.int sn), .val (.int gg), .val (.int fl), .val (.int nu), .val (.int ts), .val (.int c6), .val (.int c7), .val (.int c8), .val (.int c9), .val (.int c10), .val (.int c11), .val (.int (1 : Int32)), .val (.int (1 : Int32)), .val (.int (1 : Int32)), .val (.int (0 : Int32)), .val (.int q16), .val (.ref ty), .val (.ref x189), .val (.ref x194), .val (.ref yg), .val (.ref o), .val (.ref x199), .val (.ref sm), .val (.ref y249), .unset, .unset, .unset]) P249.q at_285 rfl rfl rfl ?_
                        refine W.g_iload (pc1 := 289) P249.q at_287 rfl rfl ?_
                        refine W.g_ifN (pc2 := 292) P249.q at_289 rfl (by decide) ?_
                        refine W.g_iload (pc1 := 294) P249.q at_292 rfl rfl ?_
                        refine W.g_goto (pc1 := 299) P249.q at_294 (by decide) rfl ?_
                        refine W.g_istore (pc1 := 301) (ls2 := #[.val (.int dd), .val (.int sn), .val (.int gg), .val (.int fl), .val (.int nu), .val (.int ts), .val (.int c6), .val (.int c7), .val (.int c8), .val (.int c9), .val (.int c10), .val (.int c11), .val (.int (1 : Int32)), .val (.int (1 : Int32)), .val (.int (1 : Int32)), .val (.int (0 : Int32)), .val (.int q16), .val (.ref ty), .val (.ref x189), .val (.ref x194), .val (.ref yg), .val (.ref o), .val (.ref x199), .val (.ref sm), .val (.ref y249), .val (.int c8), .unset, .unset]) P249.q at_299 rfl rfl ?_
                        refine W.g_iload (pc1 := 303) P249.q at_301 rfl rfl ?_
                        refine W.g_ifN (pc2 := 306) P249.q at_303 rfl (by decide) ?_
                        refine W.g_iload (pc1 := 308) P249.q at_306 rfl rfl ?_
                        refine W.g_goto (pc1 := 313) P249.q at_308 (by decide) rfl ?_
                        refine W.g_istore (pc1 := 315) (ls2 := #[.val (.int dd), .val (.int sn), .val (.int gg), .val (.int fl), .val (.int nu), .val (.int ts), .val (.int c6), .val (.int c7), .val (.int c8), .val (.int c9), .val (.int c10), .val (.int c11), .val (.int (1 : Int32)), .val (.int (1 : Int32)), .val (.int (1 : Int32)), .val (.int (0 : Int32)), .val (.int q16), .val (.ref ty), .val (.ref x189), .val (.ref x194), .val (.ref yg), .val (.ref o), .val (.ref x199), .val (.ref sm), .val (.ref y249), .val (.int c8), .val (.int c9), .unset]) P249.q at_313 rfl rfl ?_
                        refine W.g_iload (pc1 := 317) P249.q at_315 rfl rfl ?_
                        refine W.g_ifN (pc2 := 320) P249.q at_317 rfl (by decide) ?_
                        refine W.g_iload (pc1 := 322) P249.q at_320 rfl rfl ?_
                        refine W.g_ifN (pc2 := 325) P249.q at_322 rfl (by decide) ?_
                        refine W.g_iload (pc1 := 327) P249.q at_325 rfl rfl ?_
                        refine W.g_ifY (pc1 := 360) P249.q at_327 (by decide) rfl (by decide) ?_
                        refine P249.newO (pc1 := 363) (wd hw (k := 4) rfl) (wd hw (k := 5) rfl) (wd hw (k := 6) rfl) (by decide) (by decide) at_360 rfl ?_
                        intro T250 h250 x250 g250 P250 E250 A250 D250 U250
                        refine W.g_dup (pc1 := 364) P250.q at_363 rfl rfl ?_
                        refine W.g_iconst (pc1 := 365) (v := (5 : Int32)) P250.q at_364 (by decide) rfl ?_
                        have Fv250 : Fld Z h250 x250 "java/lang/String" "value" "[B" .null := D250 (Or.inr (wd hw (k := 33) rfl)) (ty := .array .byte) (by decide)
                        have Fc250 : Fld Z h250 x250 "java/lang/String" "coder" "B" (.int 0) := D250 (Or.inr (wd hw (k := 31) rfl)) (ty := .byte) (by decide)
                        have Sx250 := Safe.ext (EL := ownEL) E250 P249.chv (Safe.new (Nat.le_of_eq g250.symm))
                        refine P250.newP (pc1 := 367) (cap := 5) (wd hw (k := 7) rfl) (by decide) (by decide) (by decide) (by decide) (by decide) at_365 rfl ?_
                        intro T251 h251 x251 k251 g251 P251 E251 V251
                        have hne251 : x250 ≠ x251 := Nat.ne_of_lt (by rw [g251]; exact A250.lt)
                        have Ex251 := A250.ext E251
                        have Fv251 := Fv250.ext E251
                        have Fc251 := Fc250.ext E251
                        have Sx251 := Safe.ext E251 P250.chv Sx250
                        have G251 : W.Arg Z h251 x251 k251 .char 5 (fun _ => 0) := W.Arg.new (by decide) V251
                        have Q251 := W.Ext.trans E250 E251
                        refine W.g_dup (pc1 := 368) P251.q at_367 rfl rfl ?_
                        refine W.g_iconst (pc1 := 369) (v := (0 : Int32)) P251.q at_368 (by decide) rfl ?_
                        refine W.g_iload (pc1 := 371) P251.q at_369 rfl rfl ?_
                        refine P251.stCg (pc1 := 372) (x := c8) G251 (i := 0) (by decide) (Or.inr (by rw [g251]; exact P250.sz)) (W.Arg.safe P251.al G251 (by decide)) at_371 rfl ?_
                        intro T252 h252 P252 W252 G252
                        have Ex252 := Ex251.wr W252
                        have Fv252 := Fv251.other W252 (Or.inl hne251)
                        have Fc252 := Fc251.other W252 (Or.inl hne251)
                        have Sx252 := Safe.wr W252 (W.Arg.safe P251.al G251 (by decide)) P251.chv Sx251
                        have Q252 := W.Ext.wrNew Q251 W252 (by rw [g251]; exact E250.1)
                        refine W.g_dup (pc1 := 373) P252.q at_372 rfl rfl ?_
                        refine W.g_iconst (pc1 := 374) (v := (1 : Int32)) P252.q at_373 (by decide) rfl ?_
                        refine W.g_iload (pc1 := 376) P252.q at_374 rfl rfl ?_
                        refine P252.stCg (pc1 := 377) (x := c9) G252 (i := 1) (by decide) (Or.inr (by rw [g251]; exact P250.sz)) (W.Arg.safe P252.al G252 (by decide)) at_376 rfl ?_
                        intro T253 h253 P253 W253 G253
                        have Ex253 := Ex252.wr W253
                        have Fv253 := Fv252.other W253 (Or.inl hne251)
                        have Fc253 := Fc252.other W253 (Or.inl hne251)
                        have Sx253 := Safe.wr W253 (W.Arg.safe P252.al G252 (by decide)) P252.chv Sx252
                        have Q253 := W.Ext.wrNew Q252 W253 (by rw [g251]; exact E250.1)
                        refine W.g_dup (pc1 := 378) P253.q at_377 rfl rfl ?_
                        refine W.g_iconst (pc1 := 379) (v := (2 : Int32)) P253.q at_378 (by decide) rfl ?_
                        refine W.g_bipush (pc1 := 381) (v := (10 : Int32)) P253.q at_379 (by decide) rfl ?_
                        refine P253.stCg (pc1 := 382) (x := (10 : Int32)) G253 (i := 2) (by decide) (Or.inr (by rw [g251]; exact P250.sz)) (W.Arg.safe P253.al G253 (by decide)) at_381 rfl ?_
                        intro T254 h254 P254 W254 G254
                        have Ex254 := Ex253.wr W254
                        have Fv254 := Fv253.other W254 (Or.inl hne251)
                        have Fc254 := Fc253.other W254 (Or.inl hne251)
                        have Sx254 := Safe.wr W254 (W.Arg.safe P253.al G253 (by decide)) P253.chv Sx253
                        have Q254 := W.Ext.wrNew Q253 W254 (by rw [g251]; exact E250.1)
                        refine W.g_dup (pc1 := 383) P254.q at_382 rfl rfl ?_
                        refine W.g_iconst (pc1 := 384) (v := (3 : Int32)) P254.q at_383 (by decide) rfl ?_
                        refine W.g_iload (pc1 := 386) P254.q at_384 rfl rfl ?_
                        refine P254.stCg (pc1 := 387) (x := c10) G254 (i := 3) (by decide) (Or.inr (by rw [g251]; exact P250.sz)) (W.Arg.safe P254.al G254 (by decide)) at_386 rfl ?_
                        intro T255 h255 P255 W255 G255
                        have Ex255 := Ex254.wr W255
                        have Fv255 := Fv254.other W255 (Or.inl hne251)
                        have Fc255 := Fc254.other W255 (Or.inl hne251)
                        have Sx255 := Safe.wr W255 (W.Arg.safe P254.al G254 (by decide)) P254.chv Sx254
                        have Q255 := W.Ext.wrNew Q254 W255 (by rw [g251]; exact E250.1)
                        refine W.g_dup (pc1 := 388) P255.q at_387 rfl rfl ?_
                        refine W.g_iconst (pc1 := 389) (v := (4 : Int32)) P255.q at_388 (by decide) rfl ?_
                        refine W.g_iload (pc1 := 391) P255.q at_389 rfl rfl ?_
                        refine P255.stCg (pc1 := 392) (x := c11) G255 (i := 4) (by decide) (Or.inr (by rw [g251]; exact P250.sz)) (W.Arg.safe P255.al G255 (by decide)) at_391 rfl ?_
                        intro T256 h256 P256 W256 G256
                        have Ex256 := Ex255.wr W256
                        have Fv256 := Fv255.other W256 (Or.inl hne251)
                        have Fc256 := Fc255.other W256 (Or.inl hne251)
                        have Sx256 := Safe.wr W256 (W.Arg.safe P255.al G255 (by decide)) P255.chv Sx255
                        have Q256 := W.Ext.wrNew Q255 W256 (by rw [g251]; exact E250.1)
                        have VL256 : Arv Z h256 x251 k251 .char 5 (([c8, c9, (10 : Int32), c10, c11] : List Int32).map Value.int) (.int 0) := W.Arg.list G256 rfl (fun i hi => match i, hi with | 0, _ => own_narc (b8).ch | 1, _ => own_narc (b9).ch | 2, _ => own_narc (own_by10).ch | 3, _ => own_narc (b10).ch | 4, _ => own_narc (b11).ch | k + 5, hk => absurd hk (Nat.not_lt.mpr (Nat.le_add_left _ _)))
                        have hp256 : ∀ c ∈ ([c8, c9, (10 : Int32), c10, c11] : List Int32), ¬ c < 0 ∧ ¬ (255 : Int32) < c := (List.forall_mem_cons.mpr ⟨b8, (List.forall_mem_cons.mpr ⟨b9, (List.forall_mem_cons.mpr ⟨own_by10, (List.forall_mem_cons.mpr ⟨b10, (List.forall_mem_cons.mpr ⟨b11, (fun c hc => absurd hc (List.not_mem_nil))⟩)⟩)⟩)⟩)⟩)
                        refine P256.callN (pc1 := 395) rfl (wd hw (k := 8) rfl) (wd hw (k := 9) rfl) (wd hw (k := 10) rfl) (by decide) (StrChars.Road.backV (W := 1) P256.hz hws (kI := 4) (wd hw (k := 5) rfl) (cs := [c8, c9, (10 : Int32), c10, c11]) (bs := ([c8, c9, (10 : Int32), c10, c11]).map (fun c => c.toInt8.toInt32)) (n := 5) (n0 := h0.size) (by rw [g250]; exact P249.sz) P256.sz Ex256 Fv256 Fc256 VL256 (US.2.1.ext (P256.extZ EZ all0)) US.1 rfl rfl (by decide) (by decide) hp256 rfl (by decide) (by decide)) (argsL := [(.ref x251)]) (st0 := [(.ref x250)]) (lenOf pd_AC_R_V rfl) rfl rfl (Nat.le_of_eq rfl) (by rw [hml]; rfl) (by decide) (by decide) (fun _ _ _ q => ⟨W.Frw.of_fr q.2.1 (Nat.le_refl _), CHr.keep q.2.2.1 (sfS Sx256 sf0) P256.chv⟩) at_392 rfl ?_
                        intro v257 T257 h257 L257 q257 P257
                        obtain ⟨rfl, f257, K257, A257, C257, t257, k257, b257, c257, d257, F257, V257⟩ := q257
                        show W.Go p.tables e below _ (T257.setTop (mkF m 395 #[.val (.int dd), .val (.int sn), .val (.int gg), .val (.int fl), .val (.int nu), .val (.int ts), .val (.int c6), .val (.int c7), .val (.int c8), .val (.int c9), .val (.int c10), .val (.int c11), .val (.int (1 : Int32)), .val (.int (1 : Int32)), .val (.int (1 : Int32)), .val (.int (0 : Int32)), .val (.int q16), .val (.ref ty), .val (.ref x189), .val (.ref x194), .val (.ref yg), .val (.ref o), .val (.ref x199), .val (.ref sm), .val (.ref y249), .val (.int c8), .val (.int c9), .unset] [(.ref x250)]))
                        have S257 : W.Str Z h257 x250 [c8, c9, (10 : Int32), c10, c11] := ⟨t257, k257, _, _, _, A257, F257, C257, V257, StrChars.Road.codOf (cs := [c8, c9, (10 : Int32), c10, c11]) (n := 5) rfl (fun c hc => (hp256 c hc).2), fun c hc => ⟨(hp256 c hc).1, own_up (hp256 c hc).2⟩, Nat.le_of_ble_eq_true rfl⟩
                        have Q257 := W.Ext.keepNew Q256 K257 (allS (Nat.le_of_eq g250.symm) all0)
                        refine W.g_astore (pc1 := 397) (ls2 := #[.val (.int dd), .val (.int sn), .val (.int gg), .val (.int fl), .val (.int nu), .val (.int ts), .val (.int c6), .val (.int c7), .val (.int c8), .val (.int c9), .val (.int c10), .val (.int c11), .val (.int (1 : Int32)), .val (.int (1 : Int32)), .val (.int (1 : Int32)), .val (.int (0 : Int32)), .val (.int q16), .val (.ref ty), .val (.ref x189), .val (.ref x194), .val (.ref yg), .val (.ref o), .val (.ref x199), .val (.ref sm), .val (.ref y249), .val (.int c8), .val (.int c9), .val (.ref x250)]) P257.q at_395 rfl rfl rfl ?_
                        refine W.g_goto (pc1 := 422) P257.q at_397 (by decide) rfl ?_
                        refine W.g_aload (pc1 := 424) P257.q at_422 rfl rfl rfl ?_
                        refine W.g_aload (pc1 := 426) P257.q at_424 rfl rfl rfl ?_
                        refine P257.callV (pc1 := 429) (Y249.ext Q257).exa (wd hw (k := 70) rfl) (wd hw (k := 71) rfl) (wd hw (k := 73) rfl) (wd hw (k := 72) rfl) (notFace_of_selects (args := #[]) (mvT P257.hz (wd hw (k := 73) rfl))) (by decide) (W.Str.eqPay (k := 0) P257.hz hwq (wd hw (k := 5) rfl) (Y249.ext Q257) S257 (US.2.1.ext (P257.extZ EZ all0)) US.1 (by decide) (by decide)) (argsL := [(.ref x250)]) (st0 := []) (lenOf pd_Ljava_lang_Object_R_Z rfl) rfl rfl (Nat.le_of_eq rfl) (by rw [hml]; rfl) (by decide) (by decide) (W.QEq.ok P257.chv) at_426 rfl ?_
                        intro v258 T258 h258 L258 q258 P258
                        obtain ⟨hq258, rfl, rfl⟩ := q258
                        rcases hq258 with ⟨rfl, cq258⟩ | ⟨rfl, cq258⟩
                        · exact P258.retVW hEL hlk hret (Or.inl rfl) at_429 (by decide) (by decide) ⟨rfl, P258.fr⟩
                        · exact absurd rfl cq258
                      · obtain rfl : cg = [] := hcg.trans (if_neg (by decide))
                        show W.Go p.tables e below _ (T234.setTop (mkF m 282 #[.val (.int dd), .val (.int sn), .val (.int gg), .val (.int fl), .val (.int nu), .val (.int ts), .val (.int c6), .val (.int c7), .val (.int c8), .val (.int c9), .val (.int c10), .val (.int c11), .val (.int (1 : Int32)), .val (.int (1 : Int32)), .val (.int (1 : Int32)), .val (.int (1 : Int32)), .val (.int q16), .val (.ref ty), .val (.ref x189), .val (.ref x194), .val (.ref yg), .val (.ref o), .val (.ref x199), .val (.ref sm), .unset, .unset, .unset, .unset] [(.int (1 : Int32)), (.ref sm), (.ref x199)]))
                        refine P234.callVW (pc1 := 285) U200.1 (wd hw (k := 64) rfl) (wd hw (k := 65) rfl) (wd hw (k := 67) rfl) (wd hw (k := 66) rfl) (notFace_of_selects (args := #[]) (mvT P234.hz (wd hw (k := 67) rfl))) (by decide) (W.MetW.pay (W := 0) (c_q1 l Z a0 hw wS hEL x199 x189 x194 o sm sm x194 yg [c8, c9] [] 1 (by decide) h200 U200 Eo2 Fo2 (SN.2.2.2.1) (Or.inl ⟨rfl, rfl⟩) SS2 SG2 (own_by2 b8 b9) own_by0 (Nat.le_of_ble_eq_true rfl) (P234.extZ EZ all0) zc fm US) P234 hEL all0 (wd hw (k := 68) rfl) (wd hw (k := 41) rfl) (by decide) (by decide)) (argsL := [(.ref sm), (.int (1 : Int32))]) (st0 := []) (lenOf pd_Lcom_example_triage_triage_search_CaseTopics_NarrativeZ_R_Ljava_lang_String rfl) rfl rfl (Nat.le_of_eq rfl) (by rw [hml]; rfl) (by decide) (by decide) (fun _ _ _ q => by obtain ⟨_, _, q2, _⟩ := q; exact q2.up P234.sz all0) at_282 rfl ?_
                        intro v259 T259 h259 L259 q259 P259 R259
                        obtain ⟨y259, rfl, f259, E259, Y259⟩ := q259
                        show W.Go p.tables e below _ (T259.setTop (mkF m 285 #[.val (.int dd), .val (.int sn), .val (.int gg), .val (.int fl), .val (.int nu), .val (.int ts), .val (.int c6), .val (.int c7), .val (.int c8), .val (.int c9), .val (.int c10), .val (.int c11), .val (.int (1 : Int32)), .val (.int (1 : Int32)), .val (.int (1 : Int32)), .val (.int (1 : Int32)), .val (.int q16), .val (.ref ty), .val (.ref x189), .val (.ref x194), .val (.ref yg), .val (.ref o), .val (.ref x199), .val (.ref sm), .unset, .unset, .unset, .unset] [(.ref y259)]))
                        refine W.g_astore (pc1 := 287) (ls2 := #[.val (.int dd), .val (.int sn), .val (.int gg), .val (.int fl), .val (.int nu), .val (.int ts), .val (.int c6), .val (.int c7), .val (.int c8), .val (.int c9), .val (.int c10), .val (.int c11), .val (.int (1 : Int32)), .val (.int (1 : Int32)), .val (.int (1 : Int32)), .val (.int (1 : Int32)), .val (.int q16), .val (.ref ty), .val (.ref x189), .val (.ref x194), .val (.ref yg), .val (.ref o), .val (.ref x199), .val (.ref sm), .val (.ref y259), .unset, .unset, .unset]) P259.q at_285 rfl rfl rfl ?_
                        refine W.g_iload (pc1 := 289) P259.q at_287 rfl rfl ?_
                        refine W.g_ifN (pc2 := 292) P259.q at_289 rfl (by decide) ?_
                        refine W.g_iload (pc1 := 294) P259.q at_292 rfl rfl ?_
                        refine W.g_goto (pc1 := 299) P259.q at_294 (by decide) rfl ?_
                        refine W.g_istore (pc1 := 301) (ls2 := #[.val (.int dd), .val (.int sn), .val (.int gg), .val (.int fl), .val (.int nu), .val (.int ts), .val (.int c6), .val (.int c7), .val (.int c8), .val (.int c9), .val (.int c10), .val (.int c11), .val (.int (1 : Int32)), .val (.int (1 : Int32)), .val (.int (1 : Int32)), .val (.int (1 : Int32)), .val (.int q16), .val (.ref ty), .val (.ref x189), .val (.ref x194), .val (.ref yg), .val (.ref o), .val (.ref x199), .val (.ref sm), .val (.ref y259), .val (.int c8), .unset, .unset]) P259.q at_299 rfl rfl ?_
                        refine W.g_iload (pc1 := 303) P259.q at_301 rfl rfl ?_
                        refine W.g_ifN (pc2 := 306) P259.q at_303 rfl (by decide) ?_
                        refine W.g_iload (pc1 := 308) P259.q at_306 rfl rfl ?_
                        refine W.g_goto (pc1 := 313) P259.q at_308 (by decide) rfl ?_
                        refine W.g_istore (pc1 := 315) (ls2 := #[.val (.int dd), .val (.int sn), .val (.int gg), .val (.int fl), .val (.int nu), .val (.int ts), .val (.int c6), .val (.int c7), .val (.int c8), .val (.int c9), .val (.int c10), .val (.int c11), .val (.int (1 : Int32)), .val (.int (1 : Int32)), .val (.int (1 : Int32)), .val (.int (1 : Int32)), .val (.int q16), .val (.ref ty), .val (.ref x189), .val (.ref x194), .val (.ref yg), .val (.ref o), .val (.ref x199), .val (.ref sm), .val (.ref y259), .val (.int c8), .val (.int c9), .unset]) P259.q at_313 rfl rfl ?_
                        refine W.g_iload (pc1 := 317) P259.q at_315 rfl rfl ?_
                        refine W.g_ifN (pc2 := 320) P259.q at_317 rfl (by decide) ?_
                        refine W.g_iload (pc1 := 322) P259.q at_320 rfl rfl ?_
                        refine W.g_ifN (pc2 := 325) P259.q at_322 rfl (by decide) ?_
                        refine W.g_iload (pc1 := 327) P259.q at_325 rfl rfl ?_
                        refine W.g_ifN (pc2 := 330) P259.q at_327 rfl (by decide) ?_
                        refine P259.newO (pc1 := 333) (wd hw (k := 4) rfl) (wd hw (k := 5) rfl) (wd hw (k := 6) rfl) (by decide) (by decide) at_330 rfl ?_
                        intro T260 h260 x260 g260 P260 E260 A260 D260 U260
                        refine W.g_dup (pc1 := 334) P260.q at_333 rfl rfl ?_
                        refine W.g_iconst (pc1 := 335) (v := (3 : Int32)) P260.q at_334 (by decide) rfl ?_
                        have Fv260 : Fld Z h260 x260 "java/lang/String" "value" "[B" .null := D260 (Or.inr (wd hw (k := 33) rfl)) (ty := .array .byte) (by decide)
                        have Fc260 : Fld Z h260 x260 "java/lang/String" "coder" "B" (.int 0) := D260 (Or.inr (wd hw (k := 31) rfl)) (ty := .byte) (by decide)
                        have Sx260 := Safe.ext (EL := ownEL) E260 P259.chv (Safe.new (Nat.le_of_eq g260.symm))
                        refine P260.newP (pc1 := 337) (cap := 3) (wd hw (k := 7) rfl) (by decide) (by decide) (by decide) (by decide) (by decide) at_335 rfl ?_
                        intro T261 h261 x261 k261 g261 P261 E261 V261
                        have hne261 : x260 ≠ x261 := Nat.ne_of_lt (by rw [g261]; exact A260.lt)
                        have Ex261 := A260.ext E261
                        have Fv261 := Fv260.ext E261
                        have Fc261 := Fc260.ext E261
                        have Sx261 := Safe.ext E261 P260.chv Sx260
                        have G261 : W.Arg Z h261 x261 k261 .char 3 (fun _ => 0) := W.Arg.new (by decide) V261
                        have Q261 := W.Ext.trans E260 E261
                        refine W.g_dup (pc1 := 338) P261.q at_337 rfl rfl ?_
                        refine W.g_iconst (pc1 := 339) (v := (0 : Int32)) P261.q at_338 (by decide) rfl ?_
                        refine W.g_iload (pc1 := 341) P261.q at_339 rfl rfl ?_
                        refine P261.stCg (pc1 := 342) (x := c8) G261 (i := 0) (by decide) (Or.inr (by rw [g261]; exact P260.sz)) (W.Arg.safe P261.al G261 (by decide)) at_341 rfl ?_
                        intro T262 h262 P262 W262 G262
                        have Ex262 := Ex261.wr W262
                        have Fv262 := Fv261.other W262 (Or.inl hne261)
                        have Fc262 := Fc261.other W262 (Or.inl hne261)
                        have Sx262 := Safe.wr W262 (W.Arg.safe P261.al G261 (by decide)) P261.chv Sx261
                        have Q262 := W.Ext.wrNew Q261 W262 (by rw [g261]; exact E260.1)
                        refine W.g_dup (pc1 := 343) P262.q at_342 rfl rfl ?_
                        refine W.g_iconst (pc1 := 344) (v := (1 : Int32)) P262.q at_343 (by decide) rfl ?_
                        refine W.g_iload (pc1 := 346) P262.q at_344 rfl rfl ?_
                        refine P262.stCg (pc1 := 347) (x := c9) G262 (i := 1) (by decide) (Or.inr (by rw [g261]; exact P260.sz)) (W.Arg.safe P262.al G262 (by decide)) at_346 rfl ?_
                        intro T263 h263 P263 W263 G263
                        have Ex263 := Ex262.wr W263
                        have Fv263 := Fv262.other W263 (Or.inl hne261)
                        have Fc263 := Fc262.other W263 (Or.inl hne261)
                        have Sx263 := Safe.wr W263 (W.Arg.safe P262.al G262 (by decide)) P262.chv Sx262
                        have Q263 := W.Ext.wrNew Q262 W263 (by rw [g261]; exact E260.1)
                        refine W.g_dup (pc1 := 348) P263.q at_347 rfl rfl ?_
                        refine W.g_iconst (pc1 := 349) (v := (2 : Int32)) P263.q at_348 (by decide) rfl ?_
                        refine W.g_bipush (pc1 := 351) (v := (10 : Int32)) P263.q at_349 (by decide) rfl ?_
                        refine P263.stCg (pc1 := 352) (x := (10 : Int32)) G263 (i := 2) (by decide) (Or.inr (by rw [g261]; exact P260.sz)) (W.Arg.safe P263.al G263 (by decide)) at_351 rfl ?_
                        intro T264 h264 P264 W264 G264
                        have Ex264 := Ex263.wr W264
                        have Fv264 := Fv263.other W264 (Or.inl hne261)
                        have Fc264 := Fc263.other W264 (Or.inl hne261)
                        have Sx264 := Safe.wr W264 (W.Arg.safe P263.al G263 (by decide)) P263.chv Sx263
                        have Q264 := W.Ext.wrNew Q263 W264 (by rw [g261]; exact E260.1)
                        have VL264 : Arv Z h264 x261 k261 .char 3 (([c8, c9, (10 : Int32)] : List Int32).map Value.int) (.int 0) := W.Arg.list G264 rfl (fun i hi => match i, hi with | 0, _ => own_narc (b8).ch | 1, _ => own_narc (b9).ch | 2, _ => own_narc (own_by10).ch | k + 3, hk => absurd hk (Nat.not_lt.mpr (Nat.le_add_left _ _)))
                        have hp264 : ∀ c ∈ ([c8, c9, (10 : Int32)] : List Int32), ¬ c < 0 ∧ ¬ (255 : Int32) < c := (List.forall_mem_cons.mpr ⟨b8, (List.forall_mem_cons.mpr ⟨b9, (List.forall_mem_cons.mpr ⟨own_by10, (fun c hc => absurd hc (List.not_mem_nil))⟩)⟩)⟩)
                        refine P264.callN (pc1 := 355) rfl (wd hw (k := 8) rfl) (wd hw (k := 9) rfl) (wd hw (k := 10) rfl) (by decide) (StrChars.Road.backV (W := 1) P264.hz hws (kI := 4) (wd hw (k := 5) rfl) (cs := [c8, c9, (10 : Int32)]) (bs := ([c8, c9, (10 : Int32)]).map (fun c => c.toInt8.toInt32)) (n := 3) (n0 := h0.size) (by rw [g260]; exact P259.sz) P264.sz Ex264 Fv264 Fc264 VL264 (US.2.1.ext (P264.extZ EZ all0)) US.1 rfl rfl (by decide) (by decide) hp264 rfl (by decide) (by decide)) (argsL := [(.ref x261)]) (st0 := [(.ref x260)]) (lenOf pd_AC_R_V rfl) rfl rfl (Nat.le_of_eq rfl) (by rw [hml]; rfl) (by decide) (by decide) (fun _ _ _ q => ⟨W.Frw.of_fr q.2.1 (Nat.le_refl _), CHr.keep q.2.2.1 (sfS Sx264 sf0) P264.chv⟩) at_352 rfl ?_
                        intro v265 T265 h265 L265 q265 P265
                        obtain ⟨rfl, f265, K265, A265, C265, t265, k265, b265, c265, d265, F265, V265⟩ := q265
                        show W.Go p.tables e below _ (T265.setTop (mkF m 355 #[.val (.int dd), .val (.int sn), .val (.int gg), .val (.int fl), .val (.int nu), .val (.int ts), .val (.int c6), .val (.int c7), .val (.int c8), .val (.int c9), .val (.int c10), .val (.int c11), .val (.int (1 : Int32)), .val (.int (1 : Int32)), .val (.int (1 : Int32)), .val (.int (1 : Int32)), .val (.int q16), .val (.ref ty), .val (.ref x189), .val (.ref x194), .val (.ref yg), .val (.ref o), .val (.ref x199), .val (.ref sm), .val (.ref y259), .val (.int c8), .val (.int c9), .unset] [(.ref x260)]))
                        have S265 : W.Str Z h265 x260 [c8, c9, (10 : Int32)] := ⟨t265, k265, _, _, _, A265, F265, C265, V265, StrChars.Road.codOf (cs := [c8, c9, (10 : Int32)]) (n := 3) rfl (fun c hc => (hp264 c hc).2), fun c hc => ⟨(hp264 c hc).1, own_up (hp264 c hc).2⟩, Nat.le_of_ble_eq_true rfl⟩
                        have Q265 := W.Ext.keepNew Q264 K265 (allS (Nat.le_of_eq g260.symm) all0)
                        refine W.g_astore (pc1 := 357) (ls2 := #[.val (.int dd), .val (.int sn), .val (.int gg), .val (.int fl), .val (.int nu), .val (.int ts), .val (.int c6), .val (.int c7), .val (.int c8), .val (.int c9), .val (.int c10), .val (.int c11), .val (.int (1 : Int32)), .val (.int (1 : Int32)), .val (.int (1 : Int32)), .val (.int (1 : Int32)), .val (.int q16), .val (.ref ty), .val (.ref x189), .val (.ref x194), .val (.ref yg), .val (.ref o), .val (.ref x199), .val (.ref sm), .val (.ref y259), .val (.int c8), .val (.int c9), .val (.ref x260)]) P265.q at_355 rfl rfl rfl ?_
                        refine W.g_goto (pc1 := 422) P265.q at_357 (by decide) rfl ?_
                        refine W.g_aload (pc1 := 424) P265.q at_422 rfl rfl rfl ?_
                        refine W.g_aload (pc1 := 426) P265.q at_424 rfl rfl rfl ?_
                        refine P265.callV (pc1 := 429) (Y259.ext Q265).exa (wd hw (k := 70) rfl) (wd hw (k := 71) rfl) (wd hw (k := 73) rfl) (wd hw (k := 72) rfl) (notFace_of_selects (args := #[]) (mvT P265.hz (wd hw (k := 73) rfl))) (by decide) (W.Str.eqPay (k := 0) P265.hz hwq (wd hw (k := 5) rfl) (Y259.ext Q265) S265 (US.2.1.ext (P265.extZ EZ all0)) US.1 (by decide) (by decide)) (argsL := [(.ref x260)]) (st0 := []) (lenOf pd_Ljava_lang_Object_R_Z rfl) rfl rfl (Nat.le_of_eq rfl) (by rw [hml]; rfl) (by decide) (by decide) (W.QEq.ok P265.chv) at_426 rfl ?_
                        intro v266 T266 h266 L266 q266 P266
                        obtain ⟨hq266, rfl, rfl⟩ := q266
                        rcases hq266 with ⟨rfl, cq266⟩ | ⟨rfl, cq266⟩
                        · exact P266.retVW hEL hlk hret (Or.inl rfl) at_429 (by decide) (by decide) ⟨rfl, P266.fr⟩
                        · exact absurd rfl cq266
              refine W.g_if (pc1 := 236) (pc2 := 228) P20.q at_225 (by decide) rfl rfl (fun (c14 : b_14 = 0) => ?_) (fun (c14 : ¬ (b_14 = 0)) => ?_)
              · refine P20.callS (pc1 := 239) (wd hw (k := 34) rfl) (wd hw (k := 35) rfl) (wd hw (k := 36) rfl) (wd hw (k := 37) rfl) (by decide) (W.MetN.pay (W := 0) (c_oem l Z a0 hw em h20 (S.2.2.2.2.2.1.ext P20.ext0) (S.2.2.2.2.2.2.1.ext P20.ext0) (S.2.2.2.2.2.2.2.ext P20.ext0)) P20 (wd hw (k := 37) rfl) (wd hw (k := 36) rfl) (by decide) (by decide)) (argsL := []) (st0 := []) (lenOf pd__R_Ljava_util_Optional rfl) rfl rfl (Nat.le_of_eq rfl) (by rw [hml]; rfl) (by decide) (by decide) (fun _ _ _ q => by obtain ⟨_, _, q2, q3, _⟩ := q; exact ⟨q2.up P20.sz all0, CHr.ext q3 P20.chv⟩) at_236 rfl ?_
                intro v267 T267 h267 L267 q267 P267
                obtain ⟨o267, rfl, f267, E267, A267, F267⟩ := q267
                show W.Go p.tables e below _ (T267.setTop (mkF m 239 #[.val (.int dd), .val (.int sn), .val (.int gg), .val (.int fl), .val (.int nu), .val (.int ts), .val (.int c6), .val (.int c7), .val (.int c8), .val (.int c9), .val (.int c10), .val (.int c11), .val (.int b_12), .val (.int b_13), .val (.int b_14), .val (.int b_15), .val (.int q16), .val (.ref ty), .val (.ref x189), .val (.ref x194), .val (.ref yg), .unset, .unset, .unset, .unset, .unset, .unset, .unset] [(.ref o267)]))
                exact J21 T267 _ _ o267 .null (P267.mono (by decide) (by decide)) A267 F267 (Or.inl ⟨c14, rfl⟩) E267
              · refine W.g_aload (pc1 := 230) P20.q at_228 rfl rfl rfl ?_
                refine P20.callS (pc1 := 233) (wd hw (k := 82) rfl) (wd hw (k := 83) rfl) (wd hw (k := 36) rfl) (wd hw (k := 84) rfl) (by decide) (W.MetN.pay (W := 0) (c_oof l Z a0 hw yg h20) P20 (wd hw (k := 84) rfl) (wd hw (k := 36) rfl) (by decide) (by decide)) (argsL := [(.ref yg)]) (st0 := []) (lenOf pd_Ljava_lang_Object_R_Ljava_util_Optional rfl) rfl rfl (Nat.le_of_eq rfl) (by rw [hml]; rfl) (by decide) (by decide) (fun _ _ _ q => by obtain ⟨_, _, q2, q3, _⟩ := q; exact ⟨q2.up P20.sz all0, CHr.ext q3 P20.chv⟩) at_230 rfl ?_
                intro v268 T268 h268 L268 q268 P268
                obtain ⟨o268, rfl, f268, E268, A268, F268⟩ := q268
                show W.Go p.tables e below _ (T268.setTop (mkF m 233 #[.val (.int dd), .val (.int sn), .val (.int gg), .val (.int fl), .val (.int nu), .val (.int ts), .val (.int c6), .val (.int c7), .val (.int c8), .val (.int c9), .val (.int c10), .val (.int c11), .val (.int b_12), .val (.int b_13), .val (.int b_14), .val (.int b_15), .val (.int q16), .val (.ref ty), .val (.ref x189), .val (.ref x194), .val (.ref yg), .unset, .unset, .unset, .unset, .unset, .unset, .unset] [(.ref o268)]))
                refine W.g_goto (pc1 := 239) P268.q at_233 (by decide) rfl ?_
                exact J21 T268 _ _ o268 (.ref yg) (P268.mono (by decide) (by decide)) A268 F268 (Or.inr ⟨c14, rfl⟩) E268
            refine W.g_if (pc1 := 201) (pc2 := 196) P198.q at_193 (by decide) rfl rfl (fun (c15 : b_15 = 0) => ?_) (fun (c15 : ¬ (b_15 = 0)) => ?_)
            · refine P198.newO (pc1 := 204) (wd hw (k := 4) rfl) (wd hw (k := 5) rfl) (wd hw (k := 6) rfl) (by decide) (by decide) at_201 rfl ?_
              intro T269 h269 x269 g269 P269 E269 A269 D269 U269
              refine W.g_dup (pc1 := 205) P269.q at_204 rfl rfl ?_
              refine W.g_iconst (pc1 := 206) (v := (2 : Int32)) P269.q at_205 (by decide) rfl ?_
              have Fv269 : Fld Z h269 x269 "java/lang/String" "value" "[B" .null := D269 (Or.inr (wd hw (k := 33) rfl)) (ty := .array .byte) (by decide)
              have Fc269 : Fld Z h269 x269 "java/lang/String" "coder" "B" (.int 0) := D269 (Or.inr (wd hw (k := 31) rfl)) (ty := .byte) (by decide)
              have Sx269 := Safe.ext (EL := ownEL) E269 P198.chv (Safe.new (Nat.le_of_eq g269.symm))
              refine P269.newP (pc1 := 208) (cap := 2) (wd hw (k := 7) rfl) (by decide) (by decide) (by decide) (by decide) (by decide) at_206 rfl ?_
              intro T270 h270 x270 k270 g270 P270 E270 V270
              have hne270 : x269 ≠ x270 := Nat.ne_of_lt (by rw [g270]; exact A269.lt)
              have Ex270 := A269.ext E270
              have Fv270 := Fv269.ext E270
              have Fc270 := Fc269.ext E270
              have Sx270 := Safe.ext E270 P269.chv Sx269
              have G270 : W.Arg Z h270 x270 k270 .char 2 (fun _ => 0) := W.Arg.new (by decide) V270
              have Q270 := W.Ext.trans E269 E270
              refine W.g_dup (pc1 := 209) P270.q at_208 rfl rfl ?_
              refine W.g_iconst (pc1 := 210) (v := (0 : Int32)) P270.q at_209 (by decide) rfl ?_
              refine W.g_iload (pc1 := 212) P270.q at_210 rfl rfl ?_
              refine P270.stCg (pc1 := 213) (x := c10) G270 (i := 0) (by decide) (Or.inr (by rw [g270]; exact P269.sz)) (W.Arg.safe P270.al G270 (by decide)) at_212 rfl ?_
              intro T271 h271 P271 W271 G271
              have Ex271 := Ex270.wr W271
              have Fv271 := Fv270.other W271 (Or.inl hne270)
              have Fc271 := Fc270.other W271 (Or.inl hne270)
              have Sx271 := Safe.wr W271 (W.Arg.safe P270.al G270 (by decide)) P270.chv Sx270
              have Q271 := W.Ext.wrNew Q270 W271 (by rw [g270]; exact E269.1)
              refine W.g_dup (pc1 := 214) P271.q at_213 rfl rfl ?_
              refine W.g_iconst (pc1 := 215) (v := (1 : Int32)) P271.q at_214 (by decide) rfl ?_
              refine W.g_iload (pc1 := 217) P271.q at_215 rfl rfl ?_
              refine P271.stCg (pc1 := 218) (x := c11) G271 (i := 1) (by decide) (Or.inr (by rw [g270]; exact P269.sz)) (W.Arg.safe P271.al G271 (by decide)) at_217 rfl ?_
              intro T272 h272 P272 W272 G272
              have Ex272 := Ex271.wr W272
              have Fv272 := Fv271.other W272 (Or.inl hne270)
              have Fc272 := Fc271.other W272 (Or.inl hne270)
              have Sx272 := Safe.wr W272 (W.Arg.safe P271.al G271 (by decide)) P271.chv Sx271
              have Q272 := W.Ext.wrNew Q271 W272 (by rw [g270]; exact E269.1)
              have VL272 : Arv Z h272 x270 k270 .char 2 (([c10, c11] : List Int32).map Value.int) (.int 0) := W.Arg.list G272 rfl (fun i hi => match i, hi with | 0, _ => own_narc (b10).ch | 1, _ => own_narc (b11).ch | k + 2, hk => absurd hk (Nat.not_lt.mpr (Nat.le_add_left _ _)))
              have hp272 : ∀ c ∈ ([c10, c11] : List Int32), ¬ c < 0 ∧ ¬ (255 : Int32) < c := (List.forall_mem_cons.mpr ⟨b10, (List.forall_mem_cons.mpr ⟨b11, (fun c hc => absurd hc (List.not_mem_nil))⟩)⟩)
              refine P272.callN (pc1 := 221) rfl (wd hw (k := 8) rfl) (wd hw (k := 9) rfl) (wd hw (k := 10) rfl) (by decide) (StrChars.Road.backV (W := 1) P272.hz hws (kI := 4) (wd hw (k := 5) rfl) (cs := [c10, c11]) (bs := ([c10, c11]).map (fun c => c.toInt8.toInt32)) (n := 2) (n0 := h0.size) (by rw [g269]; exact P198.sz) P272.sz Ex272 Fv272 Fc272 VL272 (US.2.1.ext (P272.extZ EZ all0)) US.1 rfl rfl (by decide) (by decide) hp272 rfl (by decide) (by decide)) (argsL := [(.ref x270)]) (st0 := [(.ref x269)]) (lenOf pd_AC_R_V rfl) rfl rfl (Nat.le_of_eq rfl) (by rw [hml]; rfl) (by decide) (by decide) (fun _ _ _ q => ⟨W.Frw.of_fr q.2.1 (Nat.le_refl _), CHr.keep q.2.2.1 (sfS Sx272 sf0) P272.chv⟩) at_218 rfl ?_
              intro v273 T273 h273 L273 q273 P273
              obtain ⟨rfl, f273, K273, A273, C273, t273, k273, b273, c273, d273, F273, V273⟩ := q273
              show W.Go p.tables e below _ (T273.setTop (mkF m 221 #[.val (.int dd), .val (.int sn), .val (.int gg), .val (.int fl), .val (.int nu), .val (.int ts), .val (.int c6), .val (.int c7), .val (.int c8), .val (.int c9), .val (.int c10), .val (.int c11), .val (.int b_12), .val (.int b_13), .val (.int b_14), .val (.int b_15), .val (.int q16), .val (.ref ty), .val (.ref x189), .val (.ref x194), .unset, .unset, .unset, .unset, .unset, .unset, .unset, .unset] [(.ref x269)]))
              have S273 : W.Str Z h273 x269 [c10, c11] := ⟨t273, k273, _, _, _, A273, F273, C273, V273, StrChars.Road.codOf (cs := [c10, c11]) (n := 2) rfl (fun c hc => (hp272 c hc).2), fun c hc => ⟨(hp272 c hc).1, own_up (hp272 c hc).2⟩, Nat.le_of_ble_eq_true rfl⟩
              have Q273 := W.Ext.keepNew Q272 K273 (allS (Nat.le_of_eq g269.symm) all0)
              exact J20 _ T273 _ _ x269 _ (P273.mono (by decide) (by decide)) (by rw [if_pos c15]) (SD.ext Q273) (S198.ext Q273) S273
            · refine P198.ldcR (pc1 := 198) (n := 0) (vs := []) (z := 0) (wd hw (k := 226) rfl) wS hEL (by decide) ⟨by decide, rfl⟩ (by decide) (by decide) (by decide) (by decide) (by decide) (by decide) at_196 rfl ?_
              intro y274 T274 h274 t274 k274 P274 E274 R274 A274 C274 F274 V274 N274 I274
              have SG : W.Str Z h274 y274 [] := ⟨t274, k274, 0, 0, [], A274, F274, C274, V274, Or.inl ⟨rfl, rfl, rfl, (fun _ q => nomatch q)⟩, (fun _ q => nomatch q), Nat.zero_le _⟩
              refine W.g_goto (pc1 := 221) P274.q at_198 (by decide) rfl ?_
              exact J20 _ T274 _ _ y274 _ (P274.mono (by decide) (by decide)) (by rw [if_neg c15]) (SD.ext E274) (S198.ext E274) SG
          refine W.g_if (pc1 := 130) (pc2 := 124) P0.q at_121 (by decide) rfl rfl (fun (d0 : ¬ q16 = 0) => ?_) (fun (d0 : ¬ (¬ q16 = 0)) => ?_)
          · refine W.g_iload (pc1 := 132) P0.q at_130 rfl rfl ?_
            refine W.g_iconst (pc1 := 133) (v := (1 : Int32)) P0.q at_132 (by decide) rfl ?_
            refine W.g_cmp (pc1 := 142) (pc2 := 136) P0.q at_133 (by decide) rfl rfl (fun (d1 : ¬ q16 = (1 : Int32)) => ?_) (fun (d1 : ¬ (¬ q16 = (1 : Int32))) => ?_)
            · refine P0.getS (pc1 := 145) (wd hw (k := 80) rfl) Via.refl S.2.2.1 at_142 rfl ?_
              intro T277 P277
              exact J17 T277 p2 P277
            · refine P0.getS (pc1 := 139) (wd hw (k := 224) rfl) Via.refl S.2.1 at_136 rfl ?_
              intro T276 P276
              refine W.g_goto (pc1 := 145) P276.q at_139 (by decide) rfl ?_
              exact J17 T276 p1 P276
          · refine P0.getS (pc1 := 127) (wd hw (k := 1) rfl) Via.refl S.1 at_124 rfl ?_
            intro T275 P275
            refine W.g_goto (pc1 := 145) P275.q at_127 (by decide) rfl ?_
            exact J17 T275 p0 P275
        refine W.g_if (pc1 := 107) (pc2 := 103) P0.q at_100 (by decide) rfl rfl (fun (cc15 : (fl &&& (8 : Int32)) = 0) => ?_) (fun (cc15 : ¬ ((fl &&& (8 : Int32)) = 0)) => ?_)
        · refine W.g_iconst (pc1 := 108) (v := (0 : Int32)) P0.q at_107 (by decide) rfl ?_
          exact J15 (0 : Int32) (Or.inl rfl)
        · refine W.g_iconst (pc1 := 104) (v := (1 : Int32)) P0.q at_103 (by decide) rfl ?_
          refine W.g_goto (pc1 := 108) P0.q at_104 (by decide) rfl ?_
          exact J15 (1 : Int32) (Or.inr rfl)
      refine W.g_if (pc1 := 93) (pc2 := 89) P0.q at_86 (by decide) rfl rfl (fun (cc14 : (fl &&& (4 : Int32)) = 0) => ?_) (fun (cc14 : ¬ ((fl &&& (4 : Int32)) = 0)) => ?_)
      · refine W.g_iconst (pc1 := 94) (v := (0 : Int32)) P0.q at_93 (by decide) rfl ?_
        exact J14 (0 : Int32) (Or.inl rfl)
      · refine W.g_iconst (pc1 := 90) (v := (1 : Int32)) P0.q at_89 (by decide) rfl ?_
        refine W.g_goto (pc1 := 94) P0.q at_90 (by decide) rfl ?_
        exact J14 (1 : Int32) (Or.inr rfl)
    refine W.g_if (pc1 := 80) (pc2 := 76) P0.q at_73 (by decide) rfl rfl (fun (cc13 : (fl &&& (2 : Int32)) = 0) => ?_) (fun (cc13 : ¬ ((fl &&& (2 : Int32)) = 0)) => ?_)
    · refine W.g_iconst (pc1 := 81) (v := (0 : Int32)) P0.q at_80 (by decide) rfl ?_
      exact J13 (0 : Int32) (Or.inl rfl)
    · refine W.g_iconst (pc1 := 77) (v := (1 : Int32)) P0.q at_76 (by decide) rfl ?_
      refine W.g_goto (pc1 := 81) P0.q at_77 (by decide) rfl ?_
      exact J13 (1 : Int32) (Or.inr rfl)
  refine W.g_if (pc1 := 67) (pc2 := 63) P0.q at_60 (by decide) rfl rfl (fun (cc12 : (fl &&& (1 : Int32)) = 0) => ?_) (fun (cc12 : ¬ ((fl &&& (1 : Int32)) = 0)) => ?_)
  · refine W.g_iconst (pc1 := 68) (v := (0 : Int32)) P0.q at_67 (by decide) rfl ?_
    exact J12 (0 : Int32) (Or.inl rfl)
  · refine W.g_iconst (pc1 := 64) (v := (1 : Int32)) P0.q at_63 (by decide) rfl ?_
    refine W.g_goto (pc1 := 68) P0.q at_64 (by decide) rfl ?_
    exact J12 (1 : Int32) (Or.inr rfl)
set_option maxRecDepth 65536 in
set_option maxHeartbeats 40000000 in
theorem comes_1 {Post : Tables → Env → Array Value → State → Outcome → State → Prop} (hpost : ∀ tb e args s v u, (limb_1_1.after args s (.returned v) u = true ∧ limb_1_2.after args s (.returned v) u = true ∧ True) → ReturnedEndW s (.returned v) u (Jvm.fieldLocs frame_1_writes args s ++ Jvm.arrayLocs frame_1_arrays args s ++ Jvm.staticLocs frame_1_statics s) 48 2304 → Post tb e args s (.returned v) u) :
    ArmFor flags0 classFile x code maxLocals ret World_1 tables_1 room_1 Calls_1 rest_1 Pre_1 Post := by
  intro l hfl _ _ p e ha hc hk s m args below hf hA hF happ hP
  obtain ⟨hcalls, hrest, hpre⟩ := hP
  obtain ⟨-, -, -, hnamed, -, -, -, hat⟩ := (Spec.applies_iff hf).mp happ
  obtain ⟨hg, hn⟩ := and_e (Cond.before_iff.mp (show (Jvm.Cond.and given_1 narrow_1).before args s = true from hpre))
  obtain ⟨hcnt, hg0⟩ := and_e hg
  obtain ⟨ga0, hg1⟩ := and_e hg0
  obtain ⟨ga1, hg2⟩ := and_e hg1
  obtain ⟨ga2, hg3⟩ := and_e hg2
  obtain ⟨ga3, hg4⟩ := and_e hg3
  obtain ⟨ga4, hg5⟩ := and_e hg4
  have ga5 := hg5
  obtain ⟨w0, w1, w2, w3, w4, w5, rfl⟩ : ∃ w0 w1 w2 w3 w4 w5 : Value, args = #[w0, w1, w2, w3, w4, w5] := by
    have hs : args.size = 6 := by simpa [Cond.value, given_1] using hcnt
    obtain ⟨L⟩ := args
    match L, hs with
    | [w0, w1, w2, w3, w4, w5], _ => exact ⟨w0, w1, w2, w3, w4, w5, rfl⟩
  have hw := fun d (hd : d ∈ tables_1) => atoms_spec (ws := Jvm.Cond.code x code maxLocals ret :: tables_1) hat d (List.mem_cons_of_mem _ hd)
  obtain ⟨hsets, hown0⟩ := atoms_of _ (rest_1_c_eq ▸ (show rest_1_c.before _ s = true from hrest))
  obtain ⟨i0, ei0⟩ := is_v ga0
  obtain rfl : w0 = (.int i0) := Option.some.inj ei0
  obtain ⟨i1, ei1⟩ := is_v ga1
  obtain rfl : w1 = (.int i1) := Option.some.inj ei1
  obtain ⟨i2, ei2⟩ := is_v ga2
  obtain rfl : w2 = (.int i2) := Option.some.inj ei2
  obtain ⟨i3, ei3⟩ := is_v ga3
  obtain rfl : w3 = (.int i3) := Option.some.inj ei3
  obtain ⟨i4, ei4⟩ := is_v ga4
  obtain rfl : w4 = (.int i4) := Option.some.inj ei4
  obtain ⟨i5, ei5⟩ := is_v ga5
  obtain rfl : w5 = (.int i5) := Option.some.inj ei5
  have n5 := not_v (Cond.before_iff.mp (hsets _ (List.mem_of_getElem? (i := 2) rfl)))
  obtain ⟨zc, ezc⟩ := is_v (Cond.before_iff.mp (hsets _ (List.mem_of_getElem? (i := 1) rfl)))
  have C0 : Sta s s.heap "java/lang/String" "COMPACT_STRINGS" "Z" (.int zc) := Sta.start ezc (Or.inl (hsets _ (List.mem_of_getElem? (i := 0) rfl)))
  have hzc : ¬ (zc = (0 : Int32)) := gotF (Cond.eq_ints ezc (Term.int_eval (0))) n5
  obtain ⟨fm, efm, hfm⟩ := isR_v (Cond.before_iff.mp (hsets _ (List.mem_of_getElem? (i := 8) rfl)))
  have FM := Sta.start efm (Or.inl (hsets _ (List.mem_of_getElem? (i := 7) rfl)))
  have US : UST s zc fm := ⟨hzc, C0, trivial, trivial, trivial, hfm, FM⟩
  obtain ⟨c0, hn0⟩ := and_e hn
  obtain ⟨c1, hn1⟩ := and_e hn0
  obtain ⟨c2, hn2⟩ := and_e hn1
  obtain ⟨c3, hn3⟩ := and_e hn2
  obtain ⟨c4, hn4⟩ := and_e hn3
  obtain ⟨c5, hn5⟩ := and_e hn4
  have c6 := hn5
  obtain ⟨p0, e0⟩ := exa_v c0
  obtain ⟨sm, e1⟩ := exa_v c1
  obtain ⟨p2, e2⟩ := exa_v c2
  obtain ⟨ds, e3⟩ := exa_v c3
  obtain ⟨p1, e6⟩ := exa_v c6
  have hds : ¬ ds = sm := fun q => by
    have a1 := own_eqI c4
    have a2 := own_eqI c5
    rw [fld_at e3, q] at a1
    rw [fld_at e1, a1] at a2
    exact absurd (Value.int.inj (Option.some.inj a2)) (by decide)
  have xE := Cond.before_iff.mp (hsets _ (List.mem_of_getElem? (i := 11) rfl))
  obtain ⟨em, e7⟩ := exa_v xE
  have xV := null_v (Cond.before_iff.mp (hsets _ (List.mem_of_getElem? (i := 12) rfl)))
  have EN : En s s.heap p0 p1 p2 sm ds em := ⟨Sta.start e0 (Or.inr ⟨(wd hw (k := 2) rfl), (wd hw (k := 3) rfl)⟩), Sta.start e6 (Or.inr ⟨(wd hw (k := 2) rfl), (wd hw (k := 225) rfl)⟩), Sta.start e2 (Or.inr ⟨(wd hw (k := 2) rfl), (wd hw (k := 81) rfl)⟩), Sta.start e1 (Or.inr ⟨(wd hw (k := 62) rfl), (wd hw (k := 63) rfl)⟩), Sta.start e3 (Or.inr ⟨(wd hw (k := 62) rfl), (wd hw (k := 223) rfl)⟩), Sta.start e7 (Or.inl (hsets _ (List.mem_of_getElem? (i := 10) rfl))), Exa.start e7 xE, Fld.start ((fld_at e7).symm.trans xV)⟩
  have wS : ∀ a ∈ Bundle.stringAtoms, a.before _ s = true := fun d hd => hw d (own_atoms d hd)
  have hEL : EW s _ ownEL := (EW.cons (own := "com/example/triage/triage/search/CaseTopics$Topic") (index := 47) (text := "\n") (wd hw (k := 168) rfl) (by decide) (EW.cons (own := "com/example/triage/triage/search/TopicQueryPinLaw") (index := 25) (text := "") (wd hw (k := 226) rfl) (by decide) EW.nil))
  have hCH : CHv s ownEL s.vm s.heap := CHv.start hEL (fun p hp => hcalls.1 p (own_consts p hp)) (hsets _ (List.mem_of_getElem? (i := 2) rfl)) (wd hw (k := 23) rfl) (wd hw (k := 5) rfl)
  obtain ⟨n, o, h1, h2, h3, _, L, rfl, ⟨rfl, N⟩, -, hq⟩ := rm1 l s _ hw wS hEL i0 i1 i2 i3 i4 i5 p0 p1 p2 sm ds em hds s.heap EN (W.Ext.refl _) zc fm US p e ha hc hk s m _ below hf ((Spec.applies_iff_loose hf).mp happ).1 ⟨rfl, State.Warmed39.refl s, rfl, hCH, all0⟩ trivial
  refine ⟨n, _, h1, h2, h3, hpost _ _ _ _ _ _ ⟨Cond.after_iff.mpr rfl, Cond.after_iff.mpr (eq_i res_at (Term.int_eval (1)) rfl), trivial⟩ ⟨hq.1, hq.2.1, hq.2.2.1, (hq.2.2.2.sift fun y hy => Or.inr ((N y hy).elim (fun q => nomatch q) id)).mono (by decide) (by decide)⟩⟩
theorem main_1_1 : Claimed_1_1 := comes_1 fun _ _ _ _ _ _ h hF => ⟨h.1, hF⟩
theorem main_1_2 : Claimed_1_2 := comes_1 fun _ _ _ _ _ _ h hF => ⟨h.2.1, hF⟩
end Jvm.Pilot.@@N@@
namespace Jvm.Pilot.@@N@@
open Jvm Jvm.ClassFile Sem Op Lib Jvm.Free Jvm.Stand Jvm.Pilot.@@N@@.Jvm.D
/-! MADE BY PROGRAM (witnessworld.py) out of the Statement's table words and the real class files: 32 classes; the members and pool entries that the words name. The judged class is class 1, her method 1. -/
namespace start1
open Jvm.ClassFile
def u (s : String) : CpInfo := .utf8 (stringToUtf16 s)
/-- a pool by its gaps: so many unusable entries, then the entry; so many at the end -/
def gap : Nat → List CpInfo → List CpInfo
  | 0, r => r
  | n + 1, r => .unusable :: gap n r
def poolList (es : List (Nat × CpInfo)) (last : Nat) : List CpInfo := es.foldr (fun e r => gap e.1 (e.2 :: r)) (gap last [])
def pool (es : List (Nat × CpInfo)) (last : Nat) : Array CpInfo := ⟨poolList es last⟩
def fileOf (pool : Array CpInfo) (this : Nat) (attrs : Array Attribute := #[]) (ms : Array MethodInfo := #[]) (fl : Nat := 33) (sup : Nat := 0) (ifs : Array Nat := #[]) (fds : Array FieldInfo := #[]) : ClassFile where
  minorVersion := 0
  majorVersion := 65
  constantPool := pool
  accessFlags := fl
  thisClass := this
  superClass := sup
  interfaces := ifs
  fields := fds
  methods := ms
  attributes := attrs
def plain (name : String) (sup : Option ClassId) : Class where
  name := name
  kind := .ordinary
  loader := none
  accessFlags := 33
  super := sup
  interfaces := #[]
  cf := none
  fields := #[]
  methods := #[]
  instanceTypes := #[]
  staticTypes := #[]
  resolved := #[]
  callSites := []
  init := .initialized
  statics := none
  mirror := none

def pool0 : Array CpInfo := pool [(5, u "<init>"), (0, u "()V"), (1, .class_ 10), (1, u "java/lang/Object")] 113

def k0c0 : Code := { maxStack := 0, maxLocals := 1, code := object_method_1_code, exceptionTable := #[], attributes := #[] }
def k0m0 : Method := { name := "<init>", desc := "()V", sig := { parameters := [], returnType := none }, accessFlags := 1, code := some k0c0 }
/-- java/lang/Object -/
def k0 : Class := { plain "java/lang/Object" none with
  accessFlags := 33
  interfaces := #[]
  cf := some (fileOf pool0 8 #[] #[{ accessFlags := 1, nameIndex := 5, descriptorIndex := 6, attributes := #[] }] 33 0 #[] #[])
  fields := #[]
  methods := #[k0m0]
  instanceTypes := #[]
  staticTypes := #[]
  resolved := Array.replicate 124 none
  statics := none }

def pool1 : Array CpInfo := pool [(2, .class_ 4), (1, u "java/lang/Object"), (0, u "<init>"), (0, u "()V"), (0, .integer 2147483647), (0, .fieldref 9 10), (0, .class_ 11), (0, .nameAndType 12 13), (0, u "com/example/triage/triage/search/CaseTopics$Type"), (0, u "DIAGNOSIS"), (0, u "Lcom/example/triage/triage/search/CaseTopics$Type;"), (0, .fieldref 9 15), (0, .nameAndType 16 13), (0, u "TEST"), (0, .fieldref 9 18), (0, .nameAndType 19 13), (0, u "TREATMENT"), (0, .class_ 21), (0, u "java/lang/String"), (0, .methodref 20 23), (0, .nameAndType 5 24), (0, u "([C)V"), (0, .string 26), (0, u ""), (0, .methodref 28 29), (0, .class_ 30), (0, .nameAndType 31 32), (0, u "java/util/Optional"), (0, u "of"), (0, u "(Ljava/lang/Object;)Ljava/util/Optional;"), (0, .methodref 28 34), (0, .nameAndType 35 36), (0, u "empty"), (0, u "()Ljava/util/Optional;"), (0, .class_ 38), (0, u "com/example/triage/triage/search/CaseTopics$Topic"), (0, .methodref 37 40), (0, .nameAndType 5 41), (0, u "(ILcom/example/triage/triage/search/CaseTopics$Type;Ljava/lang/String;Ljava/lang/String;Ljava/util/Optional;)V"), (0, .fieldref 43 44), (0, .class_ 45), (0, .nameAndType 46 47), (0, u "com/example/triage/triage/search/CaseTopics$Narrative"), (0, u "SUMMARY"), (0, u "Lcom/example/triage/triage/search/CaseTopics$Narrative;"), (0, .fieldref 43 49), (0, .nameAndType 50 47), (0, u "DESCRIPTION"), (0, .methodref 37 52), (0, .nameAndType 53 54), (0, u "query"), (0, u "(Lcom/example/triage/triage/search/CaseTopics$Narrative;Z)Ljava/lang/String;"), (0, .methodref 20 56), (0, .nameAndType 57 58), (0, u "equals"), (0, u "(Ljava/lang/Object;)Z"), (0, .class_ 60), (0, u "com/example/triage/triage/search/TopicQueryPinLaw"), (2, u "law"), (0, u "(IIIIII)Z")] 9

def k1m0 : Method := { name := "<init>", desc := "()V", sig := { parameters := [], returnType := none }, accessFlags := 1, code := none }
def k1c1 : Code := { maxStack := 7, maxLocals := 28, code := code, exceptionTable := #[], attributes := #[] }
def k1m1 : Method := { name := "law", desc := "(IIIIII)Z", sig := { parameters := [.int, .int, .int, .int, .int, .int], returnType := some .boolean }, accessFlags := 9, code := some k1c1 }
/-- com/example/triage/triage/search/TopicQueryPinLaw -/
def k1 : Class := { plain "com/example/triage/triage/search/TopicQueryPinLaw" (some 0) with
  accessFlags := 49
  interfaces := #[]
  cf := some (fileOf pool1 59 #[] #[{ accessFlags := 1, nameIndex := 5, descriptorIndex := 6, attributes := #[] }, { accessFlags := 9, nameIndex := 63, descriptorIndex := 64, attributes := #[] }] 49 2 #[] #[])
  fields := #[]
  methods := #[k1m0, k1m1]
  instanceTypes := #[]
  staticTypes := #[]
  resolved := Array.replicate 74 none
  statics := none }

def pool2 : Array CpInfo := pool [(1, .class_ 2), (0, u "java/lang/constant/Constable"), (0, .class_ 4), (0, u "java/lang/Object")] 6

/-- java/lang/constant/Constable -/
def k2 : Class := { plain "java/lang/constant/Constable" (some 0) with
  accessFlags := 1537
  interfaces := #[]
  cf := some (fileOf pool2 1 #[] #[] 1537 3 #[] #[])
  fields := #[]
  methods := #[]
  instanceTypes := #[]
  staticTypes := #[]
  resolved := Array.replicate 11 none
  statics := none }

def pool3 : Array CpInfo := pool [(1, .class_ 2), (0, u "java/lang/Comparable"), (0, .class_ 4), (0, u "java/lang/Object")] 7

/-- java/lang/Comparable -/
def k3 : Class := { plain "java/lang/Comparable" (some 0) with
  accessFlags := 1537
  interfaces := #[]
  cf := some (fileOf pool3 1 #[] #[] 1537 3 #[] #[])
  fields := #[]
  methods := #[]
  instanceTypes := #[]
  staticTypes := #[]
  resolved := Array.replicate 12 none
  statics := none }

def pool4 : Array CpInfo := pool [(1, .class_ 2), (0, u "java/io/Serializable"), (0, .class_ 4), (0, u "java/lang/Object")] 2

/-- java/io/Serializable -/
def k4 : Class := { plain "java/io/Serializable" (some 0) with
  accessFlags := 1537
  interfaces := #[]
  cf := some (fileOf pool4 1 #[] #[] 1537 3 #[] #[])
  fields := #[]
  methods := #[]
  instanceTypes := #[]
  staticTypes := #[]
  resolved := Array.replicate 7 none
  statics := none }

def pool5 : Array CpInfo := pool [(2, .class_ 4), (1, u "java/lang/Enum"), (0, u "name"), (0, u "Ljava/lang/String;"), (2, u "ordinal"), (0, u "I"), (1, .class_ 14), (1, u "java/lang/Object"), (4, u "hash"), (86, .class_ 108), (1, u "java/lang/Enum$EnumDesc"), (2, .class_ 112), (0, u "java/lang/constant/Constable"), (0, .class_ 114), (0, u "java/lang/Comparable"), (0, .class_ 116), (0, u "java/io/Serializable")] 87

/-- java/lang/Enum -/
def k5 : Class := { plain "java/lang/Enum" (some 0) with
  accessFlags := 1057
  interfaces := #[2, 3, 4]
  cf := some (fileOf pool5 2 #[.nestMembers #[106]] #[] 1057 12 #[111, 113, 115] #[{ accessFlags := 18, nameIndex := 5, descriptorIndex := 6, attributes := #[] }, { accessFlags := 18, nameIndex := 9, descriptorIndex := 10, attributes := #[] }, { accessFlags := 2, nameIndex := 19, descriptorIndex := 10, attributes := #[] }])
  fields := #[{ name := "name", type := (.object "java/lang/String"), accessFlags := 18, slot := 0, constantValue := 0 }, { name := "ordinal", type := .int, accessFlags := 18, slot := 1, constantValue := 0 }, { name := "hash", type := .int, accessFlags := 2, slot := 2, constantValue := 0 }]
  methods := #[]
  instanceTypes := #[(.object "java/lang/String"), .int, .int]
  staticTypes := #[]
  resolved := Array.replicate 204 none
  statics := none }

def pool6 : Array CpInfo := pool [(1, .class_ 2), (0, u "com/example/triage/triage/search/CaseTopics$Type"), (2, u "DIAGNOSIS"), (0, u "Lcom/example/triage/triage/search/CaseTopics$Type;"), (2, u "TEST"), (2, u "TREATMENT"), (2, u "$VALUES"), (0, u "[Lcom/example/triage/triage/search/CaseTopics$Type;"), (6, .class_ 25), (1, u "java/lang/Enum"), (26, .class_ 53), (0, u "com/example/triage/triage/search/CaseTopics")] 2

/-- com/example/triage/triage/search/CaseTopics$Type -/
def k6 : Class := { plain "com/example/triage/triage/search/CaseTopics$Type" (some 5) with
  accessFlags := 16433
  interfaces := #[]
  cf := some (fileOf pool6 1 #[.nestHost 52] #[] 16433 23 #[] #[{ accessFlags := 16409, nameIndex := 5, descriptorIndex := 6, attributes := #[] }, { accessFlags := 16409, nameIndex := 9, descriptorIndex := 6, attributes := #[] }, { accessFlags := 16409, nameIndex := 12, descriptorIndex := 6, attributes := #[] }, { accessFlags := 4122, nameIndex := 15, descriptorIndex := 16, attributes := #[] }])
  fields := #[{ name := "DIAGNOSIS", type := (.object "com/example/triage/triage/search/CaseTopics$Type"), accessFlags := 16409, slot := 0, constantValue := 0 }, { name := "TEST", type := (.object "com/example/triage/triage/search/CaseTopics$Type"), accessFlags := 16409, slot := 1, constantValue := 0 }, { name := "TREATMENT", type := (.object "com/example/triage/triage/search/CaseTopics$Type"), accessFlags := 16409, slot := 2, constantValue := 0 }, { name := "$VALUES", type := (.array (.object "com/example/triage/triage/search/CaseTopics$Type")), accessFlags := 4122, slot := 3, constantValue := 0 }]
  methods := #[]
  instanceTypes := #[(.object "java/lang/String"), .int, .int]
  staticTypes := #[(.object "com/example/triage/triage/search/CaseTopics$Type"), (.object "com/example/triage/triage/search/CaseTopics$Type"), (.object "com/example/triage/triage/search/CaseTopics$Type"), (.array (.object "com/example/triage/triage/search/CaseTopics$Type"))]
  resolved := Array.replicate 56 none
  statics := some 0 }

def pool7 : Array CpInfo := pool [(2, .class_ 4), (1, u "java/lang/CharSequence"), (42, .class_ 48), (0, u "java/lang/CharSequence$1CodePointIterator"), (10, .class_ 60), (0, u "java/lang/CharSequence$1CharIterator"), (5, .class_ 67), (0, u "java/lang/Object")] 63

/-- java/lang/CharSequence -/
def k7 : Class := { plain "java/lang/CharSequence" (some 0) with
  accessFlags := 1537
  interfaces := #[]
  cf := some (fileOf pool7 2 #[.nestMembers #[47, 59]] #[] 1537 66 #[] #[])
  fields := #[]
  methods := #[]
  instanceTypes := #[]
  staticTypes := #[]
  resolved := Array.replicate 131 none
  statics := none }

def pool8 : Array CpInfo := pool [(1, .class_ 2), (0, u "java/lang/constant/ConstantDesc"), (0, .class_ 4), (0, u "java/lang/Object")] 32

/-- java/lang/constant/ConstantDesc -/
def k8 : Class := { plain "java/lang/constant/ConstantDesc" (some 0) with
  accessFlags := 1537
  interfaces := #[]
  cf := some (fileOf pool8 1 #[] #[] 1537 3 #[] #[])
  fields := #[]
  methods := #[]
  instanceTypes := #[]
  staticTypes := #[]
  resolved := Array.replicate 37 none
  statics := none }

def pool9 : Array CpInfo := pool [(1, .methodref 2 3), (0, .class_ 4), (0, .nameAndType 5 6), (0, u "java/lang/Object"), (0, u "<init>"), (0, u "()V"), (2, .fieldref 10 11), (0, .class_ 12), (0, .nameAndType 13 14), (0, u "java/lang/String"), (0, u "value"), (0, u "[B"), (0, .fieldref 10 16), (0, .nameAndType 17 18), (0, u "coder"), (0, u "B"), (2, u "hash"), (0, u "I"), (2, u "hashIsZero"), (0, u "Z"), (0, .methodref 10 28), (0, .nameAndType 5 29), (0, u "([CIILjava/lang/Void;)V"), (8, .fieldref 10 39), (0, .nameAndType 40 26), (0, u "COMPACT_STRINGS"), (1, .class_ 44), (1, u "java/lang/StringUTF16"), (0, u "compress"), (1, .methodref 42 48), (0, .nameAndType 49 50), (0, u "coderFromArrayLen"), (0, u "([BI)B"), (3, .methodref 55 56), (0, .class_ 57), (0, .nameAndType 58 59), (0, u "java/util/Arrays"), (0, u "copyOfRange"), (0, u "([BII)[B"), (47, .class_ 109), (1, u "java/lang/StringLatin1"), (32, u "()Z"), (34, .methodref 42 178), (0, .nameAndType 45 179), (0, u "([CII)[B"), (13, .class_ 195), (1, u "java/lang/System"), (16, .methodref 193 213), (0, .nameAndType 214 215), (0, u "arraycopy"), (0, u "(Ljava/lang/Object;ILjava/lang/Object;II)V"), (118, u "()I"), (0, .methodref 10 336), (0, .nameAndType 17 337), (0, u "()B"), (2, u "()[B"), (148, .methodref 10 490), (0, .nameAndType 5 491), (0, u "(Ljava/lang/AbstractStringBuilder;Ljava/lang/Void;)V"), (1, .nameAndType 494 142), (0, u "isLatin1"), (11, .nameAndType 507 334), (0, u "length"), (24, u "getBytes"), (8, .methodref 107 542), (0, .nameAndType 543 544), (0, u "equals"), (0, u "([B[B)Z"), (4, .methodref 550 506), (0, .class_ 551), (0, u "java/lang/AbstractStringBuilder"), (0, .methodref 550 553), (0, .nameAndType 554 340), (0, u "getValue"), (18, u "(Ljava/lang/Object;)Z"), (1, .class_ 576), (0, u "java/lang/CharSequence"), (22, u "CASE_INSENSITIVE_ORDER"), (0, u "Ljava/util/Comparator;"), (220, u "([BIB)V"), (188, u "([C)V"), (36, .methodref 550 493), (53, u "serialPersistentFields"), (0, u "[Ljava/io/ObjectStreamField;"), (0, .class_ 1104), (0, u "java/lang/String$CaseInsensitiveComparator"), (1, .class_ 1107), (0, u "java/io/Serializable"), (0, .class_ 1109), (0, u "java/lang/Comparable"), (0, .class_ 1111), (0, u "java/lang/constant/Constable"), (0, .class_ 1113), (0, u "java/lang/constant/ConstantDesc"), (2, u "serialVersionUID"), (0, u "J"), (3, u "REPL"), (0, u "C"), (2, u "LATIN1"), (1, u "UTF16"), (105, u "(Ljava/lang/StringBuilder;)V")] 217

def k9m0 : Method := { name := "<init>", desc := "()V", sig := { parameters := [], returnType := none }, accessFlags := 1, code := none }
def k9c1 : Code := { maxStack := 5, maxLocals := 2, code := jdk_42_method_3_code, exceptionTable := #[], attributes := #[] }
def k9m1 : Method := { name := "<init>", desc := "([C)V", sig := { parameters := [(.array .char)], returnType := none }, accessFlags := 1, code := some k9c1 }
def k9c2 : Code := { maxStack := 3, maxLocals := 2, code := jdk_42_method_53_code, exceptionTable := #[], attributes := #[] }
def k9m2 : Method := { name := "<init>", desc := "(Ljava/lang/StringBuilder;)V", sig := { parameters := [(.object "java/lang/StringBuilder")], returnType := none }, accessFlags := 1, code := some k9c2 }
def k9c3 : Code := { maxStack := 2, maxLocals := 1, code := jdk_42_method_54_code, exceptionTable := #[], attributes := #[] }
def k9m3 : Method := { name := "length", desc := "()I", sig := { parameters := [], returnType := some .int }, accessFlags := 1, code := some k9c3 }
def k9c4 : Code := { maxStack := 2, maxLocals := 3, code := jdk_42_method_66_code, exceptionTable := #[], attributes := #[] }
def k9m4 : Method := { name := "equals", desc := "(Ljava/lang/Object;)Z", sig := { parameters := [(.object "java/lang/Object")], returnType := some .boolean }, accessFlags := 1, code := some k9c4 }
def k9c5 : Code := { maxStack := 5, maxLocals := 4, code := jdk_42_method_147_code, exceptionTable := #[], attributes := #[] }
def k9m5 : Method := { name := "getBytes", desc := "([BIB)V", sig := { parameters := [(.array .byte), .int, .byte], returnType := none }, accessFlags := 0, code := some k9c5 }
def k9c6 : Code := { maxStack := 4, maxLocals := 6, code := jdk_42_method_149_code, exceptionTable := #[], attributes := #[] }
def k9m6 : Method := { name := "<init>", desc := "([CIILjava/lang/Void;)V", sig := { parameters := [(.array .char), .int, .int, (.object "java/lang/Void")], returnType := none }, accessFlags := 2, code := some k9c6 }
def k9c7 : Code := { maxStack := 5, maxLocals := 5, code := jdk_42_method_150_code, exceptionTable := #[], attributes := #[] }
def k9m7 : Method := { name := "<init>", desc := "(Ljava/lang/AbstractStringBuilder;Ljava/lang/Void;)V", sig := { parameters := [(.object "java/lang/AbstractStringBuilder"), (.object "java/lang/Void")], returnType := none }, accessFlags := 0, code := some k9c7 }
def k9c8 : Code := { maxStack := 1, maxLocals := 1, code := jdk_42_method_152_code, exceptionTable := #[], attributes := #[] }
def k9m8 : Method := { name := "coder", desc := "()B", sig := { parameters := [], returnType := some .byte }, accessFlags := 0, code := some k9c8 }
/-- java/lang/String -/
def k9 : Class := { plain "java/lang/String" (some 0) with
  accessFlags := 49
  interfaces := #[4, 3, 7, 2, 8]
  cf := some (fileOf pool9 10 #[.nestMembers #[1103]] #[{ accessFlags := 1, nameIndex := 5, descriptorIndex := 6, attributes := #[] }, { accessFlags := 1, nameIndex := 5, descriptorIndex := 1010, attributes := #[] }, { accessFlags := 1, nameIndex := 5, descriptorIndex := 1233, attributes := #[] }, { accessFlags := 1, nameIndex := 507, descriptorIndex := 334, attributes := #[] }, { accessFlags := 1, nameIndex := 543, descriptorIndex := 573, attributes := #[] }, { accessFlags := 0, nameIndex := 532, descriptorIndex := 821, attributes := #[] }, { accessFlags := 2, nameIndex := 5, descriptorIndex := 29, attributes := #[] }, { accessFlags := 0, nameIndex := 5, descriptorIndex := 491, attributes := #[] }, { accessFlags := 0, nameIndex := 17, descriptorIndex := 337, attributes := #[] }] 49 2 #[1106, 1108, 575, 1110, 1112] #[{ accessFlags := 18, nameIndex := 13, descriptorIndex := 14, attributes := #[] }, { accessFlags := 18, nameIndex := 17, descriptorIndex := 18, attributes := #[] }, { accessFlags := 2, nameIndex := 21, descriptorIndex := 22, attributes := #[] }, { accessFlags := 2, nameIndex := 25, descriptorIndex := 26, attributes := #[] }, { accessFlags := 26, nameIndex := 1116, descriptorIndex := 1117, attributes := #[] }, { accessFlags := 24, nameIndex := 40, descriptorIndex := 26, attributes := #[] }, { accessFlags := 26, nameIndex := 1101, descriptorIndex := 1102, attributes := #[] }, { accessFlags := 26, nameIndex := 1121, descriptorIndex := 1122, attributes := #[] }, { accessFlags := 25, nameIndex := 599, descriptorIndex := 600, attributes := #[] }, { accessFlags := 24, nameIndex := 1125, descriptorIndex := 18, attributes := #[] }, { accessFlags := 24, nameIndex := 1127, descriptorIndex := 18, attributes := #[] }])
  fields := #[{ name := "value", type := (.array .byte), accessFlags := 18, slot := 0, constantValue := 0 }, { name := "coder", type := .byte, accessFlags := 18, slot := 1, constantValue := 0 }, { name := "hash", type := .int, accessFlags := 2, slot := 2, constantValue := 0 }, { name := "hashIsZero", type := .boolean, accessFlags := 2, slot := 3, constantValue := 0 }, { name := "serialVersionUID", type := .long, accessFlags := 26, slot := 0, constantValue := 0 }, { name := "COMPACT_STRINGS", type := .boolean, accessFlags := 24, slot := 1, constantValue := 0 }, { name := "serialPersistentFields", type := (.array (.object "java/io/ObjectStreamField")), accessFlags := 26, slot := 2, constantValue := 0 }, { name := "REPL", type := .char, accessFlags := 26, slot := 3, constantValue := 0 }, { name := "CASE_INSENSITIVE_ORDER", type := (.object "java/util/Comparator"), accessFlags := 25, slot := 4, constantValue := 0 }, { name := "LATIN1", type := .byte, accessFlags := 24, slot := 5, constantValue := 0 }, { name := "UTF16", type := .byte, accessFlags := 24, slot := 6, constantValue := 0 }]
  methods := #[k9m0, k9m1, k9m2, k9m3, k9m4, k9m5, k9m6, k9m7, k9m8]
  instanceTypes := #[(.array .byte), .byte, .int, .boolean]
  staticTypes := #[.long, .boolean, (.array (.object "java/io/ObjectStreamField")), .char, (.object "java/util/Comparator"), .byte, .byte]
  resolved := Array.replicate 1451 none
  statics := some 1 }

def pool10 : Array CpInfo := pool [(6, .class_ 8), (1, u "java/lang/Object"), (0, u "<init>"), (0, u "()V"), (1, .class_ 14), (1, u "java/lang/StringUTF16"), (31, u "$assertionsDisabled"), (0, u "Z"), (13, u "HI_BYTE_SHIFT"), (0, u "I"), (2, u "LO_BYTE_SHIFT"), (49, .methodref 12 116), (0, .nameAndType 117 118), (0, u "compress"), (0, u "([CI[BII)I"), (3, u "([CII)[B"), (138, u "coderFromArrayLen"), (0, u "([BI)B"), (106, .class_ 371), (1, u "java/lang/StringUTF16$LinesSpliterator"), (58, u "MAX_LENGTH"), (196, .class_ 628), (0, u "java/lang/StringUTF16$CodePointsSpliterator"), (0, .class_ 630), (0, u "java/lang/StringUTF16$CharsSpliterator")] 4

def k10m0 : Method := { name := "<init>", desc := "()V", sig := { parameters := [], returnType := none }, accessFlags := 0, code := none }
def k10c1 : Code := { maxStack := 2, maxLocals := 2, code := jdk_52_method_15_code, exceptionTable := #[], attributes := #[] }
def k10m1 : Method := { name := "coderFromArrayLen", desc := "([BI)B", sig := { parameters := [(.array .byte), .int], returnType := some .byte }, accessFlags := 8, code := some k10c1 }
def k10c2 : Code := { maxStack := 5, maxLocals := 6, code := jdk_52_method_16_code, exceptionTable := #[], attributes := #[] }
def k10m2 : Method := { name := "compress", desc := "([CII)[B", sig := { parameters := [(.array .char), .int, .int], returnType := some (.array .byte) }, accessFlags := 9, code := some k10c2 }
def k10c3 : Code := { maxStack := 3, maxLocals := 7, code := jdk_52_method_21_code, exceptionTable := #[], attributes := #[] }
def k10m3 : Method := { name := "compress", desc := "([CI[BII)I", sig := { parameters := [(.array .char), .int, (.array .byte), .int, .int], returnType := some .int }, accessFlags := 9, code := some k10c3 }
/-- java/lang/StringUTF16 -/
def k10 : Class := { plain "java/lang/StringUTF16" (some 0) with
  accessFlags := 48
  interfaces := #[]
  cf := some (fileOf pool10 12 #[.nestMembers #[627, 629, 369]] #[{ accessFlags := 0, nameIndex := 9, descriptorIndex := 10, attributes := #[] }, { accessFlags := 8, nameIndex := 261, descriptorIndex := 262, attributes := #[] }, { accessFlags := 9, nameIndex := 117, descriptorIndex := 122, attributes := #[] }, { accessFlags := 9, nameIndex := 117, descriptorIndex := 118, attributes := #[] }] 48 6 #[] #[{ accessFlags := 26, nameIndex := 61, descriptorIndex := 62, attributes := #[] }, { accessFlags := 26, nameIndex := 65, descriptorIndex := 62, attributes := #[] }, { accessFlags := 24, nameIndex := 430, descriptorIndex := 62, attributes := #[] }, { accessFlags := 4120, nameIndex := 46, descriptorIndex := 47, attributes := #[] }])
  fields := #[{ name := "HI_BYTE_SHIFT", type := .int, accessFlags := 26, slot := 0, constantValue := 0 }, { name := "LO_BYTE_SHIFT", type := .int, accessFlags := 26, slot := 1, constantValue := 0 }, { name := "MAX_LENGTH", type := .int, accessFlags := 24, slot := 2, constantValue := 0 }, { name := "$assertionsDisabled", type := .boolean, accessFlags := 4120, slot := 3, constantValue := 0 }]
  methods := #[k10m0, k10m1, k10m2, k10m3]
  instanceTypes := #[]
  staticTypes := #[.int, .int, .int, .boolean]
  resolved := Array.replicate 635 none
  statics := none }

def pool11 : Array CpInfo := pool [(1, .fieldref 2 3), (0, .class_ 4), (0, .nameAndType 5 6), (0, u "java/util/Optional"), (0, u "EMPTY"), (0, u "Ljava/util/Optional;"), (0, .methodref 8 9), (0, .class_ 10), (0, .nameAndType 11 12), (0, u "java/lang/Object"), (0, u "<init>"), (0, u "()V"), (0, .fieldref 2 14), (0, .nameAndType 15 16), (0, u "value"), (0, u "Ljava/lang/Object;"), (0, .methodref 18 19), (0, .class_ 20), (0, .nameAndType 21 22), (0, u "java/util/Objects"), (0, u "requireNonNull"), (0, u "(Ljava/lang/Object;)Ljava/lang/Object;"), (0, .methodref 2 24), (0, .nameAndType 11 25), (0, u "(Ljava/lang/Object;)V"), (20, u "()Z"), (8, u "empty"), (0, u "()Ljava/util/Optional;"), (8, u "(Ljava/lang/Object;)Ljava/util/Optional;"), (2, u "isPresent"), (4, u "get"), (0, u "()Ljava/lang/Object;"), (7, u "of")] 104

def k11c0 : Code := { maxStack := 1, maxLocals := 1, code := jdk_32_method_1_code, exceptionTable := #[], attributes := #[] }
def k11m0 : Method := { name := "empty", desc := "()Ljava/util/Optional;", sig := { parameters := [], returnType := some (.object "java/util/Optional") }, accessFlags := 9, code := some k11c0 }
def k11c1 : Code := { maxStack := 2, maxLocals := 2, code := jdk_32_method_2_code, exceptionTable := #[], attributes := #[] }
def k11m1 : Method := { name := "<init>", desc := "(Ljava/lang/Object;)V", sig := { parameters := [(.object "java/lang/Object")], returnType := none }, accessFlags := 2, code := some k11c1 }
def k11c2 : Code := { maxStack := 3, maxLocals := 1, code := jdk_32_method_3_code, exceptionTable := #[], attributes := #[] }
def k11m2 : Method := { name := "of", desc := "(Ljava/lang/Object;)Ljava/util/Optional;", sig := { parameters := [(.object "java/lang/Object")], returnType := some (.object "java/util/Optional") }, accessFlags := 9, code := some k11c2 }
def k11c3 : Code := { maxStack := 3, maxLocals := 1, code := jdk_32_method_5_code, exceptionTable := #[], attributes := #[] }
def k11m3 : Method := { name := "get", desc := "()Ljava/lang/Object;", sig := { parameters := [], returnType := some (.object "java/lang/Object") }, accessFlags := 1, code := some k11c3 }
def k11c4 : Code := { maxStack := 1, maxLocals := 1, code := jdk_32_method_6_code, exceptionTable := #[], attributes := #[] }
def k11m4 : Method := { name := "isPresent", desc := "()Z", sig := { parameters := [], returnType := some .boolean }, accessFlags := 1, code := some k11c4 }
/-- java/util/Optional -/
def k11 : Class := { plain "java/util/Optional" (some 0) with
  accessFlags := 49
  interfaces := #[]
  cf := some (fileOf pool11 2 #[] #[{ accessFlags := 9, nameIndex := 55, descriptorIndex := 56, attributes := #[] }, { accessFlags := 2, nameIndex := 11, descriptorIndex := 25, attributes := #[] }, { accessFlags := 9, nameIndex := 82, descriptorIndex := 65, attributes := #[] }, { accessFlags := 1, nameIndex := 73, descriptorIndex := 74, attributes := #[] }, { accessFlags := 1, nameIndex := 68, descriptorIndex := 46, attributes := #[] }] 49 8 #[] #[{ accessFlags := 26, nameIndex := 5, descriptorIndex := 6, attributes := #[] }, { accessFlags := 18, nameIndex := 15, descriptorIndex := 16, attributes := #[] }])
  fields := #[{ name := "EMPTY", type := (.object "java/util/Optional"), accessFlags := 26, slot := 0, constantValue := 0 }, { name := "value", type := (.object "java/lang/Object"), accessFlags := 18, slot := 0, constantValue := 0 }]
  methods := #[k11m0, k11m1, k11m2, k11m3, k11m4]
  instanceTypes := #[(.object "java/lang/Object")]
  staticTypes := #[(.object "java/util/Optional")]
  resolved := Array.replicate 187 none
  statics := some 2 }

def pool12 : Array CpInfo := pool [(1, .methodref 2 3), (0, .class_ 4), (0, .nameAndType 5 6), (0, u "java/lang/Object"), (0, u "<init>"), (0, u "()V"), (0, .class_ 8), (0, u "java/lang/Record")] 13

def k12c0 : Code := { maxStack := 1, maxLocals := 1, code := jdk_30_method_1_code, exceptionTable := #[], attributes := #[] }
def k12m0 : Method := { name := "<init>", desc := "()V", sig := { parameters := [], returnType := none }, accessFlags := 4, code := some k12c0 }
/-- java/lang/Record -/
def k12 : Class := { plain "java/lang/Record" (some 0) with
  accessFlags := 1057
  interfaces := #[]
  cf := some (fileOf pool12 7 #[] #[{ accessFlags := 4, nameIndex := 5, descriptorIndex := 6, attributes := #[] }] 1057 2 #[] #[])
  fields := #[]
  methods := #[k12m0]
  instanceTypes := #[]
  staticTypes := #[]
  resolved := Array.replicate 22 none
  statics := none }

def pool13 : Array CpInfo := pool [(1, .methodref 2 3), (0, .class_ 4), (0, .nameAndType 5 6), (0, u "java/lang/Record"), (0, u "<init>"), (0, u "()V"), (0, .fieldref 8 9), (0, .class_ 10), (0, .nameAndType 11 12), (0, u "com/example/triage/triage/search/CaseTopics$Topic"), (0, u "number"), (0, u "I"), (0, .fieldref 8 14), (0, .nameAndType 15 16), (0, u "type"), (0, u "Lcom/example/triage/triage/search/CaseTopics$Type;"), (0, .fieldref 8 18), (0, .nameAndType 19 20), (0, u "description"), (0, u "Ljava/lang/String;"), (0, .fieldref 8 22), (0, .nameAndType 23 20), (0, u "summary"), (0, .fieldref 8 25), (0, .nameAndType 26 27), (0, u "diagnosis"), (0, u "Ljava/util/Optional;"), (0, .fieldref 29 30), (0, .class_ 31), (0, .nameAndType 32 33), (0, u "com/example/triage/triage/search/CaseTopics$Narrative"), (0, u "SUMMARY"), (0, u "Lcom/example/triage/triage/search/CaseTopics$Narrative;"), (0, .methodref 35 36), (0, .class_ 37), (0, .nameAndType 38 39), (0, u "java/util/Optional"), (0, u "isPresent"), (0, u "()Z"), (0, .class_ 41), (0, u "java/lang/StringBuilder"), (0, .methodref 40 3), (0, .methodref 40 44), (0, .nameAndType 45 46), (0, u "append"), (0, u "(Ljava/lang/String;)Ljava/lang/StringBuilder;"), (0, .string 48), (0, u "\n"), (0, .methodref 35 50), (0, .nameAndType 51 52), (0, u "get"), (0, u "()Ljava/lang/Object;"), (0, .class_ 54), (0, u "java/lang/String"), (0, .methodref 40 56), (0, .nameAndType 57 58), (0, u "toString"), (0, u "()Ljava/lang/String;"), (13, u "(ILcom/example/triage/triage/search/CaseTopics$Type;Ljava/lang/String;Ljava/lang/String;Ljava/util/Optional;)V"), (4, u "query"), (0, u "(Lcom/example/triage/triage/search/CaseTopics$Narrative;Z)Ljava/lang/String;"), (9, .class_ 89), (0, u "com/example/triage/triage/search/CaseTopics")] 27

def k13c0 : Code := { maxStack := 2, maxLocals := 6, code := prog_40_method_1_code, exceptionTable := #[], attributes := #[] }
def k13m0 : Method := { name := "<init>", desc := "(ILcom/example/triage/triage/search/CaseTopics$Type;Ljava/lang/String;Ljava/lang/String;Ljava/util/Optional;)V", sig := { parameters := [.int, (.object "com/example/triage/triage/search/CaseTopics$Type"), (.object "java/lang/String"), (.object "java/lang/String"), (.object "java/util/Optional")], returnType := none }, accessFlags := 1, code := some k13c0 }
def k13c1 : Code := { maxStack := 2, maxLocals := 4, code := prog_40_method_2_code, exceptionTable := #[], attributes := #[] }
def k13m1 : Method := { name := "query", desc := "(Lcom/example/triage/triage/search/CaseTopics$Narrative;Z)Ljava/lang/String;", sig := { parameters := [(.object "com/example/triage/triage/search/CaseTopics$Narrative"), .boolean], returnType := some (.object "java/lang/String") }, accessFlags := 1, code := some k13c1 }
/-- com/example/triage/triage/search/CaseTopics$Topic -/
def k13 : Class := { plain "com/example/triage/triage/search/CaseTopics$Topic" (some 12) with
  accessFlags := 49
  interfaces := #[]
  cf := some (fileOf pool13 8 #[.nestHost 88] #[{ accessFlags := 1, nameIndex := 5, descriptorIndex := 72, attributes := #[] }, { accessFlags := 1, nameIndex := 77, descriptorIndex := 78, attributes := #[] }] 49 2 #[] #[{ accessFlags := 18, nameIndex := 11, descriptorIndex := 12, attributes := #[] }, { accessFlags := 18, nameIndex := 15, descriptorIndex := 16, attributes := #[] }, { accessFlags := 18, nameIndex := 19, descriptorIndex := 20, attributes := #[] }, { accessFlags := 18, nameIndex := 23, descriptorIndex := 20, attributes := #[] }, { accessFlags := 18, nameIndex := 26, descriptorIndex := 27, attributes := #[] }])
  fields := #[{ name := "number", type := .int, accessFlags := 18, slot := 0, constantValue := 0 }, { name := "type", type := (.object "com/example/triage/triage/search/CaseTopics$Type"), accessFlags := 18, slot := 1, constantValue := 0 }, { name := "description", type := (.object "java/lang/String"), accessFlags := 18, slot := 2, constantValue := 0 }, { name := "summary", type := (.object "java/lang/String"), accessFlags := 18, slot := 3, constantValue := 0 }, { name := "diagnosis", type := (.object "java/util/Optional"), accessFlags := 18, slot := 4, constantValue := 0 }]
  methods := #[k13m0, k13m1]
  instanceTypes := #[.int, (.object "com/example/triage/triage/search/CaseTopics$Type"), (.object "java/lang/String"), (.object "java/lang/String"), (.object "java/util/Optional")]
  staticTypes := #[]
  resolved := Array.replicate 117 none
  statics := none }

def pool14 : Array CpInfo := pool [(1, .class_ 2), (0, u "com/example/triage/triage/search/CaseTopics$Narrative"), (2, u "DESCRIPTION"), (0, u "Lcom/example/triage/triage/search/CaseTopics$Narrative;"), (2, u "SUMMARY"), (2, u "$VALUES"), (0, u "[Lcom/example/triage/triage/search/CaseTopics$Narrative;"), (6, .class_ 22), (1, u "java/lang/Enum"), (25, .class_ 49), (0, u "com/example/triage/triage/search/CaseTopics")] 2

/-- com/example/triage/triage/search/CaseTopics$Narrative -/
def k14 : Class := { plain "com/example/triage/triage/search/CaseTopics$Narrative" (some 5) with
  accessFlags := 16433
  interfaces := #[]
  cf := some (fileOf pool14 1 #[.nestHost 48] #[] 16433 20 #[] #[{ accessFlags := 16409, nameIndex := 5, descriptorIndex := 6, attributes := #[] }, { accessFlags := 16409, nameIndex := 9, descriptorIndex := 6, attributes := #[] }, { accessFlags := 4122, nameIndex := 12, descriptorIndex := 13, attributes := #[] }])
  fields := #[{ name := "DESCRIPTION", type := (.object "com/example/triage/triage/search/CaseTopics$Narrative"), accessFlags := 16409, slot := 0, constantValue := 0 }, { name := "SUMMARY", type := (.object "com/example/triage/triage/search/CaseTopics$Narrative"), accessFlags := 16409, slot := 1, constantValue := 0 }, { name := "$VALUES", type := (.array (.object "com/example/triage/triage/search/CaseTopics$Narrative")), accessFlags := 4122, slot := 2, constantValue := 0 }]
  methods := #[]
  instanceTypes := #[(.object "java/lang/String"), .int, .int]
  staticTypes := #[(.object "com/example/triage/triage/search/CaseTopics$Narrative"), (.object "com/example/triage/triage/search/CaseTopics$Narrative"), (.array (.object "com/example/triage/triage/search/CaseTopics$Narrative"))]
  resolved := Array.replicate 52 none
  statics := some 3 }

def pool15 : Array CpInfo := pool [(4, .class_ 6), (1, u "java/lang/Object"), (0, u "<init>"), (0, u "()V"), (5, .class_ 16), (1, u "java/lang/StringLatin1"), (104, u "$assertionsDisabled"), (0, u "Z"), (98, .class_ 223), (1, u "java/lang/StringLatin1$LinesSpliterator"), (57, u "equals"), (0, u "([B[B)Z"), (107, .class_ 391), (0, u "java/lang/StringLatin1$CharsSpliterator")] 3

def k15m0 : Method := { name := "<init>", desc := "()V", sig := { parameters := [], returnType := none }, accessFlags := 0, code := none }
def k15c1 : Code := { maxStack := 3, maxLocals := 3, code := jdk_43_method_13_code, exceptionTable := #[], attributes := #[] }
def k15m1 : Method := { name := "equals", desc := "([B[B)Z", sig := { parameters := [(.array .byte), (.array .byte)], returnType := some .boolean }, accessFlags := 9, code := some k15c1 }
/-- java/lang/StringLatin1 -/
def k15 : Class := { plain "java/lang/StringLatin1" (some 0) with
  accessFlags := 48
  interfaces := #[]
  cf := some (fileOf pool15 14 #[.nestMembers #[390, 221]] #[{ accessFlags := 0, nameIndex := 7, descriptorIndex := 8, attributes := #[] }, { accessFlags := 9, nameIndex := 281, descriptorIndex := 282, attributes := #[] }] 48 4 #[] #[{ accessFlags := 4120, nameIndex := 121, descriptorIndex := 122, attributes := #[] }])
  fields := #[{ name := "$assertionsDisabled", type := .boolean, accessFlags := 4120, slot := 0, constantValue := 0 }]
  methods := #[k15m0, k15m1]
  instanceTypes := #[]
  staticTypes := #[.boolean]
  resolved := Array.replicate 395 none
  statics := none }

def pool16 : Array CpInfo := pool [(2, .class_ 4), (1, u "java/lang/Object"), (0, u "<init>"), (0, u "()V"), (35, .class_ 44), (1, u "java/util/Objects"), (0, u "requireNonNull"), (0, u "(Ljava/lang/Object;)Ljava/lang/Object;")] 137

def k16m0 : Method := { name := "<init>", desc := "()V", sig := { parameters := [], returnType := none }, accessFlags := 2, code := none }
def k16c1 : Code := { maxStack := 2, maxLocals := 1, code := jdk_31_method_10_code, exceptionTable := #[], attributes := #[] }
def k16m1 : Method := { name := "requireNonNull", desc := "(Ljava/lang/Object;)Ljava/lang/Object;", sig := { parameters := [(.object "java/lang/Object")], returnType := some (.object "java/lang/Object") }, accessFlags := 9, code := some k16c1 }
/-- java/util/Objects -/
def k16 : Class := { plain "java/util/Objects" (some 0) with
  accessFlags := 49
  interfaces := #[]
  cf := some (fileOf pool16 42 #[] #[{ accessFlags := 2, nameIndex := 5, descriptorIndex := 6, attributes := #[] }, { accessFlags := 9, nameIndex := 45, descriptorIndex := 46, attributes := #[] }] 49 2 #[] #[])
  fields := #[]
  methods := #[k16m0, k16m1]
  instanceTypes := #[]
  staticTypes := #[]
  resolved := Array.replicate 184 none
  statics := none }

def pool17 : Array CpInfo := pool [(1, .class_ 2), (0, u "java/lang/Appendable"), (0, .class_ 4), (0, u "java/lang/Object")] 9

/-- java/lang/Appendable -/
def k17 : Class := { plain "java/lang/Appendable" (some 0) with
  accessFlags := 1537
  interfaces := #[]
  cf := some (fileOf pool17 1 #[] #[] 1537 3 #[] #[])
  fields := #[]
  methods := #[]
  instanceTypes := #[]
  staticTypes := #[]
  resolved := Array.replicate 14 none
  statics := none }

def pool18 : Array CpInfo := pool [(1, .class_ 2), (0, u "java/lang/String"), (0, .methodref 4 5), (0, .class_ 6), (0, .nameAndType 7 8), (0, u "java/lang/Object"), (0, u "<init>"), (0, u "()V"), (1, .class_ 12), (1, u "java/lang/AbstractStringBuilder"), (0, u "EMPTYVALUE"), (0, u "[B"), (0, .fieldref 10 16), (0, .nameAndType 17 14), (0, u "value"), (0, .fieldref 1 19), (0, .nameAndType 20 21), (0, u "COMPACT_STRINGS"), (0, u "Z"), (0, .fieldref 10 23), (0, .nameAndType 24 25), (0, u "coder"), (0, u "B"), (6, .methodref 1 33), (0, .nameAndType 34 35), (0, u "length"), (0, u "()I"), (4, .methodref 1 41), (0, .nameAndType 24 42), (0, u "()B"), (2, u "append"), (0, u "(Ljava/lang/String;)Ljava/lang/AbstractStringBuilder;"), (1, .class_ 49), (0, u "java/lang/CharSequence"), (19, u "(Ljava/lang/String;)V"), (5, u "maybeLatin1"), (3, .fieldref 10 80), (0, .nameAndType 81 82), (0, u "count"), (0, u "I"), (2, u "isLatin1"), (0, u "()Z"), (13, .methodref 10 101), (0, .nameAndType 102 103), (0, u "ensureCapacityInternal"), (0, u "(I)V"), (104, .methodref 10 209), (0, .nameAndType 210 211), (0, u "putStringAt"), (0, u "(ILjava/lang/String;)V"), (5, u "inflateIfNeededFor"), (2, .nameAndType 221 222), (0, u "getBytes"), (0, u "([BIB)V"), (174, .methodref 10 398), (0, .nameAndType 217 69), (0, .methodref 1 220), (3, u "()[B"), (40, .class_ 445), (0, u "java/lang/Appendable"), (106, u "getValue")] 56

def k18m0 : Method := { name := "<init>", desc := "()V", sig := { parameters := [], returnType := none }, accessFlags := 0, code := none }
def k18c1 : Code := { maxStack := 2, maxLocals := 2, code := jdk_68_method_2_code, exceptionTable := #[], attributes := #[] }
def k18m1 : Method := { name := "<init>", desc := "(I)V", sig := { parameters := [.int], returnType := none }, accessFlags := 0, code := some k18c1 }
def k18c2 : Code := { maxStack := 1, maxLocals := 1, code := jdk_68_method_6_code, exceptionTable := #[], attributes := #[] }
def k18m2 : Method := { name := "length", desc := "()I", sig := { parameters := [], returnType := some .int }, accessFlags := 1, code := some k18c2 }
def k18c3 : Code := { maxStack := 4, maxLocals := 3, code := jdk_68_method_9_code, exceptionTable := #[], attributes := #[] }
def k18m3 : Method := { name := "ensureCapacityInternal", desc := "(I)V", sig := { parameters := [.int], returnType := none }, accessFlags := 2, code := some k18c3 }
def k18c4 : Code := { maxStack := 3, maxLocals := 3, code := jdk_68_method_22_code, exceptionTable := #[], attributes := #[] }
def k18m4 : Method := { name := "append", desc := "(Ljava/lang/String;)Ljava/lang/AbstractStringBuilder;", sig := { parameters := [(.object "java/lang/String")], returnType := some (.object "java/lang/AbstractStringBuilder") }, accessFlags := 1, code := some k18c4 }
def k18c5 : Code := { maxStack := 1, maxLocals := 1, code := jdk_68_method_64_code, exceptionTable := #[], attributes := #[] }
def k18m5 : Method := { name := "getValue", desc := "()[B", sig := { parameters := [], returnType := some (.array .byte) }, accessFlags := 16, code := some k18c5 }
def k18c6 : Code := { maxStack := 1, maxLocals := 1, code := jdk_68_method_68_code, exceptionTable := #[], attributes := #[] }
def k18m6 : Method := { name := "isLatin1", desc := "()Z", sig := { parameters := [], returnType := some .boolean }, accessFlags := 16, code := some k18c6 }
def k18c7 : Code := { maxStack := 2, maxLocals := 2, code := jdk_68_method_71_code, exceptionTable := #[], attributes := #[] }
def k18m7 : Method := { name := "inflateIfNeededFor", desc := "(Ljava/lang/String;)V", sig := { parameters := [(.object "java/lang/String")], returnType := none }, accessFlags := 2, code := some k18c7 }
def k18c8 : Code := { maxStack := 4, maxLocals := 3, code := jdk_68_method_73_code, exceptionTable := #[], attributes := #[] }
def k18m8 : Method := { name := "putStringAt", desc := "(ILjava/lang/String;)V", sig := { parameters := [.int, (.object "java/lang/String")], returnType := none }, accessFlags := 2, code := some k18c8 }
/-- java/lang/AbstractStringBuilder -/
def k18 : Class := { plain "java/lang/AbstractStringBuilder" (some 0) with
  accessFlags := 1056
  interfaces := #[17, 7]
  cf := some (fileOf pool18 10 #[] #[{ accessFlags := 0, nameIndex := 7, descriptorIndex := 8, attributes := #[] }, { accessFlags := 0, nameIndex := 7, descriptorIndex := 103, attributes := #[] }, { accessFlags := 1, nameIndex := 34, descriptorIndex := 35, attributes := #[] }, { accessFlags := 2, nameIndex := 102, descriptorIndex := 103, attributes := #[] }, { accessFlags := 1, nameIndex := 45, descriptorIndex := 46, attributes := #[] }, { accessFlags := 16, nameIndex := 552, descriptorIndex := 403, attributes := #[] }, { accessFlags := 16, nameIndex := 85, descriptorIndex := 86, attributes := #[] }, { accessFlags := 2, nameIndex := 217, descriptorIndex := 69, attributes := #[] }, { accessFlags := 2, nameIndex := 210, descriptorIndex := 211, attributes := #[] }] 1056 4 #[444, 48] #[{ accessFlags := 0, nameIndex := 17, descriptorIndex := 14, attributes := #[] }, { accessFlags := 0, nameIndex := 24, descriptorIndex := 25, attributes := #[] }, { accessFlags := 0, nameIndex := 75, descriptorIndex := 21, attributes := #[] }, { accessFlags := 0, nameIndex := 81, descriptorIndex := 82, attributes := #[] }, { accessFlags := 26, nameIndex := 13, descriptorIndex := 14, attributes := #[] }])
  fields := #[{ name := "value", type := (.array .byte), accessFlags := 0, slot := 0, constantValue := 0 }, { name := "coder", type := .byte, accessFlags := 0, slot := 1, constantValue := 0 }, { name := "maybeLatin1", type := .boolean, accessFlags := 0, slot := 2, constantValue := 0 }, { name := "count", type := .int, accessFlags := 0, slot := 3, constantValue := 0 }, { name := "EMPTYVALUE", type := (.array .byte), accessFlags := 26, slot := 0, constantValue := 0 }]
  methods := #[k18m0, k18m1, k18m2, k18m3, k18m4, k18m5, k18m6, k18m7, k18m8]
  instanceTypes := #[(.array .byte), .byte, .boolean, .int]
  staticTypes := #[(.array .byte)]
  resolved := Array.replicate 609 none
  statics := none }

def pool19 : Array CpInfo := pool [(1, .methodref 2 3), (0, .class_ 4), (0, .nameAndType 5 6), (0, u "java/lang/AbstractStringBuilder"), (0, u "<init>"), (0, u "(I)V"), (11, .class_ 20), (1, u "java/lang/String"), (3, .class_ 26), (1, u "java/lang/StringBuilder"), (0, u "append"), (0, u "(Ljava/lang/String;)Ljava/lang/StringBuilder;"), (0, .methodref 2 30), (0, .nameAndType 27 31), (0, u "(Ljava/lang/String;)Ljava/lang/AbstractStringBuilder;"), (105, .methodref 18 138), (0, .nameAndType 5 139), (0, u "(Ljava/lang/StringBuilder;)V"), (5, u "()V"), (10, u "()I"), (186, .methodref 2 344), (0, .nameAndType 345 156), (0, u "length"), (3, .class_ 350), (0, u "java/lang/Appendable"), (0, .class_ 352), (0, u "java/io/Serializable"), (0, .class_ 354), (0, u "java/lang/Comparable"), (0, .class_ 356), (0, u "java/lang/CharSequence"), (0, u "serialVersionUID"), (0, u "J"), (40, u "toString"), (0, u "()Ljava/lang/String;")] 21

def k19c0 : Code := { maxStack := 2, maxLocals := 1, code := jdk_67_method_1_code, exceptionTable := #[], attributes := #[] }
def k19m0 : Method := { name := "<init>", desc := "()V", sig := { parameters := [], returnType := none }, accessFlags := 1, code := some k19c0 }
def k19c1 : Code := { maxStack := 2, maxLocals := 2, code := jdk_67_method_7_code, exceptionTable := #[], attributes := #[] }
def k19m1 : Method := { name := "append", desc := "(Ljava/lang/String;)Ljava/lang/StringBuilder;", sig := { parameters := [(.object "java/lang/String")], returnType := some (.object "java/lang/StringBuilder") }, accessFlags := 1, code := some k19c1 }
def k19c2 : Code := { maxStack := 3, maxLocals := 1, code := jdk_67_method_42_code, exceptionTable := #[], attributes := #[] }
def k19m2 : Method := { name := "toString", desc := "()Ljava/lang/String;", sig := { parameters := [], returnType := some (.object "java/lang/String") }, accessFlags := 1, code := some k19c2 }
def k19c3 : Code := { maxStack := 1, maxLocals := 1, code := jdk_67_method_93_code, exceptionTable := #[], attributes := #[] }
def k19m3 : Method := { name := "length", desc := "()I", sig := { parameters := [], returnType := some .int }, accessFlags := 4161, code := some k19c3 }
/-- java/lang/StringBuilder -/
def k19 : Class := { plain "java/lang/StringBuilder" (some 18) with
  accessFlags := 49
  interfaces := #[17, 4, 3, 7]
  cf := some (fileOf pool19 24 #[] #[{ accessFlags := 1, nameIndex := 5, descriptorIndex := 145, attributes := #[] }, { accessFlags := 1, nameIndex := 27, descriptorIndex := 28, attributes := #[] }, { accessFlags := 1, nameIndex := 399, descriptorIndex := 400, attributes := #[] }, { accessFlags := 4161, nameIndex := 345, descriptorIndex := 156, attributes := #[] }] 49 2 #[349, 351, 353, 355] #[{ accessFlags := 24, nameIndex := 357, descriptorIndex := 358, attributes := #[] }])
  fields := #[{ name := "serialVersionUID", type := .long, accessFlags := 24, slot := 0, constantValue := 0 }]
  methods := #[k19m0, k19m1, k19m2, k19m3]
  instanceTypes := #[(.array .byte), .byte, .boolean, .int]
  staticTypes := #[.long]
  resolved := Array.replicate 422 none
  statics := none }

def pool20 : Array CpInfo := pool [(2, .class_ 4), (1, u "java/lang/Object"), (0, u "<init>"), (0, u "()V"), (1, .class_ 10), (1, u "java/lang/System"), (0, u "allowSecurityManager"), (0, u "I"), (16, u "cons"), (0, u "Ljava/io/Console;"), (77, .class_ 110), (1, u "java/lang/System$CallersHolder"), (43, u "initialErrStream"), (0, u "Ljava/io/PrintStream;"), (19, u "security"), (0, u "Ljava/lang/SecurityManager;"), (31, .class_ 209), (0, u "java/lang/System$1"), (7, u "props"), (0, u "Ljava/util/Properties;"), (2, u "lineSeparator"), (0, u "Ljava/lang/String;"), (96, .class_ 321), (1, u "java/lang/System$LoggerFinder"), (5, .class_ 328), (0, u "java/lang/System$Logger"), (67, u "err"), (2, u "out"), (91, u "notSupportedJnuEncoding"), (15, u "in"), (17, u "initialIn"), (0, u "Ljava/io/InputStream;"), (35, u "bootLayer"), (0, u "Ljava/lang/ModuleLayer;"), (99, .class_ 664), (0, u "java/lang/System$2"), (9, u "NEVER"), (2, u "MAYBE"), (49, u "arraycopy"), (0, u "(Ljava/lang/Object;ILjava/lang/Object;II)V"), (72, .class_ 802), (0, u "java/lang/System$Logger$Level")] 31

def k20m0 : Method := { name := "<init>", desc := "()V", sig := { parameters := [], returnType := none }, accessFlags := 2, code := none }
def k20m1 : Method := { name := "arraycopy", desc := "(Ljava/lang/Object;ILjava/lang/Object;II)V", sig := { parameters := [(.object "java/lang/Object"), .int, (.object "java/lang/Object"), .int, .int], returnType := none }, accessFlags := 265, code := none }
/-- java/lang/System -/
def k20 : Class := { plain "java/lang/System" (some 0) with
  accessFlags := 49
  interfaces := #[]
  cf := some (fileOf pool20 8 #[.nestMembers #[319, 327, 801, 108, 663, 208]] #[{ accessFlags := 2, nameIndex := 5, descriptorIndex := 6, attributes := #[] }, { accessFlags := 265, nameIndex := 727, descriptorIndex := 728, attributes := #[] }] 49 2 #[] #[{ accessFlags := 25, nameIndex := 507, descriptorIndex := 526, attributes := #[] }, { accessFlags := 25, nameIndex := 399, descriptorIndex := 155, attributes := #[] }, { accessFlags := 25, nameIndex := 396, descriptorIndex := 155, attributes := #[] }, { accessFlags := 10, nameIndex := 525, descriptorIndex := 526, attributes := #[] }, { accessFlags := 26, nameIndex := 674, descriptorIndex := 12, attributes := #[] }, { accessFlags := 26, nameIndex := 677, descriptorIndex := 12, attributes := #[] }, { accessFlags := 10, nameIndex := 11, descriptorIndex := 12, attributes := #[] }, { accessFlags := 74, nameIndex := 175, descriptorIndex := 176, attributes := #[] }, { accessFlags := 10, nameIndex := 491, descriptorIndex := 222, attributes := #[] }, { accessFlags := 74, nameIndex := 29, descriptorIndex := 30, attributes := #[] }, { accessFlags := 74, nameIndex := 154, descriptorIndex := 155, attributes := #[] }, { accessFlags := 10, nameIndex := 217, descriptorIndex := 218, attributes := #[] }, { accessFlags := 10, nameIndex := 221, descriptorIndex := 222, attributes := #[] }, { accessFlags := 8, nameIndex := 562, descriptorIndex := 563, attributes := #[] }])
  fields := #[{ name := "in", type := (.object "java/io/InputStream"), accessFlags := 25, slot := 0, constantValue := 0 }, { name := "out", type := (.object "java/io/PrintStream"), accessFlags := 25, slot := 1, constantValue := 0 }, { name := "err", type := (.object "java/io/PrintStream"), accessFlags := 25, slot := 2, constantValue := 0 }, { name := "initialIn", type := (.object "java/io/InputStream"), accessFlags := 10, slot := 3, constantValue := 0 }, { name := "NEVER", type := .int, accessFlags := 26, slot := 4, constantValue := 0 }, { name := "MAYBE", type := .int, accessFlags := 26, slot := 5, constantValue := 0 }, { name := "allowSecurityManager", type := .int, accessFlags := 10, slot := 6, constantValue := 0 }, { name := "security", type := (.object "java/lang/SecurityManager"), accessFlags := 74, slot := 7, constantValue := 0 }, { name := "notSupportedJnuEncoding", type := (.object "java/lang/String"), accessFlags := 10, slot := 8, constantValue := 0 }, { name := "cons", type := (.object "java/io/Console"), accessFlags := 74, slot := 9, constantValue := 0 }, { name := "initialErrStream", type := (.object "java/io/PrintStream"), accessFlags := 74, slot := 10, constantValue := 0 }, { name := "props", type := (.object "java/util/Properties"), accessFlags := 10, slot := 11, constantValue := 0 }, { name := "lineSeparator", type := (.object "java/lang/String"), accessFlags := 10, slot := 12, constantValue := 0 }, { name := "bootLayer", type := (.object "java/lang/ModuleLayer"), accessFlags := 8, slot := 13, constantValue := 0 }]
  methods := #[k20m0, k20m1]
  instanceTypes := #[]
  staticTypes := #[(.object "java/io/InputStream"), (.object "java/io/PrintStream"), (.object "java/io/PrintStream"), (.object "java/io/InputStream"), .int, .int, .int, (.object "java/lang/SecurityManager"), (.object "java/lang/String"), (.object "java/io/Console"), (.object "java/io/PrintStream"), (.object "java/util/Properties"), (.object "java/lang/String"), (.object "java/lang/ModuleLayer")]
  resolved := Array.replicate 834 none
  statics := none }

def pool21 : Array CpInfo := pool [(2, .class_ 4), (1, u "java/lang/Object"), (0, u "<init>"), (0, u "()V"), (7, .class_ 16), (1, u "java/util/Arrays"), (57, .class_ 76), (1, u "java/util/Arrays$NaturalOrder"), (36, .class_ 115), (1, u "java/util/Arrays$LegacyMergeSort"), (1, u "Z"), (21, u "copyOfRange"), (10, .methodref 151 152), (0, .class_ 153), (0, .nameAndType 154 155), (0, u "java/lang/System"), (0, u "arraycopy"), (0, u "(Ljava/lang/Object;ILjava/lang/Object;II)V"), (148, .methodref 305 306), (0, .class_ 307), (0, .nameAndType 308 309), (0, u "java/lang/Math"), (0, u "min"), (0, u "(II)I"), (29, .methodref 14 340), (0, .nameAndType 341 342), (0, u "copyOfRangeByte"), (0, u "([BII)[B"), (0, .methodref 14 344), (0, .nameAndType 345 346), (0, u "checkLength"), (0, u "(II)V"), (28, .class_ 376), (0, u "java/util/Arrays$ArrayList"), (68, u "$assertionsDisabled"), (269, u "MIN_ARRAY_SORT_GRAN"), (0, u "I"), (2, u "INSERTIONSORT_THRESHOLD"), (255, .class_ 976), (0, u "java/util/Arrays$ArrayItr")] 52

def k21m0 : Method := { name := "<init>", desc := "()V", sig := { parameters := [], returnType := none }, accessFlags := 2, code := none }
def k21c1 : Code := { maxStack := 4, maxLocals := 2, code := jdk_65_method_131_code, exceptionTable := #[], attributes := #[] }
def k21m1 : Method := { name := "checkLength", desc := "(II)V", sig := { parameters := [.int, .int], returnType := none }, accessFlags := 10, code := some k21c1 }
def k21c2 : Code := { maxStack := 3, maxLocals := 3, code := jdk_65_method_132_code, exceptionTable := #[], attributes := #[] }
def k21m2 : Method := { name := "copyOfRange", desc := "([BII)[B", sig := { parameters := [(.array .byte), .int, .int], returnType := some (.array .byte) }, accessFlags := 9, code := some k21c2 }
def k21c3 : Code := { maxStack := 6, maxLocals := 5, code := jdk_65_method_133_code, exceptionTable := #[], attributes := #[] }
def k21m3 : Method := { name := "copyOfRangeByte", desc := "([BII)[B", sig := { parameters := [(.array .byte), .int, .int], returnType := some (.array .byte) }, accessFlags := 10, code := some k21c3 }
/-- java/util/Arrays -/
def k21 : Class := { plain "java/util/Arrays" (some 0) with
  accessFlags := 49
  interfaces := #[]
  cf := some (fileOf pool21 14 #[.nestMembers #[975, 375, 113, 74]] #[{ accessFlags := 2, nameIndex := 5, descriptorIndex := 6, attributes := #[] }, { accessFlags := 10, nameIndex := 345, descriptorIndex := 346, attributes := #[] }, { accessFlags := 9, nameIndex := 139, descriptorIndex := 342, attributes := #[] }, { accessFlags := 10, nameIndex := 341, descriptorIndex := 342, attributes := #[] }] 49 2 #[] #[{ accessFlags := 26, nameIndex := 715, descriptorIndex := 716, attributes := #[] }, { accessFlags := 26, nameIndex := 719, descriptorIndex := 716, attributes := #[] }, { accessFlags := 4120, nameIndex := 445, descriptorIndex := 117, attributes := #[] }])
  fields := #[{ name := "MIN_ARRAY_SORT_GRAN", type := .int, accessFlags := 26, slot := 0, constantValue := 0 }, { name := "INSERTIONSORT_THRESHOLD", type := .int, accessFlags := 26, slot := 1, constantValue := 0 }, { name := "$assertionsDisabled", type := .boolean, accessFlags := 4120, slot := 2, constantValue := 0 }]
  methods := #[k21m0, k21m1, k21m2, k21m3]
  instanceTypes := #[]
  staticTypes := #[.int, .int, .boolean]
  resolved := Array.replicate 1029 none
  statics := none }

def pool22 : Array CpInfo := pool [(1, .class_ 2), (0, u "java/lang/Math"), (1, .class_ 6), (1, u "java/lang/Object"), (0, u "<init>"), (0, u "()V"), (89, .class_ 100), (1, u "java/lang/Math$RandomNumberGeneratorHolder"), (71, u "negativeZeroFloatBits"), (0, u "J"), (2, u "negativeZeroDoubleBits"), (24, u "min"), (43, u "$assertionsDisabled"), (0, u "Z"), (88, u "(II)I"), (2, u "twoToTheDoubleScaleDown"), (0, u "D"), (4, u "twoToTheDoubleScaleUp"), (9, u "E"), (3, u "PI"), (2, u "TAU"), (2, u "DEGREES_TO_RADIANS"), (0, u "RADIANS_TO_DEGREES")] 94

def k22m0 : Method := { name := "<init>", desc := "()V", sig := { parameters := [], returnType := none }, accessFlags := 2, code := none }
def k22c1 : Code := { maxStack := 2, maxLocals := 2, code := jdk_29_method_69_code, exceptionTable := #[], attributes := #[] }
def k22m1 : Method := { name := "min", desc := "(II)I", sig := { parameters := [.int, .int], returnType := some .int }, accessFlags := 9, code := some k22c1 }
/-- java/lang/Math -/
def k22 : Class := { plain "java/lang/Math" (some 0) with
  accessFlags := 49
  interfaces := #[]
  cf := some (fileOf pool22 1 #[.nestMembers #[98]] #[{ accessFlags := 2, nameIndex := 7, descriptorIndex := 8, attributes := #[] }, { accessFlags := 9, nameIndex := 201, descriptorIndex := 335, attributes := #[] }] 49 4 #[] #[{ accessFlags := 25, nameIndex := 354, descriptorIndex := 339, attributes := #[] }, { accessFlags := 25, nameIndex := 358, descriptorIndex := 339, attributes := #[] }, { accessFlags := 25, nameIndex := 361, descriptorIndex := 339, attributes := #[] }, { accessFlags := 26, nameIndex := 364, descriptorIndex := 339, attributes := #[] }, { accessFlags := 26, nameIndex := 365, descriptorIndex := 339, attributes := #[] }, { accessFlags := 26, nameIndex := 172, descriptorIndex := 173, attributes := #[] }, { accessFlags := 26, nameIndex := 176, descriptorIndex := 173, attributes := #[] }, { accessFlags := 8, nameIndex := 344, descriptorIndex := 339, attributes := #[] }, { accessFlags := 8, nameIndex := 338, descriptorIndex := 339, attributes := #[] }, { accessFlags := 4120, nameIndex := 245, descriptorIndex := 246, attributes := #[] }])
  fields := #[{ name := "E", type := .double, accessFlags := 25, slot := 0, constantValue := 0 }, { name := "PI", type := .double, accessFlags := 25, slot := 1, constantValue := 0 }, { name := "TAU", type := .double, accessFlags := 25, slot := 2, constantValue := 0 }, { name := "DEGREES_TO_RADIANS", type := .double, accessFlags := 26, slot := 3, constantValue := 0 }, { name := "RADIANS_TO_DEGREES", type := .double, accessFlags := 26, slot := 4, constantValue := 0 }, { name := "negativeZeroFloatBits", type := .long, accessFlags := 26, slot := 5, constantValue := 0 }, { name := "negativeZeroDoubleBits", type := .long, accessFlags := 26, slot := 6, constantValue := 0 }, { name := "twoToTheDoubleScaleUp", type := .double, accessFlags := 8, slot := 7, constantValue := 0 }, { name := "twoToTheDoubleScaleDown", type := .double, accessFlags := 8, slot := 8, constantValue := 0 }, { name := "$assertionsDisabled", type := .boolean, accessFlags := 4120, slot := 9, constantValue := 0 }]
  methods := #[k22m0, k22m1]
  instanceTypes := #[]
  staticTypes := #[.double, .double, .double, .double, .double, .long, .long, .double, .double, .boolean]
  resolved := Array.replicate 460 none
  statics := none }

def pool23 : Array CpInfo := pool [(2, .class_ 4), (1, u "java/lang/Object"), (0, u "<init>"), (0, u "()V"), (17, .class_ 26), (1, u "jdk/internal/util/Preconditions"), (28, .class_ 56), (0, u "jdk/internal/util/Preconditions$4"), (57, .class_ 115), (0, u "jdk/internal/util/Preconditions$1"), (7, u "SIOOBE_FORMATTER"), (0, u "Ljava/util/function/BiFunction;"), (0, .class_ 126), (0, u "jdk/internal/util/Preconditions$2"), (3, u "AIOOBE_FORMATTER"), (0, .class_ 132), (0, u "jdk/internal/util/Preconditions$3"), (3, u "IOOBE_FORMATTER")] 57

def k23m0 : Method := { name := "<init>", desc := "()V", sig := { parameters := [], returnType := none }, accessFlags := 1, code := none }
/-- jdk/internal/util/Preconditions -/
def k23 : Class := { plain "jdk/internal/util/Preconditions" (some 0) with
  accessFlags := 33
  interfaces := #[]
  cf := some (fileOf pool23 24 #[.nestMembers #[55, 131, 125, 114]] #[{ accessFlags := 1, nameIndex := 5, descriptorIndex := 6, attributes := #[] }] 33 2 #[] #[{ accessFlags := 25, nameIndex := 123, descriptorIndex := 124, attributes := #[] }, { accessFlags := 25, nameIndex := 130, descriptorIndex := 124, attributes := #[] }, { accessFlags := 25, nameIndex := 136, descriptorIndex := 124, attributes := #[] }])
  fields := #[{ name := "SIOOBE_FORMATTER", type := (.object "java/util/function/BiFunction"), accessFlags := 25, slot := 0, constantValue := 0 }, { name := "AIOOBE_FORMATTER", type := (.object "java/util/function/BiFunction"), accessFlags := 25, slot := 1, constantValue := 0 }, { name := "IOOBE_FORMATTER", type := (.object "java/util/function/BiFunction"), accessFlags := 25, slot := 2, constantValue := 0 }]
  methods := #[k23m0]
  instanceTypes := #[]
  staticTypes := #[(.object "java/util/function/BiFunction"), (.object "java/util/function/BiFunction"), (.object "java/util/function/BiFunction")]
  resolved := Array.replicate 194 none
  statics := some 4 }

def pool24 : Array CpInfo := pool [(9, u "<init>"), (6, .class_ 18), (1, u "java/lang/Object"), (0, u "()V"), (1, .class_ 23), (1, u "jdk/internal/util/ArraysSupport"), (0, u "LOG2_ARRAY_LONG_INDEX_SCALE"), (0, u "I"), (2, u "U"), (0, u "Ljdk/internal/misc/Unsafe;"), (8, u "BIG_ENDIAN"), (0, u "Z"), (8, u "LOG2_BYTE_BIT_SIZE"), (4, u "LOG2_ARRAY_INT_INDEX_SCALE"), (54, u "JLA"), (0, u "Ljdk/internal/access/JavaLangAccess;"), (11, u "LOG2_ARRAY_BOOLEAN_INDEX_SCALE"), (9, u "LOG2_ARRAY_BYTE_INDEX_SCALE"), (5, u "LOG2_ARRAY_CHAR_INDEX_SCALE"), (5, u "LOG2_ARRAY_SHORT_INDEX_SCALE"), (18, u "LOG2_ARRAY_FLOAT_INDEX_SCALE"), (24, u "LOG2_ARRAY_DOUBLE_INDEX_SCALE"), (89, u "T_BOOLEAN"), (2, u "T_CHAR"), (1, u "T_FLOAT"), (1, u "T_DOUBLE"), (1, u "T_BYTE"), (1, u "T_SHORT"), (1, u "T_INT"), (1, u "T_LONG"), (1, u "SOFT_MAX_ARRAY_LENGTH")] 83

def k24m0 : Method := { name := "<init>", desc := "()V", sig := { parameters := [], returnType := none }, accessFlags := 2, code := none }
/-- jdk/internal/util/ArraysSupport -/
def k24 : Class := { plain "jdk/internal/util/ArraysSupport" (some 0) with
  accessFlags := 33
  interfaces := #[]
  cf := some (fileOf pool24 21 #[] #[{ accessFlags := 2, nameIndex := 9, descriptorIndex := 19, attributes := #[] }] 33 16 #[] #[{ accessFlags := 24, nameIndex := 28, descriptorIndex := 29, attributes := #[] }, { accessFlags := 26, nameIndex := 38, descriptorIndex := 39, attributes := #[] }, { accessFlags := 25, nameIndex := 121, descriptorIndex := 25, attributes := #[] }, { accessFlags := 25, nameIndex := 131, descriptorIndex := 25, attributes := #[] }, { accessFlags := 25, nameIndex := 137, descriptorIndex := 25, attributes := #[] }, { accessFlags := 25, nameIndex := 143, descriptorIndex := 25, attributes := #[] }, { accessFlags := 25, nameIndex := 53, descriptorIndex := 25, attributes := #[] }, { accessFlags := 25, nameIndex := 24, descriptorIndex := 25, attributes := #[] }, { accessFlags := 25, nameIndex := 162, descriptorIndex := 25, attributes := #[] }, { accessFlags := 25, nameIndex := 187, descriptorIndex := 25, attributes := #[] }, { accessFlags := 26, nameIndex := 48, descriptorIndex := 25, attributes := #[] }, { accessFlags := 25, nameIndex := 277, descriptorIndex := 25, attributes := #[] }, { accessFlags := 25, nameIndex := 280, descriptorIndex := 25, attributes := #[] }, { accessFlags := 25, nameIndex := 282, descriptorIndex := 25, attributes := #[] }, { accessFlags := 25, nameIndex := 284, descriptorIndex := 25, attributes := #[] }, { accessFlags := 25, nameIndex := 286, descriptorIndex := 25, attributes := #[] }, { accessFlags := 25, nameIndex := 288, descriptorIndex := 25, attributes := #[] }, { accessFlags := 25, nameIndex := 290, descriptorIndex := 25, attributes := #[] }, { accessFlags := 25, nameIndex := 292, descriptorIndex := 25, attributes := #[] }, { accessFlags := 26, nameIndex := 108, descriptorIndex := 109, attributes := #[] }, { accessFlags := 25, nameIndex := 294, descriptorIndex := 25, attributes := #[] }])
  fields := #[{ name := "U", type := (.object "jdk/internal/misc/Unsafe"), accessFlags := 24, slot := 0, constantValue := 0 }, { name := "BIG_ENDIAN", type := .boolean, accessFlags := 26, slot := 1, constantValue := 0 }, { name := "LOG2_ARRAY_BOOLEAN_INDEX_SCALE", type := .int, accessFlags := 25, slot := 2, constantValue := 0 }, { name := "LOG2_ARRAY_BYTE_INDEX_SCALE", type := .int, accessFlags := 25, slot := 3, constantValue := 0 }, { name := "LOG2_ARRAY_CHAR_INDEX_SCALE", type := .int, accessFlags := 25, slot := 4, constantValue := 0 }, { name := "LOG2_ARRAY_SHORT_INDEX_SCALE", type := .int, accessFlags := 25, slot := 5, constantValue := 0 }, { name := "LOG2_ARRAY_INT_INDEX_SCALE", type := .int, accessFlags := 25, slot := 6, constantValue := 0 }, { name := "LOG2_ARRAY_LONG_INDEX_SCALE", type := .int, accessFlags := 25, slot := 7, constantValue := 0 }, { name := "LOG2_ARRAY_FLOAT_INDEX_SCALE", type := .int, accessFlags := 25, slot := 8, constantValue := 0 }, { name := "LOG2_ARRAY_DOUBLE_INDEX_SCALE", type := .int, accessFlags := 25, slot := 9, constantValue := 0 }, { name := "LOG2_BYTE_BIT_SIZE", type := .int, accessFlags := 26, slot := 10, constantValue := 0 }, { name := "T_BOOLEAN", type := .int, accessFlags := 25, slot := 11, constantValue := 0 }, { name := "T_CHAR", type := .int, accessFlags := 25, slot := 12, constantValue := 0 }, { name := "T_FLOAT", type := .int, accessFlags := 25, slot := 13, constantValue := 0 }, { name := "T_DOUBLE", type := .int, accessFlags := 25, slot := 14, constantValue := 0 }, { name := "T_BYTE", type := .int, accessFlags := 25, slot := 15, constantValue := 0 }, { name := "T_SHORT", type := .int, accessFlags := 25, slot := 16, constantValue := 0 }, { name := "T_INT", type := .int, accessFlags := 25, slot := 17, constantValue := 0 }, { name := "T_LONG", type := .int, accessFlags := 25, slot := 18, constantValue := 0 }, { name := "JLA", type := (.object "jdk/internal/access/JavaLangAccess"), accessFlags := 26, slot := 19, constantValue := 0 }, { name := "SOFT_MAX_ARRAY_LENGTH", type := .int, accessFlags := 25, slot := 20, constantValue := 0 }]
  methods := #[k24m0]
  instanceTypes := #[]
  staticTypes := #[(.object "jdk/internal/misc/Unsafe"), .boolean, .int, .int, .int, .int, .int, .int, .int, .int, .int, .int, .int, .int, .int, .int, .int, .int, .int, (.object "jdk/internal/access/JavaLangAccess"), .int]
  resolved := Array.replicate 378 none
  statics := none }

def pool25 : Array CpInfo := pool [(1, u "java/lang/Cloneable"), (0, .class_ 1), (0, u "java/lang/Object"), (0, .class_ 3)] 3

/-- java/lang/Cloneable -/
def k25 : Class := { plain "java/lang/Cloneable" (some 0) with
  accessFlags := 1537
  interfaces := #[]
  cf := some (fileOf pool25 2 #[] #[] 1537 4 #[] #[])
  fields := #[]
  methods := #[]
  instanceTypes := #[]
  staticTypes := #[]
  resolved := Array.replicate 8 none
  statics := none }

/-- the primitive byte -/
def k26 : Class := { plain "byte" none with kind := .primitive 'B', accessFlags := 0x411 }
/-- [B -/
def k27 : Class := { plain "[B" (some 0) with kind := .array 26 .byte, interfaces := #[25, 4], accessFlags := 1041 }

/-- the primitive char -/
def k28 : Class := { plain "char" none with kind := .primitive 'C', accessFlags := 0x411 }
/-- [C -/
def k29 : Class := { plain "[C" (some 0) with kind := .array 28 .char, interfaces := #[25, 4], accessFlags := 1041 }

/-- the primitive int -/
def k30 : Class := { plain "int" none with kind := .primitive 'I', accessFlags := 0x411 }
/-- [I -/
def k31 : Class := { plain "[I" (some 0) with kind := .array 30 .int, interfaces := #[25, 4], accessFlags := 1041 }

def heap : Heap := #[{ cls := 6, slots := #[.ref 5, .ref 6, .ref 7, .null], vm := .statics 6 },
  { cls := 9, slots := #[.long 0, .int 1, .null, .int 0, .null, .int 0, .int 0], vm := .statics 9 },
  { cls := 11, slots := #[.ref 10], vm := .statics 11 },
  { cls := 14, slots := #[.ref 8, .ref 9, .null], vm := .statics 14 },
  { cls := 23, slots := #[.null, .null, .null], vm := .statics 23 },
  { cls := 6, slots := #[.null, .int 0, .int 0], vm := .none },
  { cls := 6, slots := #[.null, .int 1, .int 0], vm := .none },
  { cls := 6, slots := #[.null, .int 2, .int 0], vm := .none },
  { cls := 14, slots := #[.null, .int 0, .int 0], vm := .none },
  { cls := 14, slots := #[.null, .int 1, .int 0], vm := .none },
  { cls := 11, slots := #[.null], vm := .none }]
def classes : Array Class := #[k0, k1, k2, k3, k4, k5, k6, k7, k8, k9, k10, k11, k12, k13, k14, k15, k16, k17, k18, k19, k20, k21, k22, k23, k24, k25, k26, k27, k28, k29, k30, k31]
def interned : List (Array UInt16 × Addr) := []
def slotsUsed : Nat := 34
def theMethod : MethodId := ⟨1, 1⟩
def args0 : Array Value := #[.int 7, .int 7, .int 7, .int 7, .int 7, .int 7]
def aboutOver (below : List Frame) : State where
  vm := { classes := classes, interned := interned.toArray }
  heap := heap
  slotsUsed := slotsUsed
  threads := #[{ frames := .invoking theMethod args0 :: below }]
def below0 : List Frame := [.native { method := ⟨0, 0⟩, args := #[] }]
def about1 : State := aboutOver below0
def p0 : Program := .bare "" "" ""
def e0 : Env := launch0.env 0 0 0
theorem w_frames : about1.frames = Frame.invoking theMethod args0 :: below0 := rfl
set_option maxRecDepth 65536 in
theorem w_args : argsFit about1.vm theMethod args0 = true := by decide +kernel
set_option maxRecDepth 65536 in
theorem w_heap : heapFits about1 = true := by decide +kernel
set_option maxRecDepth 65536 in
theorem w_runnable : about1.curStatus? = some .runnable := by decide +kernel
set_option maxRecDepth 65536 in
theorem w_alone : about1.alone = true := by decide +kernel
set_option maxRecDepth 65536 in
theorem w_named : about1.methodNamed? x = some theMethod := by decide +kernel
set_option maxRecDepth 65536 in
theorem w_hears : about1.hears theMethod below0 = true := by decide +kernel
set_option maxRecDepth 65536 in
theorem w_ripe : about1.ripe theMethod args0 below0 = true := by decide +kernel
theorem w_running : about1.status = .running := rfl
set_option maxRecDepth 65536 in
theorem w_room : about1.hasRoom e0.platform room_1 = true :=
  launch0.hasRoom_least _ room_1 (by decide +kernel) (by decide +kernel) (by decide +kernel) (by decide +kernel) (by decide +kernel) (by decide +kernel)
theorem allAtoms_all (ts : List Jvm.Cond) (a : Array Jvm.Value) (st : Jvm.State) : (allAtoms ts).before a st = ts.all (fun c => c.before a st) := by
  induction ts with
  | nil => rfl
  | cons c t ih =>
    show (Jvm.Cond.and c (allAtoms t)).before a st = _
    rw [Jvm.Cond.before_and, ih, List.all_cons]
def words1 : List Jvm.Cond := Jvm.Cond.code x code maxLocals ret :: tables_1
/-- a 'code' word, met by the world's own term for the bytes: nothing is compared byte by byte -/
theorem code_word {y : MethodName} {bytes : ByteArray} {mx : Nat} {rt : Option FieldType} {a : Array Value} {s : State} {m : MethodId} {meth : Method} {c : Code} (h1 : s.methodNamed? y = some m) (h2 : s.vm.method? m = some meth) (h3 : meth.code = some c) (h4 : c.code = bytes)
    (h5 : (c.maxLocals == mx && c.exceptionTable.isEmpty && decide (c.maxStack ≤ mostOperands) && decide (meth.sig.returnType = rt) && !meth.locks && decide (parseMethodDescriptor y.desc = some meth.sig)) = true) : (Jvm.Cond.code y bytes mx rt).before a s = true := by
  simp only [Bool.and_eq_true, beq_iff_eq, Bool.not_eq_true', decide_eq_true_eq] at h5
  obtain ⟨⟨⟨⟨⟨g1, g2⟩, g3⟩, g4⟩, g5⟩, g6⟩ := h5
  simp [Cond.before, Cond.holds, Cond.value, h1, h2, h3, h4, g1, g2, g3, g4, g5, g6]
def isCode : Jvm.Cond → Bool
  | .code _ _ _ _ => true
  | _ => false
theorem all_split {L : List Jvm.Cond} {P : Jvm.Cond → Bool} (h1 : L.all (fun c => isCode c || P c) = true) (h2 : ∀ c ∈ L.filter isCode, P c = true) : L.all P = true := by
  refine List.all_eq_true.mpr fun c hc => ?_
  have h := List.all_eq_true.mp h1 c hc
  rcases Bool.eq_false_or_eq_true (isCode c) with hi | hi
  · exact h2 c (List.mem_filter.mpr ⟨hc, hi⟩)
  · simpa [hi] using h
set_option maxRecDepth 65536 in
theorem w_c0 : (Jvm.Cond.code x code maxLocals ret).before args0 about1 = true := code_word (m := ⟨1, 1⟩) (meth := k1m1) (c := k1c1) (by decide +kernel) rfl rfl rfl (by decide +kernel)
set_option maxRecDepth 65536 in
theorem w_c1 : (Jvm.Cond.code ({ cls := "java/lang/String", name := "<init>", desc := "([C)V" } : Jvm.MethodName) jdk_42_method_3_code (2 : Nat) (Option.none : Option Jvm.ClassFile.FieldType)).before args0 about1 = true := code_word (m := ⟨9, 1⟩) (meth := k9m1) (c := k9c1) (by decide +kernel) rfl rfl rfl (by decide +kernel)
set_option maxRecDepth 65536 in
theorem w_c2 : (Jvm.Cond.code ({ cls := "java/lang/String", name := "<init>", desc := "([CIILjava/lang/Void;)V" } : Jvm.MethodName) jdk_42_method_149_code (6 : Nat) (Option.none : Option Jvm.ClassFile.FieldType)).before args0 about1 = true := code_word (m := ⟨9, 6⟩) (meth := k9m6) (c := k9c6) (by decide +kernel) rfl rfl rfl (by decide +kernel)
set_option maxRecDepth 65536 in
theorem w_c3 : (Jvm.Cond.code ({ cls := "java/lang/Object", name := "<init>", desc := "()V" } : Jvm.MethodName) object_method_1_code (1 : Nat) (Option.none : Option Jvm.ClassFile.FieldType)).before args0 about1 = true := code_word (m := ⟨0, 0⟩) (meth := k0m0) (c := k0c0) (by decide +kernel) rfl rfl rfl (by decide +kernel)
set_option maxRecDepth 65536 in
theorem w_c4 : (Jvm.Cond.code ({ cls := "java/lang/StringUTF16", name := "compress", desc := "([CII)[B" } : Jvm.MethodName) jdk_52_method_16_code (6 : Nat) (Option.some (Jvm.ClassFile.FieldType.array Jvm.ClassFile.FieldType.byte))).before args0 about1 = true := code_word (m := ⟨10, 2⟩) (meth := k10m2) (c := k10c2) (by decide +kernel) rfl rfl rfl (by decide +kernel)
set_option maxRecDepth 65536 in
theorem w_c5 : (Jvm.Cond.code ({ cls := "java/lang/StringUTF16", name := "compress", desc := "([CI[BII)I" } : Jvm.MethodName) jdk_52_method_21_code (7 : Nat) (Option.some Jvm.ClassFile.FieldType.int)).before args0 about1 = true := code_word (m := ⟨10, 3⟩) (meth := k10m3) (c := k10c3) (by decide +kernel) rfl rfl rfl (by decide +kernel)
set_option maxRecDepth 65536 in
theorem w_c6 : (Jvm.Cond.code ({ cls := "java/lang/StringUTF16", name := "coderFromArrayLen", desc := "([BI)B" } : Jvm.MethodName) jdk_52_method_15_code (2 : Nat) (Option.some Jvm.ClassFile.FieldType.byte)).before args0 about1 = true := code_word (m := ⟨10, 1⟩) (meth := k10m1) (c := k10c1) (by decide +kernel) rfl rfl rfl (by decide +kernel)
set_option maxRecDepth 65536 in
theorem w_c7 : (Jvm.Cond.code ({ cls := "java/util/Optional", name := "empty", desc := "()Ljava/util/Optional;" } : Jvm.MethodName) jdk_32_method_1_code (1 : Nat) (Option.some (Jvm.ClassFile.FieldType.object "java/util/Optional"))).before args0 about1 = true := code_word (m := ⟨11, 0⟩) (meth := k11m0) (c := k11c0) (by decide +kernel) rfl rfl rfl (by decide +kernel)
set_option maxRecDepth 65536 in
theorem w_c8 : (Jvm.Cond.code ({ cls := "com/example/triage/triage/search/CaseTopics$Topic", name := "<init>", desc := "(ILcom/example/triage/triage/search/CaseTopics$Type;Ljava/lang/String;Ljava/lang/String;Ljava/util/Optional;)V" } : Jvm.MethodName) prog_40_method_1_code (6 : Nat) (Option.none : Option Jvm.ClassFile.FieldType)).before args0 about1 = true := code_word (m := ⟨13, 0⟩) (meth := k13m0) (c := k13c0) (by decide +kernel) rfl rfl rfl (by decide +kernel)
set_option maxRecDepth 65536 in
theorem w_c9 : (Jvm.Cond.code ({ cls := "java/lang/Record", name := "<init>", desc := "()V" } : Jvm.MethodName) jdk_30_method_1_code (1 : Nat) (Option.none : Option Jvm.ClassFile.FieldType)).before args0 about1 = true := code_word (m := ⟨12, 0⟩) (meth := k12m0) (c := k12c0) (by decide +kernel) rfl rfl rfl (by decide +kernel)
set_option maxRecDepth 65536 in
theorem w_c10 : (Jvm.Cond.code ({ cls := "com/example/triage/triage/search/CaseTopics$Topic", name := "query", desc := "(Lcom/example/triage/triage/search/CaseTopics$Narrative;Z)Ljava/lang/String;" } : Jvm.MethodName) prog_40_method_2_code (4 : Nat) (Option.some (Jvm.ClassFile.FieldType.object "java/lang/String"))).before args0 about1 = true := code_word (m := ⟨13, 1⟩) (meth := k13m1) (c := k13c1) (by decide +kernel) rfl rfl rfl (by decide +kernel)
set_option maxRecDepth 65536 in
theorem w_c11 : (Jvm.Cond.code ({ cls := "java/lang/String", name := "equals", desc := "(Ljava/lang/Object;)Z" } : Jvm.MethodName) jdk_42_method_66_code (3 : Nat) (Option.some Jvm.ClassFile.FieldType.boolean)).before args0 about1 = true := code_word (m := ⟨9, 4⟩) (meth := k9m4) (c := k9c4) (by decide +kernel) rfl rfl rfl (by decide +kernel)
set_option maxRecDepth 65536 in
theorem w_c12 : (Jvm.Cond.code ({ cls := "java/lang/StringLatin1", name := "equals", desc := "([B[B)Z" } : Jvm.MethodName) jdk_43_method_13_code (3 : Nat) (Option.some Jvm.ClassFile.FieldType.boolean)).before args0 about1 = true := code_word (m := ⟨15, 1⟩) (meth := k15m1) (c := k15c1) (by decide +kernel) rfl rfl rfl (by decide +kernel)
set_option maxRecDepth 65536 in
theorem w_c13 : (Jvm.Cond.code ({ cls := "java/util/Optional", name := "of", desc := "(Ljava/lang/Object;)Ljava/util/Optional;" } : Jvm.MethodName) jdk_32_method_3_code (1 : Nat) (Option.some (Jvm.ClassFile.FieldType.object "java/util/Optional"))).before args0 about1 = true := code_word (m := ⟨11, 2⟩) (meth := k11m2) (c := k11c2) (by decide +kernel) rfl rfl rfl (by decide +kernel)
set_option maxRecDepth 65536 in
theorem w_c14 : (Jvm.Cond.code ({ cls := "java/util/Objects", name := "requireNonNull", desc := "(Ljava/lang/Object;)Ljava/lang/Object;" } : Jvm.MethodName) jdk_31_method_10_code (1 : Nat) (Option.some (Jvm.ClassFile.FieldType.object "java/lang/Object"))).before args0 about1 = true := code_word (m := ⟨16, 1⟩) (meth := k16m1) (c := k16c1) (by decide +kernel) rfl rfl rfl (by decide +kernel)
set_option maxRecDepth 65536 in
theorem w_c15 : (Jvm.Cond.code ({ cls := "java/util/Optional", name := "<init>", desc := "(Ljava/lang/Object;)V" } : Jvm.MethodName) jdk_32_method_2_code (2 : Nat) (Option.none : Option Jvm.ClassFile.FieldType)).before args0 about1 = true := code_word (m := ⟨11, 1⟩) (meth := k11m1) (c := k11c1) (by decide +kernel) rfl rfl rfl (by decide +kernel)
set_option maxRecDepth 65536 in
theorem w_c16 : (Jvm.Cond.code ({ cls := "java/util/Optional", name := "isPresent", desc := "()Z" } : Jvm.MethodName) jdk_32_method_6_code (1 : Nat) (Option.some Jvm.ClassFile.FieldType.boolean)).before args0 about1 = true := code_word (m := ⟨11, 4⟩) (meth := k11m4) (c := k11c4) (by decide +kernel) rfl rfl rfl (by decide +kernel)
set_option maxRecDepth 65536 in
theorem w_c17 : (Jvm.Cond.code ({ cls := "java/lang/StringBuilder", name := "<init>", desc := "()V" } : Jvm.MethodName) jdk_67_method_1_code (1 : Nat) (Option.none : Option Jvm.ClassFile.FieldType)).before args0 about1 = true := code_word (m := ⟨19, 0⟩) (meth := k19m0) (c := k19c0) (by decide +kernel) rfl rfl rfl (by decide +kernel)
set_option maxRecDepth 65536 in
theorem w_c18 : (Jvm.Cond.code ({ cls := "java/lang/AbstractStringBuilder", name := "<init>", desc := "(I)V" } : Jvm.MethodName) jdk_68_method_2_code (2 : Nat) (Option.none : Option Jvm.ClassFile.FieldType)).before args0 about1 = true := code_word (m := ⟨18, 1⟩) (meth := k18m1) (c := k18c1) (by decide +kernel) rfl rfl rfl (by decide +kernel)
set_option maxRecDepth 65536 in
theorem w_c19 : (Jvm.Cond.code ({ cls := "java/lang/StringBuilder", name := "append", desc := "(Ljava/lang/String;)Ljava/lang/StringBuilder;" } : Jvm.MethodName) jdk_67_method_7_code (2 : Nat) (Option.some (Jvm.ClassFile.FieldType.object "java/lang/StringBuilder"))).before args0 about1 = true := code_word (m := ⟨19, 1⟩) (meth := k19m1) (c := k19c1) (by decide +kernel) rfl rfl rfl (by decide +kernel)
set_option maxRecDepth 65536 in
theorem w_c20 : (Jvm.Cond.code ({ cls := "java/lang/AbstractStringBuilder", name := "append", desc := "(Ljava/lang/String;)Ljava/lang/AbstractStringBuilder;" } : Jvm.MethodName) jdk_68_method_22_code (3 : Nat) (Option.some (Jvm.ClassFile.FieldType.object "java/lang/AbstractStringBuilder"))).before args0 about1 = true := code_word (m := ⟨18, 4⟩) (meth := k18m4) (c := k18c4) (by decide +kernel) rfl rfl rfl (by decide +kernel)
set_option maxRecDepth 65536 in
theorem w_c21 : (Jvm.Cond.code ({ cls := "java/lang/String", name := "length", desc := "()I" } : Jvm.MethodName) jdk_42_method_54_code (1 : Nat) (Option.some Jvm.ClassFile.FieldType.int)).before args0 about1 = true := code_word (m := ⟨9, 3⟩) (meth := k9m3) (c := k9c3) (by decide +kernel) rfl rfl rfl (by decide +kernel)
set_option maxRecDepth 65536 in
theorem w_c22 : (Jvm.Cond.code ({ cls := "java/lang/String", name := "coder", desc := "()B" } : Jvm.MethodName) jdk_42_method_152_code (1 : Nat) (Option.some Jvm.ClassFile.FieldType.byte)).before args0 about1 = true := code_word (m := ⟨9, 8⟩) (meth := k9m8) (c := k9c8) (by decide +kernel) rfl rfl rfl (by decide +kernel)
set_option maxRecDepth 65536 in
theorem w_c23 : (Jvm.Cond.code ({ cls := "java/lang/AbstractStringBuilder", name := "ensureCapacityInternal", desc := "(I)V" } : Jvm.MethodName) jdk_68_method_9_code (3 : Nat) (Option.none : Option Jvm.ClassFile.FieldType)).before args0 about1 = true := code_word (m := ⟨18, 3⟩) (meth := k18m3) (c := k18c3) (by decide +kernel) rfl rfl rfl (by decide +kernel)
set_option maxRecDepth 65536 in
theorem w_c24 : (Jvm.Cond.code ({ cls := "java/lang/AbstractStringBuilder", name := "putStringAt", desc := "(ILjava/lang/String;)V" } : Jvm.MethodName) jdk_68_method_73_code (3 : Nat) (Option.none : Option Jvm.ClassFile.FieldType)).before args0 about1 = true := code_word (m := ⟨18, 8⟩) (meth := k18m8) (c := k18c8) (by decide +kernel) rfl rfl rfl (by decide +kernel)
set_option maxRecDepth 65536 in
theorem w_c25 : (Jvm.Cond.code ({ cls := "java/lang/AbstractStringBuilder", name := "inflateIfNeededFor", desc := "(Ljava/lang/String;)V" } : Jvm.MethodName) jdk_68_method_71_code (2 : Nat) (Option.none : Option Jvm.ClassFile.FieldType)).before args0 about1 = true := code_word (m := ⟨18, 7⟩) (meth := k18m7) (c := k18c7) (by decide +kernel) rfl rfl rfl (by decide +kernel)
set_option maxRecDepth 65536 in
theorem w_c26 : (Jvm.Cond.code ({ cls := "java/lang/String", name := "getBytes", desc := "([BIB)V" } : Jvm.MethodName) jdk_42_method_147_code (4 : Nat) (Option.none : Option Jvm.ClassFile.FieldType)).before args0 about1 = true := code_word (m := ⟨9, 5⟩) (meth := k9m5) (c := k9c5) (by decide +kernel) rfl rfl rfl (by decide +kernel)
set_option maxRecDepth 65536 in
theorem w_c27 : (Jvm.Cond.code ({ cls := "java/util/Optional", name := "get", desc := "()Ljava/lang/Object;" } : Jvm.MethodName) jdk_32_method_5_code (1 : Nat) (Option.some (Jvm.ClassFile.FieldType.object "java/lang/Object"))).before args0 about1 = true := code_word (m := ⟨11, 3⟩) (meth := k11m3) (c := k11c3) (by decide +kernel) rfl rfl rfl (by decide +kernel)
set_option maxRecDepth 65536 in
theorem w_c28 : (Jvm.Cond.code ({ cls := "java/lang/StringBuilder", name := "toString", desc := "()Ljava/lang/String;" } : Jvm.MethodName) jdk_67_method_42_code (1 : Nat) (Option.some (Jvm.ClassFile.FieldType.object "java/lang/String"))).before args0 about1 = true := code_word (m := ⟨19, 2⟩) (meth := k19m2) (c := k19c2) (by decide +kernel) rfl rfl rfl (by decide +kernel)
set_option maxRecDepth 65536 in
theorem w_c29 : (Jvm.Cond.code ({ cls := "java/lang/String", name := "<init>", desc := "(Ljava/lang/StringBuilder;)V" } : Jvm.MethodName) jdk_42_method_53_code (2 : Nat) (Option.none : Option Jvm.ClassFile.FieldType)).before args0 about1 = true := code_word (m := ⟨9, 2⟩) (meth := k9m2) (c := k9c2) (by decide +kernel) rfl rfl rfl (by decide +kernel)
set_option maxRecDepth 65536 in
theorem w_c30 : (Jvm.Cond.code ({ cls := "java/lang/String", name := "<init>", desc := "(Ljava/lang/AbstractStringBuilder;Ljava/lang/Void;)V" } : Jvm.MethodName) jdk_42_method_150_code (5 : Nat) (Option.none : Option Jvm.ClassFile.FieldType)).before args0 about1 = true := code_word (m := ⟨9, 7⟩) (meth := k9m7) (c := k9c7) (by decide +kernel) rfl rfl rfl (by decide +kernel)
set_option maxRecDepth 65536 in
theorem w_c31 : (Jvm.Cond.code ({ cls := "java/lang/AbstractStringBuilder", name := "getValue", desc := "()[B" } : Jvm.MethodName) jdk_68_method_64_code (1 : Nat) (Option.some (Jvm.ClassFile.FieldType.array Jvm.ClassFile.FieldType.byte))).before args0 about1 = true := code_word (m := ⟨18, 5⟩) (meth := k18m5) (c := k18c5) (by decide +kernel) rfl rfl rfl (by decide +kernel)
set_option maxRecDepth 65536 in
theorem w_c32 : (Jvm.Cond.code ({ cls := "java/lang/StringBuilder", name := "length", desc := "()I" } : Jvm.MethodName) jdk_67_method_93_code (1 : Nat) (Option.some Jvm.ClassFile.FieldType.int)).before args0 about1 = true := code_word (m := ⟨19, 3⟩) (meth := k19m3) (c := k19c3) (by decide +kernel) rfl rfl rfl (by decide +kernel)
set_option maxRecDepth 65536 in
theorem w_c33 : (Jvm.Cond.code ({ cls := "java/lang/AbstractStringBuilder", name := "length", desc := "()I" } : Jvm.MethodName) jdk_68_method_6_code (1 : Nat) (Option.some Jvm.ClassFile.FieldType.int)).before args0 about1 = true := code_word (m := ⟨18, 2⟩) (meth := k18m2) (c := k18c2) (by decide +kernel) rfl rfl rfl (by decide +kernel)
set_option maxRecDepth 65536 in
theorem w_c34 : (Jvm.Cond.code ({ cls := "java/lang/AbstractStringBuilder", name := "isLatin1", desc := "()Z" } : Jvm.MethodName) jdk_68_method_68_code (1 : Nat) (Option.some Jvm.ClassFile.FieldType.boolean)).before args0 about1 = true := code_word (m := ⟨18, 6⟩) (meth := k18m6) (c := k18c6) (by decide +kernel) rfl rfl rfl (by decide +kernel)
set_option maxRecDepth 65536 in
theorem w_c35 : (Jvm.Cond.code ({ cls := "java/util/Arrays", name := "copyOfRange", desc := "([BII)[B" } : Jvm.MethodName) jdk_65_method_132_code (3 : Nat) (Option.some (Jvm.ClassFile.FieldType.array Jvm.ClassFile.FieldType.byte))).before args0 about1 = true := code_word (m := ⟨21, 2⟩) (meth := k21m2) (c := k21c2) (by decide +kernel) rfl rfl rfl (by decide +kernel)
set_option maxRecDepth 65536 in
theorem w_c36 : (Jvm.Cond.code ({ cls := "java/util/Arrays", name := "copyOfRangeByte", desc := "([BII)[B" } : Jvm.MethodName) jdk_65_method_133_code (5 : Nat) (Option.some (Jvm.ClassFile.FieldType.array Jvm.ClassFile.FieldType.byte))).before args0 about1 = true := code_word (m := ⟨21, 3⟩) (meth := k21m3) (c := k21c3) (by decide +kernel) rfl rfl rfl (by decide +kernel)
set_option maxRecDepth 65536 in
theorem w_c37 : (Jvm.Cond.code ({ cls := "java/util/Arrays", name := "checkLength", desc := "(II)V" } : Jvm.MethodName) jdk_65_method_131_code (2 : Nat) (Option.none : Option Jvm.ClassFile.FieldType)).before args0 about1 = true := code_word (m := ⟨21, 1⟩) (meth := k21m1) (c := k21c1) (by decide +kernel) rfl rfl rfl (by decide +kernel)
set_option maxRecDepth 65536 in
theorem w_c38 : (Jvm.Cond.code ({ cls := "java/lang/Math", name := "min", desc := "(II)I" } : Jvm.MethodName) jdk_29_method_69_code (2 : Nat) (Option.some Jvm.ClassFile.FieldType.int)).before args0 about1 = true := code_word (m := ⟨22, 1⟩) (meth := k22m1) (c := k22c1) (by decide +kernel) rfl rfl rfl (by decide +kernel)
def codes1 : List Jvm.Cond := [Jvm.Cond.code x code maxLocals ret, Jvm.Cond.code ({ cls := "java/lang/String", name := "<init>", desc := "([C)V" } : Jvm.MethodName) jdk_42_method_3_code (2 : Nat) (Option.none : Option Jvm.ClassFile.FieldType), Jvm.Cond.code ({ cls := "java/lang/String", name := "<init>", desc := "([CIILjava/lang/Void;)V" } : Jvm.MethodName) jdk_42_method_149_code (6 : Nat) (Option.none : Option Jvm.ClassFile.FieldType), Jvm.Cond.code ({ cls := "java/lang/Object", name := "<init>", desc := "()V" } : Jvm.MethodName) object_method_1_code (1 : Nat) (Option.none : Option Jvm.ClassFile.FieldType), Jvm.Cond.code ({ cls := "java/lang/StringUTF16", name := "compress", desc := "([CII)[B" } : Jvm.MethodName) jdk_52_method_16_code (6 : Nat) (Option.some (Jvm.ClassFile.FieldType.array Jvm.ClassFile.FieldType.byte)), Jvm.Cond.code ({ cls := "java/lang/StringUTF16", name := "compress", desc := "([CI[BII)I" } : Jvm.MethodName) jdk_52_method_21_code (7 : Nat) (Option.some Jvm.ClassFile.FieldType.int), Jvm.Cond.code ({ cls := "java/lang/StringUTF16", name := "coderFromArrayLen", desc := "([BI)B" } : Jvm.MethodName) jdk_52_method_15_code (2 : Nat) (Option.some Jvm.ClassFile.FieldType.byte), Jvm.Cond.code ({ cls := "java/util/Optional", name := "empty", desc := "()Ljava/util/Optional;" } : Jvm.MethodName) jdk_32_method_1_code (1 : Nat) (Option.some (Jvm.ClassFile.FieldType.object "java/util/Optional")), Jvm.Cond.code ({ cls := "com/example/triage/triage/search/CaseTopics$Topic", name := "<init>", desc := "(ILcom/example/triage/triage/search/CaseTopics$Type;Ljava/lang/String;Ljava/lang/String;Ljava/util/Optional;)V" } : Jvm.MethodName) prog_40_method_1_code (6 : Nat) (Option.none : Option Jvm.ClassFile.FieldType), Jvm.Cond.code ({ cls := "java/lang/Record", name := "<init>", desc := "()V" } : Jvm.MethodName) jdk_30_method_1_code (1 : Nat) (Option.none : Option Jvm.ClassFile.FieldType), Jvm.Cond.code ({ cls := "com/example/triage/triage/search/CaseTopics$Topic", name := "query", desc := "(Lcom/example/triage/triage/search/CaseTopics$Narrative;Z)Ljava/lang/String;" } : Jvm.MethodName) prog_40_method_2_code (4 : Nat) (Option.some (Jvm.ClassFile.FieldType.object "java/lang/String")), Jvm.Cond.code ({ cls := "java/lang/String", name := "equals", desc := "(Ljava/lang/Object;)Z" } : Jvm.MethodName) jdk_42_method_66_code (3 : Nat) (Option.some Jvm.ClassFile.FieldType.boolean), Jvm.Cond.code ({ cls := "java/lang/StringLatin1", name := "equals", desc := "([B[B)Z" } : Jvm.MethodName) jdk_43_method_13_code (3 : Nat) (Option.some Jvm.ClassFile.FieldType.boolean), Jvm.Cond.code ({ cls := "java/util/Optional", name := "of", desc := "(Ljava/lang/Object;)Ljava/util/Optional;" } : Jvm.MethodName) jdk_32_method_3_code (1 : Nat) (Option.some (Jvm.ClassFile.FieldType.object "java/util/Optional")), Jvm.Cond.code ({ cls := "java/util/Objects", name := "requireNonNull", desc := "(Ljava/lang/Object;)Ljava/lang/Object;" } : Jvm.MethodName) jdk_31_method_10_code (1 : Nat) (Option.some (Jvm.ClassFile.FieldType.object "java/lang/Object")), Jvm.Cond.code ({ cls := "java/util/Optional", name := "<init>", desc := "(Ljava/lang/Object;)V" } : Jvm.MethodName) jdk_32_method_2_code (2 : Nat) (Option.none : Option Jvm.ClassFile.FieldType), Jvm.Cond.code ({ cls := "java/util/Optional", name := "isPresent", desc := "()Z" } : Jvm.MethodName) jdk_32_method_6_code (1 : Nat) (Option.some Jvm.ClassFile.FieldType.boolean), Jvm.Cond.code ({ cls := "java/lang/StringBuilder", name := "<init>", desc := "()V" } : Jvm.MethodName) jdk_67_method_1_code (1 : Nat) (Option.none : Option Jvm.ClassFile.FieldType), Jvm.Cond.code ({ cls := "java/lang/AbstractStringBuilder", name := "<init>", desc := "(I)V" } : Jvm.MethodName) jdk_68_method_2_code (2 : Nat) (Option.none : Option Jvm.ClassFile.FieldType), Jvm.Cond.code ({ cls := "java/lang/StringBuilder", name := "append", desc := "(Ljava/lang/String;)Ljava/lang/StringBuilder;" } : Jvm.MethodName) jdk_67_method_7_code (2 : Nat) (Option.some (Jvm.ClassFile.FieldType.object "java/lang/StringBuilder")), Jvm.Cond.code ({ cls := "java/lang/AbstractStringBuilder", name := "append", desc := "(Ljava/lang/String;)Ljava/lang/AbstractStringBuilder;" } : Jvm.MethodName) jdk_68_method_22_code (3 : Nat) (Option.some (Jvm.ClassFile.FieldType.object "java/lang/AbstractStringBuilder")), Jvm.Cond.code ({ cls := "java/lang/String", name := "length", desc := "()I" } : Jvm.MethodName) jdk_42_method_54_code (1 : Nat) (Option.some Jvm.ClassFile.FieldType.int), Jvm.Cond.code ({ cls := "java/lang/String", name := "coder", desc := "()B" } : Jvm.MethodName) jdk_42_method_152_code (1 : Nat) (Option.some Jvm.ClassFile.FieldType.byte), Jvm.Cond.code ({ cls := "java/lang/AbstractStringBuilder", name := "ensureCapacityInternal", desc := "(I)V" } : Jvm.MethodName) jdk_68_method_9_code (3 : Nat) (Option.none : Option Jvm.ClassFile.FieldType), Jvm.Cond.code ({ cls := "java/lang/AbstractStringBuilder", name := "putStringAt", desc := "(ILjava/lang/String;)V" } : Jvm.MethodName) jdk_68_method_73_code (3 : Nat) (Option.none : Option Jvm.ClassFile.FieldType), Jvm.Cond.code ({ cls := "java/lang/AbstractStringBuilder", name := "inflateIfNeededFor", desc := "(Ljava/lang/String;)V" } : Jvm.MethodName) jdk_68_method_71_code (2 : Nat) (Option.none : Option Jvm.ClassFile.FieldType), Jvm.Cond.code ({ cls := "java/lang/String", name := "getBytes", desc := "([BIB)V" } : Jvm.MethodName) jdk_42_method_147_code (4 : Nat) (Option.none : Option Jvm.ClassFile.FieldType), Jvm.Cond.code ({ cls := "java/util/Optional", name := "get", desc := "()Ljava/lang/Object;" } : Jvm.MethodName) jdk_32_method_5_code (1 : Nat) (Option.some (Jvm.ClassFile.FieldType.object "java/lang/Object")), Jvm.Cond.code ({ cls := "java/lang/StringBuilder", name := "toString", desc := "()Ljava/lang/String;" } : Jvm.MethodName) jdk_67_method_42_code (1 : Nat) (Option.some (Jvm.ClassFile.FieldType.object "java/lang/String")), Jvm.Cond.code ({ cls := "java/lang/String", name := "<init>", desc := "(Ljava/lang/StringBuilder;)V" } : Jvm.MethodName) jdk_42_method_53_code (2 : Nat) (Option.none : Option Jvm.ClassFile.FieldType), Jvm.Cond.code ({ cls := "java/lang/String", name := "<init>", desc := "(Ljava/lang/AbstractStringBuilder;Ljava/lang/Void;)V" } : Jvm.MethodName) jdk_42_method_150_code (5 : Nat) (Option.none : Option Jvm.ClassFile.FieldType), Jvm.Cond.code ({ cls := "java/lang/AbstractStringBuilder", name := "getValue", desc := "()[B" } : Jvm.MethodName) jdk_68_method_64_code (1 : Nat) (Option.some (Jvm.ClassFile.FieldType.array Jvm.ClassFile.FieldType.byte)), Jvm.Cond.code ({ cls := "java/lang/StringBuilder", name := "length", desc := "()I" } : Jvm.MethodName) jdk_67_method_93_code (1 : Nat) (Option.some Jvm.ClassFile.FieldType.int), Jvm.Cond.code ({ cls := "java/lang/AbstractStringBuilder", name := "length", desc := "()I" } : Jvm.MethodName) jdk_68_method_6_code (1 : Nat) (Option.some Jvm.ClassFile.FieldType.int), Jvm.Cond.code ({ cls := "java/lang/AbstractStringBuilder", name := "isLatin1", desc := "()Z" } : Jvm.MethodName) jdk_68_method_68_code (1 : Nat) (Option.some Jvm.ClassFile.FieldType.boolean), Jvm.Cond.code ({ cls := "java/util/Arrays", name := "copyOfRange", desc := "([BII)[B" } : Jvm.MethodName) jdk_65_method_132_code (3 : Nat) (Option.some (Jvm.ClassFile.FieldType.array Jvm.ClassFile.FieldType.byte)), Jvm.Cond.code ({ cls := "java/util/Arrays", name := "copyOfRangeByte", desc := "([BII)[B" } : Jvm.MethodName) jdk_65_method_133_code (5 : Nat) (Option.some (Jvm.ClassFile.FieldType.array Jvm.ClassFile.FieldType.byte)), Jvm.Cond.code ({ cls := "java/util/Arrays", name := "checkLength", desc := "(II)V" } : Jvm.MethodName) jdk_65_method_131_code (2 : Nat) (Option.none : Option Jvm.ClassFile.FieldType), Jvm.Cond.code ({ cls := "java/lang/Math", name := "min", desc := "(II)I" } : Jvm.MethodName) jdk_29_method_69_code (2 : Nat) (Option.some Jvm.ClassFile.FieldType.int)]
set_option maxRecDepth 65536 in
theorem codes_eq : words1.filter isCode = codes1 := rfl
theorem w_codes : ∀ c ∈ words1.filter isCode, c.before args0 about1 = true := by
  rw [codes_eq]
  intro c hc
  simp only [codes1, List.mem_cons, List.not_mem_nil, or_false] at hc
  rcases hc with rfl | rfl | rfl | rfl | rfl | rfl | rfl | rfl | rfl | rfl | rfl | rfl | rfl | rfl | rfl | rfl | rfl | rfl | rfl | rfl | rfl | rfl | rfl | rfl | rfl | rfl | rfl | rfl | rfl | rfl | rfl | rfl | rfl | rfl | rfl | rfl | rfl | rfl | rfl
  · exact w_c0
  · exact w_c1
  · exact w_c2
  · exact w_c3
  · exact w_c4
  · exact w_c5
  · exact w_c6
  · exact w_c7
  · exact w_c8
  · exact w_c9
  · exact w_c10
  · exact w_c11
  · exact w_c12
  · exact w_c13
  · exact w_c14
  · exact w_c15
  · exact w_c16
  · exact w_c17
  · exact w_c18
  · exact w_c19
  · exact w_c20
  · exact w_c21
  · exact w_c22
  · exact w_c23
  · exact w_c24
  · exact w_c25
  · exact w_c26
  · exact w_c27
  · exact w_c28
  · exact w_c29
  · exact w_c30
  · exact w_c31
  · exact w_c32
  · exact w_c33
  · exact w_c34
  · exact w_c35
  · exact w_c36
  · exact w_c37
  · exact w_c38
set_option maxRecDepth 65536 in
theorem w_t1 : (words1.take 24).all (fun c => isCode c || c.before args0 about1) = true := by decide +kernel
set_option maxRecDepth 65536 in
theorem w_t2 : ((words1.drop 24).take 24).all (fun c => isCode c || c.before args0 about1) = true := by decide +kernel
set_option maxRecDepth 65536 in
theorem w_t3 : (((words1.drop 24).drop 24).take 24).all (fun c => isCode c || c.before args0 about1) = true := by decide +kernel
set_option maxRecDepth 65536 in
theorem w_t4 : ((((words1.drop 24).drop 24).drop 24).take 24).all (fun c => isCode c || c.before args0 about1) = true := by decide +kernel
set_option maxRecDepth 65536 in
theorem w_t5 : (((((words1.drop 24).drop 24).drop 24).drop 24).take 24).all (fun c => isCode c || c.before args0 about1) = true := by decide +kernel
set_option maxRecDepth 65536 in
theorem w_t6 : ((((((words1.drop 24).drop 24).drop 24).drop 24).drop 24).take 24).all (fun c => isCode c || c.before args0 about1) = true := by decide +kernel
set_option maxRecDepth 65536 in
theorem w_t7 : (((((((words1.drop 24).drop 24).drop 24).drop 24).drop 24).drop 24).take 24).all (fun c => isCode c || c.before args0 about1) = true := by decide +kernel
set_option maxRecDepth 65536 in
theorem w_t8 : ((((((((words1.drop 24).drop 24).drop 24).drop 24).drop 24).drop 24).drop 24).take 24).all (fun c => isCode c || c.before args0 about1) = true := by decide +kernel
set_option maxRecDepth 65536 in
theorem w_t9 : (((((((((words1.drop 24).drop 24).drop 24).drop 24).drop 24).drop 24).drop 24).drop 24).take 24).all (fun c => isCode c || c.before args0 about1) = true := by decide +kernel
set_option maxRecDepth 65536 in
theorem w_t10 : (((((((((words1.drop 24).drop 24).drop 24).drop 24).drop 24).drop 24).drop 24).drop 24).drop 24).all (fun c => isCode c || c.before args0 about1) = true := by decide +kernel
theorem w_tables : (allAtoms (Jvm.Cond.code x code maxLocals ret :: tables_1)).before args0 about1 = true := by
  rw [allAtoms_all]
  show words1.all (fun c => c.before args0 about1) = true
  refine all_split ?_ w_codes
  rw [← List.take_append_drop 24 words1, List.all_append, w_t1, ← List.take_append_drop 24 (words1.drop 24), List.all_append, w_t2, ← List.take_append_drop 24 ((words1.drop 24).drop 24), List.all_append, w_t3, ← List.take_append_drop 24 (((words1.drop 24).drop 24).drop 24), List.all_append, w_t4, ← List.take_append_drop 24 ((((words1.drop 24).drop 24).drop 24).drop 24), List.all_append, w_t5, ← List.take_append_drop 24 (((((words1.drop 24).drop 24).drop 24).drop 24).drop 24), List.all_append, w_t6, ← List.take_append_drop 24 ((((((words1.drop 24).drop 24).drop 24).drop 24).drop 24).drop 24), List.all_append, w_t7, ← List.take_append_drop 24 (((((((words1.drop 24).drop 24).drop 24).drop 24).drop 24).drop 24).drop 24), List.all_append, w_t8, ← List.take_append_drop 24 ((((((((words1.drop 24).drop 24).drop 24).drop 24).drop 24).drop 24).drop 24).drop 24), List.all_append, w_t9, w_t10]
  rfl
set_option maxRecDepth 65536 in
theorem w_rest : rest_1_c.before args0 about1 = true := by decide +kernel
set_option maxRecDepth 65536 in
theorem w_case : (Jvm.Cond.and given_1 narrow_1).before args0 about1 = true := by decide +kernel
set_option maxRecDepth 65536 in
theorem w_consts : constsHeld consts_1 about1 := Jvm.Lit.constsHeldB_iff.mp (by decide +kernel)
theorem w_applies : (headSpec (Jvm.Cond.code x code maxLocals ret :: tables_1) room_1).applies x e0.platform about1 = true :=
  (Spec.applies_iff w_frames).mpr ⟨w_running, w_runnable, w_alone, w_named, w_hears, w_ripe, w_room, w_tables⟩
theorem atStart : AtStart classFile x code maxLocals ret World_1 tables_1 room_1 Calls_1 rest_1 Pre_1 launch0 p0 e0 about1 theMethod args0 below0 :=
  ⟨lists_1, trivial, launch0.admits_env _ _ _, launch0.least_env, fairChoices_fair.cas, fairChoices_fair.clock, w_frames, w_args, w_heap, w_applies, ⟨w_consts, trivial⟩, w_rest, w_case⟩
end start1
theorem witness_1 : WitnessClaimed_1 := ⟨start1.p0, start1.e0, start1.about1, start1.theMethod, start1.args0, start1.below0, start1.atStart⟩
end Jvm.Pilot.@@N@@
