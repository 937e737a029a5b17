import JvmDerived
import JvmDerived.Pilot.@@N@@Statement
import JvmDerived.Pilot.@@N@@Code
set_option linter.unusedVariables false
set_option linter.unusedSimpArgs false
namespace Jvm.Pilot.@@N@@
open Jvm Jvm.ClassFile Sem Op Lib Jvm.Free Jvm.Stand Jvm.LawKit Jvm.RoadKit Bundle Jvm.Pilot.@@N@@.Jvm.D
section OwnKit
variable {p : Program} {l : Launch} {e : Env} {R : Room} {s : State} {m : MethodId} {args : Array Value} {below : List Frame} {meth : Method} {c : Code} {T : State} {locs : List Loc} {cells slots : Nat}
variable {Q : Option Value → Heap → List Loc → Prop} {K N : Nat}
/-- from the state U the body comes to its end, and leaves what Q says -/
def own_G (p : Program) (e : Env) (below : List Frame) (s : State) (Q : Option Value → Heap → List Loc → Prop) (K N : Nat) (U : State) : Prop :=
  ∃ s₂ o, Steps p.tables e below U s₂ ∧ s₂.status = .running ∧ Ended s₂ below o ∧ ∃ v L, o = .returned v ∧ Q v s₂.heap L ∧ FrameEnd s o s₂ L K N
theorem own_go {U U' : State} (h : ∀ t, Steps p.tables e below U' t → Steps p.tables e below U t) (k : own_G p e below s Q K N U') : own_G p e below s Q K N U := by
  obtain ⟨s₂, o, h1, r⟩ := k
  exact ⟨s₂, o, h _ h1, r⟩
theorem own_end (X : Stand p l e R s m args below meth c T locs cells slots) {v : Option Value} (hv : meth.sig.returnType = none → v = none) (hlocks : meth.locks = false) {U : State}
    (st : ∀ fs, (∀ (f : JFrame) (acts : List Action), f.method = m → f.locked = none → f.entered = [] → (doReturn e (T.setTop f) acts v).1 = T.setFrames fs) → Steps p.tables e below U (T.setFrames fs))
    (hQ : Q v T.heap locs) (hK : cells ≤ K) (hN : slots ≤ N) : own_G p e below s Q K N U := by
  obtain ⟨fs, hr, hrun, hended, hW, hsame⟩ := X.leave hv hlocks
  exact ⟨_, _, st fs hr, hrun, hended, _, _, rfl, hQ, ⟨_, rfl⟩, hW, hsame.mono hK hN⟩
theorem own_retI (X : Stand p l e R s m args below meth c T locs cells slots) (hx : p.tables.exec = Jvm.exec) {pc : Nat} {Ls : Array Slot} {z : Int32} {rest : List Value} (hret : meth.sig.returnType = some .int) (hlocks : meth.locks = false) (hd : decode c.code pc = .ok (.ireturn, 1))
    {h : Heap} (eT : T.heap = h) (hQ : Q (some (.int z)) h locs) (hK : cells ≤ K) (hN : slots ≤ N) : own_G p e below s Q K N (T.setTop (mkF m pc Ls (.int z :: rest))) :=
  own_end X (fun h => by rw [hret] at h; cases h) hlocks (fun fs hr => retOut X hx hret rfl (Or.inl ⟨rfl, Or.inl rfl, _, rfl⟩) hd hr) (by rw [eT]; exact hQ) hK hN
theorem own_retJ (X : Stand p l e R s m args below meth c T locs cells slots) (hx : p.tables.exec = Jvm.exec) {pc : Nat} {Ls : Array Slot} {z : Int64} {rest : List Value} (hret : meth.sig.returnType = some .long) (hlocks : meth.locks = false) (hd : decode c.code pc = .ok (.lreturn, 1))
    {h : Heap} (eT : T.heap = h) (hQ : Q (some (.long z)) h locs) (hK : cells ≤ K) (hN : slots ≤ N) : own_G p e below s Q K N (T.setTop (mkF m pc Ls (.long z :: rest))) :=
  own_end X (fun h => by rw [hret] at h; cases h) hlocks (fun fs hr => retOut X hx hret rfl (Or.inr (Or.inl ⟨rfl, rfl, _, rfl⟩)) hd hr) (by rw [eT]; exact hQ) hK hN
theorem own_retD (X : Stand p l e R s m args below meth c T locs cells slots) (hx : p.tables.exec = Jvm.exec) {pc : Nat} {Ls : Array Slot} {z : UInt64} {rest : List Value} (hret : meth.sig.returnType = some .double) (hlocks : meth.locks = false) (hd : decode c.code pc = .ok (.dreturn, 1))
    {h : Heap} (eT : T.heap = h) (hQ : Q (some (.double z)) h locs) (hK : cells ≤ K) (hN : slots ≤ N) : own_G p e below s Q K N (T.setTop (mkF m pc Ls (.double z :: rest))) :=
  own_end X (fun h => by rw [hret] at h; cases h) hlocks (fun fs hr => retOut X hx hret rfl (Or.inr (Or.inr (Or.inl ⟨rfl, rfl, _, rfl⟩))) hd hr) (by rw [eT]; exact hQ) hK hN
theorem own_retA {t : FieldType} (ht : t.isReference = true) {w : Value} (hv : w.isRef = true) (X : Stand p l e R s m args below meth c T locs cells slots) (hx : p.tables.exec = Jvm.exec) {pc : Nat} {Ls : Array Slot} {rest : List Value} (hret : meth.sig.returnType = some t) (hlocks : meth.locks = false) (hd : decode c.code pc = .ok (.areturn, 1))
    {h : Heap} (eT : T.heap = h) (hQ : Q (some w) h locs) (hK : cells ≤ K) (hN : slots ≤ N) : own_G p e below s Q K N (T.setTop (mkF m pc Ls (w :: rest))) :=
  own_end X (fun h => by rw [hret] at h; cases h) hlocks (fun fs hr => retOut X hx hret (by cases t <;> first | rfl | (cases ht)) (Or.inr (Or.inr (Or.inr (Or.inr ⟨rfl, ht, hv⟩)))) hd hr) (by rw [eT]; exact hQ) hK hN
theorem own_retN {t : FieldType} (ht : t = .boolean ∨ t = .byte ∨ t = .char ∨ t = .short) (X : Stand p l e R s m args below meth c T locs cells slots) (hx : p.tables.exec = Jvm.exec) {pc : Nat} {Ls : Array Slot} {z : Int32} {rest : List Value} (hret : meth.sig.returnType = some t) (hlocks : meth.locks = false) (hd : decode c.code pc = .ok (.ireturn, 1))
    {h : Heap} (eT : T.heap = h) (hQ : Q (some (.int (nar t z))) h locs) (hK : cells ≤ K) (hN : slots ≤ N) : own_G p e below s Q K N (T.setTop (mkF m pc Ls (.int z :: rest))) :=
  own_end X (fun h => by rw [hret] at h; cases h) hlocks (fun fs hr => retN X hx hret ht hd hr) (by rw [eT]; exact hQ) hK hN
theorem own_ret0 (X : Stand p l e R s m args below meth c T locs cells slots) (hx : p.tables.exec = Jvm.exec) {pc : Nat} {Ls : Array Slot} (hret : meth.sig.returnType = none) (hlocks : meth.locks = false) (hd : decode c.code pc = .ok (.return_, 1))
    {h : Heap} (eT : T.heap = h) (hQ : Q none h locs) (hK : cells ≤ K) (hN : slots ≤ N) : own_G p e below s Q K N (T.setTop (mkF m pc Ls [])) :=
  own_end X (fun _ => rfl) hlocks (fun fs hr => X.returnOut hx hret hd hr) (by rw [eT]; exact hQ) hK hN
theorem own_lrem (X : Stand p l e R s m args below meth c T locs cells slots) (hx : p.tables.exec = Jvm.exec) {g : JFrame} {target : State} (hg : g.method = m) {x y : Int64} {rest : List Value} (hd : decode c.code g.pc = .ok (.lrem, 1)) (hs : g.stack = .long y :: .long x :: rest) (hy : y ≠ 0)
    (hr : Steps p.tables e below (T.setTop { g with pc := g.pc + 1, stack := .long (x % y) :: rest }) target) : Steps p.tables e below (T.setTop g) target :=
  XS.lrem X.here hx hg hd hs hy (by rw [lrem_mod]; exact hr)
theorem own_ic_ltY (X : Stand p l e R s m args below meth c T locs cells slots) (hx : p.tables.exec = Jvm.exec) {pc pc' : Nat} {Ls : Array Slot} {rest : List Value} {o : Int} {x y : Int32} (hd : decode c.code pc = .ok (.if_icmp .lt o, 3)) (ho : 0 ≤ (pc : Int) + o) (hp : ((pc : Int) + o).toNat = pc') (h : x < y) (k : own_G p e below s Q K N (T.setTop (mkF m pc' Ls rest))) : own_G p e below s Q K N (T.setTop (mkF m pc Ls (.int y :: .int x :: rest))) :=
  own_go (fun _ k => XS.icmpYes X.here hx rfl (pc0 := pc) (pc' := pc') rfl hd rfl (tlt h).1 ho hp k) k
theorem own_ic_ltN (X : Stand p l e R s m args below meth c T locs cells slots) (hx : p.tables.exec = Jvm.exec) {pc : Nat} {Ls : Array Slot} {rest : List Value} {o : Int} {x y : Int32} (hd : decode c.code pc = .ok (.if_icmp .lt o, 3)) (h : ¬ (x < y)) (k : own_G p e below s Q K N (T.setTop (mkF m (pc + 3) Ls rest))) : own_G p e below s Q K N (T.setTop (mkF m pc Ls (.int y :: .int x :: rest))) :=
  own_go (fun _ k => XS.icmpNo X.here hx rfl hd rfl (flt h).1 k) k
theorem own_ic_lt (X : Stand p l e R s m args below meth c T locs cells slots) (hx : p.tables.exec = Jvm.exec) {pc pc' : Nat} {Ls : Array Slot} {rest : List Value} {o : Int} {x y : Int32} (hd : decode c.code pc = .ok (.if_icmp .lt o, 3)) (ho : 0 ≤ (pc : Int) + o) (hp : ((pc : Int) + o).toNat = pc') (ky : x < y → own_G p e below s Q K N (T.setTop (mkF m pc' Ls rest))) (kn : ¬ (x < y) → own_G p e below s Q K N (T.setTop (mkF m (pc + 3) Ls rest))) : own_G p e below s Q K N (T.setTop (mkF m pc Ls (.int y :: .int x :: rest))) := by
  by_cases h : x < y
  · exact own_ic_ltY X hx hd ho hp h (ky h)
  · exact own_ic_ltN X hx hd h (kn h)
theorem own_if_ltY (X : Stand p l e R s m args below meth c T locs cells slots) (hx : p.tables.exec = Jvm.exec) {pc pc' : Nat} {Ls : Array Slot} {rest : List Value} {o : Int} {x : Int32} (hd : decode c.code pc = .ok (.ifCond .lt o, 3)) (ho : 0 ≤ (pc : Int) + o) (hp : ((pc : Int) + o).toNat = pc') (h : x < 0) (k : own_G p e below s Q K N (T.setTop (mkF m pc' Ls rest))) : own_G p e below s Q K N (T.setTop (mkF m pc Ls (.int x :: rest))) :=
  own_go (fun _ k => XS.ifYes X.here hx rfl (pc0 := pc) (pc' := pc') rfl hd rfl ((if0 _ _).trans (tlt h).1) ho hp k) k
theorem own_if_ltN (X : Stand p l e R s m args below meth c T locs cells slots) (hx : p.tables.exec = Jvm.exec) {pc : Nat} {Ls : Array Slot} {rest : List Value} {o : Int} {x : Int32} (hd : decode c.code pc = .ok (.ifCond .lt o, 3)) (h : ¬ (x < 0)) (k : own_G p e below s Q K N (T.setTop (mkF m (pc + 3) Ls rest))) : own_G p e below s Q K N (T.setTop (mkF m pc Ls (.int x :: rest))) :=
  own_go (fun _ k => XS.ifNo X.here hx rfl hd rfl ((if0 _ _).trans (flt h).1) k) k
theorem own_if_lt (X : Stand p l e R s m args below meth c T locs cells slots) (hx : p.tables.exec = Jvm.exec) {pc pc' : Nat} {Ls : Array Slot} {rest : List Value} {o : Int} {x : Int32} (hd : decode c.code pc = .ok (.ifCond .lt o, 3)) (ho : 0 ≤ (pc : Int) + o) (hp : ((pc : Int) + o).toNat = pc') (ky : x < 0 → own_G p e below s Q K N (T.setTop (mkF m pc' Ls rest))) (kn : ¬ (x < 0) → own_G p e below s Q K N (T.setTop (mkF m (pc + 3) Ls rest))) : own_G p e below s Q K N (T.setTop (mkF m pc Ls (.int x :: rest))) := by
  by_cases h : x < 0
  · exact own_if_ltY X hx hd ho hp h (ky h)
  · exact own_if_ltN X hx hd h (kn h)
theorem own_ic_geY (X : Stand p l e R s m args below meth c T locs cells slots) (hx : p.tables.exec = Jvm.exec) {pc pc' : Nat} {Ls : Array Slot} {rest : List Value} {o : Int} {x y : Int32} (hd : decode c.code pc = .ok (.if_icmp .ge o, 3)) (ho : 0 ≤ (pc : Int) + o) (hp : ((pc : Int) + o).toNat = pc') (h : ¬ (x < y)) (k : own_G p e below s Q K N (T.setTop (mkF m pc' Ls rest))) : own_G p e below s Q K N (T.setTop (mkF m pc Ls (.int y :: .int x :: rest))) :=
  own_go (fun _ k => XS.icmpYes X.here hx rfl (pc0 := pc) (pc' := pc') rfl hd rfl (flt h).2.1 ho hp k) k
theorem own_ic_geN (X : Stand p l e R s m args below meth c T locs cells slots) (hx : p.tables.exec = Jvm.exec) {pc : Nat} {Ls : Array Slot} {rest : List Value} {o : Int} {x y : Int32} (hd : decode c.code pc = .ok (.if_icmp .ge o, 3)) (h : x < y) (k : own_G p e below s Q K N (T.setTop (mkF m (pc + 3) Ls rest))) : own_G p e below s Q K N (T.setTop (mkF m pc Ls (.int y :: .int x :: rest))) :=
  own_go (fun _ k => XS.icmpNo X.here hx rfl hd rfl (tlt h).2.1 k) k
theorem own_ic_ge (X : Stand p l e R s m args below meth c T locs cells slots) (hx : p.tables.exec = Jvm.exec) {pc pc' : Nat} {Ls : Array Slot} {rest : List Value} {o : Int} {x y : Int32} (hd : decode c.code pc = .ok (.if_icmp .ge o, 3)) (ho : 0 ≤ (pc : Int) + o) (hp : ((pc : Int) + o).toNat = pc') (ky : ¬ (x < y) → own_G p e below s Q K N (T.setTop (mkF m pc' Ls rest))) (kn : x < y → own_G p e below s Q K N (T.setTop (mkF m (pc + 3) Ls rest))) : own_G p e below s Q K N (T.setTop (mkF m pc Ls (.int y :: .int x :: rest))) := by
  by_cases h : x < y
  · exact own_ic_geN X hx hd h (kn h)
  · exact own_ic_geY X hx hd ho hp h (ky h)
theorem own_if_geY (X : Stand p l e R s m args below meth c T locs cells slots) (hx : p.tables.exec = Jvm.exec) {pc pc' : Nat} {Ls : Array Slot} {rest : List Value} {o : Int} {x : Int32} (hd : decode c.code pc = .ok (.ifCond .ge o, 3)) (ho : 0 ≤ (pc : Int) + o) (hp : ((pc : Int) + o).toNat = pc') (h : ¬ (x < 0)) (k : own_G p e below s Q K N (T.setTop (mkF m pc' Ls rest))) : own_G p e below s Q K N (T.setTop (mkF m pc Ls (.int x :: rest))) :=
  own_go (fun _ k => XS.ifYes X.here hx rfl (pc0 := pc) (pc' := pc') rfl hd rfl ((if0 _ _).trans (flt h).2.1) ho hp k) k
theorem own_if_geN (X : Stand p l e R s m args below meth c T locs cells slots) (hx : p.tables.exec = Jvm.exec) {pc : Nat} {Ls : Array Slot} {rest : List Value} {o : Int} {x : Int32} (hd : decode c.code pc = .ok (.ifCond .ge o, 3)) (h : x < 0) (k : own_G p e below s Q K N (T.setTop (mkF m (pc + 3) Ls rest))) : own_G p e below s Q K N (T.setTop (mkF m pc Ls (.int x :: rest))) :=
  own_go (fun _ k => XS.ifNo X.here hx rfl hd rfl ((if0 _ _).trans (tlt h).2.1) k) k
theorem own_if_ge (X : Stand p l e R s m args below meth c T locs cells slots) (hx : p.tables.exec = Jvm.exec) {pc pc' : Nat} {Ls : Array Slot} {rest : List Value} {o : Int} {x : Int32} (hd : decode c.code pc = .ok (.ifCond .ge o, 3)) (ho : 0 ≤ (pc : Int) + o) (hp : ((pc : Int) + o).toNat = pc') (ky : ¬ (x < 0) → own_G p e below s Q K N (T.setTop (mkF m pc' Ls rest))) (kn : x < 0 → own_G p e below s Q K N (T.setTop (mkF m (pc + 3) Ls rest))) : own_G p e below s Q K N (T.setTop (mkF m pc Ls (.int x :: rest))) := by
  by_cases h : x < 0
  · exact own_if_geN X hx hd h (kn h)
  · exact own_if_geY X hx hd ho hp h (ky h)
theorem own_ic_gtY (X : Stand p l e R s m args below meth c T locs cells slots) (hx : p.tables.exec = Jvm.exec) {pc pc' : Nat} {Ls : Array Slot} {rest : List Value} {o : Int} {x y : Int32} (hd : decode c.code pc = .ok (.if_icmp .gt o, 3)) (ho : 0 ≤ (pc : Int) + o) (hp : ((pc : Int) + o).toNat = pc') (h : y < x) (k : own_G p e below s Q K N (T.setTop (mkF m pc' Ls rest))) : own_G p e below s Q K N (T.setTop (mkF m pc Ls (.int y :: .int x :: rest))) :=
  own_go (fun _ k => XS.icmpYes X.here hx rfl (pc0 := pc) (pc' := pc') rfl hd rfl (tlt h).2.2.1 ho hp k) k
theorem own_ic_gtN (X : Stand p l e R s m args below meth c T locs cells slots) (hx : p.tables.exec = Jvm.exec) {pc : Nat} {Ls : Array Slot} {rest : List Value} {o : Int} {x y : Int32} (hd : decode c.code pc = .ok (.if_icmp .gt o, 3)) (h : ¬ (y < x)) (k : own_G p e below s Q K N (T.setTop (mkF m (pc + 3) Ls rest))) : own_G p e below s Q K N (T.setTop (mkF m pc Ls (.int y :: .int x :: rest))) :=
  own_go (fun _ k => XS.icmpNo X.here hx rfl hd rfl (flt h).2.2.1 k) k
theorem own_ic_gt (X : Stand p l e R s m args below meth c T locs cells slots) (hx : p.tables.exec = Jvm.exec) {pc pc' : Nat} {Ls : Array Slot} {rest : List Value} {o : Int} {x y : Int32} (hd : decode c.code pc = .ok (.if_icmp .gt o, 3)) (ho : 0 ≤ (pc : Int) + o) (hp : ((pc : Int) + o).toNat = pc') (ky : y < x → own_G p e below s Q K N (T.setTop (mkF m pc' Ls rest))) (kn : ¬ (y < x) → own_G p e below s Q K N (T.setTop (mkF m (pc + 3) Ls rest))) : own_G p e below s Q K N (T.setTop (mkF m pc Ls (.int y :: .int x :: rest))) := by
  by_cases h : y < x
  · exact own_ic_gtY X hx hd ho hp h (ky h)
  · exact own_ic_gtN X hx hd h (kn h)
theorem own_if_gtY (X : Stand p l e R s m args below meth c T locs cells slots) (hx : p.tables.exec = Jvm.exec) {pc pc' : Nat} {Ls : Array Slot} {rest : List Value} {o : Int} {x : Int32} (hd : decode c.code pc = .ok (.ifCond .gt o, 3)) (ho : 0 ≤ (pc : Int) + o) (hp : ((pc : Int) + o).toNat = pc') (h : 0 < x) (k : own_G p e below s Q K N (T.setTop (mkF m pc' Ls rest))) : own_G p e below s Q K N (T.setTop (mkF m pc Ls (.int x :: rest))) :=
  own_go (fun _ k => XS.ifYes X.here hx rfl (pc0 := pc) (pc' := pc') rfl hd rfl ((if0 _ _).trans (tlt h).2.2.1) ho hp k) k
theorem own_if_gtN (X : Stand p l e R s m args below meth c T locs cells slots) (hx : p.tables.exec = Jvm.exec) {pc : Nat} {Ls : Array Slot} {rest : List Value} {o : Int} {x : Int32} (hd : decode c.code pc = .ok (.ifCond .gt o, 3)) (h : ¬ (0 < x)) (k : own_G p e below s Q K N (T.setTop (mkF m (pc + 3) Ls rest))) : own_G p e below s Q K N (T.setTop (mkF m pc Ls (.int x :: rest))) :=
  own_go (fun _ k => XS.ifNo X.here hx rfl hd rfl ((if0 _ _).trans (flt h).2.2.1) k) k
theorem own_if_gt (X : Stand p l e R s m args below meth c T locs cells slots) (hx : p.tables.exec = Jvm.exec) {pc pc' : Nat} {Ls : Array Slot} {rest : List Value} {o : Int} {x : Int32} (hd : decode c.code pc = .ok (.ifCond .gt o, 3)) (ho : 0 ≤ (pc : Int) + o) (hp : ((pc : Int) + o).toNat = pc') (ky : 0 < x → own_G p e below s Q K N (T.setTop (mkF m pc' Ls rest))) (kn : ¬ (0 < x) → own_G p e below s Q K N (T.setTop (mkF m (pc + 3) Ls rest))) : own_G p e below s Q K N (T.setTop (mkF m pc Ls (.int x :: rest))) := by
  by_cases h : 0 < x
  · exact own_if_gtY X hx hd ho hp h (ky h)
  · exact own_if_gtN X hx hd h (kn h)
theorem own_ic_leY (X : Stand p l e R s m args below meth c T locs cells slots) (hx : p.tables.exec = Jvm.exec) {pc pc' : Nat} {Ls : Array Slot} {rest : List Value} {o : Int} {x y : Int32} (hd : decode c.code pc = .ok (.if_icmp .le o, 3)) (ho : 0 ≤ (pc : Int) + o) (hp : ((pc : Int) + o).toNat = pc') (h : ¬ (y < x)) (k : own_G p e below s Q K N (T.setTop (mkF m pc' Ls rest))) : own_G p e below s Q K N (T.setTop (mkF m pc Ls (.int y :: .int x :: rest))) :=
  own_go (fun _ k => XS.icmpYes X.here hx rfl (pc0 := pc) (pc' := pc') rfl hd rfl (flt h).2.2.2 ho hp k) k
theorem own_ic_leN (X : Stand p l e R s m args below meth c T locs cells slots) (hx : p.tables.exec = Jvm.exec) {pc : Nat} {Ls : Array Slot} {rest : List Value} {o : Int} {x y : Int32} (hd : decode c.code pc = .ok (.if_icmp .le o, 3)) (h : y < x) (k : own_G p e below s Q K N (T.setTop (mkF m (pc + 3) Ls rest))) : own_G p e below s Q K N (T.setTop (mkF m pc Ls (.int y :: .int x :: rest))) :=
  own_go (fun _ k => XS.icmpNo X.here hx rfl hd rfl (tlt h).2.2.2 k) k
theorem own_ic_le (X : Stand p l e R s m args below meth c T locs cells slots) (hx : p.tables.exec = Jvm.exec) {pc pc' : Nat} {Ls : Array Slot} {rest : List Value} {o : Int} {x y : Int32} (hd : decode c.code pc = .ok (.if_icmp .le o, 3)) (ho : 0 ≤ (pc : Int) + o) (hp : ((pc : Int) + o).toNat = pc') (ky : ¬ (y < x) → own_G p e below s Q K N (T.setTop (mkF m pc' Ls rest))) (kn : y < x → own_G p e below s Q K N (T.setTop (mkF m (pc + 3) Ls rest))) : own_G p e below s Q K N (T.setTop (mkF m pc Ls (.int y :: .int x :: rest))) := by
  by_cases h : y < x
  · exact own_ic_leN X hx hd h (kn h)
  · exact own_ic_leY X hx hd ho hp h (ky h)
theorem own_if_leY (X : Stand p l e R s m args below meth c T locs cells slots) (hx : p.tables.exec = Jvm.exec) {pc pc' : Nat} {Ls : Array Slot} {rest : List Value} {o : Int} {x : Int32} (hd : decode c.code pc = .ok (.ifCond .le o, 3)) (ho : 0 ≤ (pc : Int) + o) (hp : ((pc : Int) + o).toNat = pc') (h : ¬ (0 < x)) (k : own_G p e below s Q K N (T.setTop (mkF m pc' Ls rest))) : own_G p e below s Q K N (T.setTop (mkF m pc Ls (.int x :: rest))) :=
  own_go (fun _ k => XS.ifYes X.here hx rfl (pc0 := pc) (pc' := pc') rfl hd rfl ((if0 _ _).trans (flt h).2.2.2) ho hp k) k
theorem own_if_leN (X : Stand p l e R s m args below meth c T locs cells slots) (hx : p.tables.exec = Jvm.exec) {pc : Nat} {Ls : Array Slot} {rest : List Value} {o : Int} {x : Int32} (hd : decode c.code pc = .ok (.ifCond .le o, 3)) (h : 0 < x) (k : own_G p e below s Q K N (T.setTop (mkF m (pc + 3) Ls rest))) : own_G p e below s Q K N (T.setTop (mkF m pc Ls (.int x :: rest))) :=
  own_go (fun _ k => XS.ifNo X.here hx rfl hd rfl ((if0 _ _).trans (tlt h).2.2.2) k) k
theorem own_if_le (X : Stand p l e R s m args below meth c T locs cells slots) (hx : p.tables.exec = Jvm.exec) {pc pc' : Nat} {Ls : Array Slot} {rest : List Value} {o : Int} {x : Int32} (hd : decode c.code pc = .ok (.ifCond .le o, 3)) (ho : 0 ≤ (pc : Int) + o) (hp : ((pc : Int) + o).toNat = pc') (ky : ¬ (0 < x) → own_G p e below s Q K N (T.setTop (mkF m pc' Ls rest))) (kn : 0 < x → own_G p e below s Q K N (T.setTop (mkF m (pc + 3) Ls rest))) : own_G p e below s Q K N (T.setTop (mkF m pc Ls (.int x :: rest))) := by
  by_cases h : 0 < x
  · exact own_if_leN X hx hd h (kn h)
  · exact own_if_leY X hx hd ho hp h (ky h)
theorem own_ic_eqY (X : Stand p l e R s m args below meth c T locs cells slots) (hx : p.tables.exec = Jvm.exec) {pc pc' : Nat} {Ls : Array Slot} {rest : List Value} {o : Int} {x y : Int32} (hd : decode c.code pc = .ok (.if_icmp .eq o, 3)) (ho : 0 ≤ (pc : Int) + o) (hp : ((pc : Int) + o).toNat = pc') (h : x = y) (k : own_G p e below s Q K N (T.setTop (mkF m pc' Ls rest))) : own_G p e below s Q K N (T.setTop (mkF m pc Ls (.int y :: .int x :: rest))) :=
  own_go (fun _ k => XS.icmpYes X.here hx rfl (pc0 := pc) (pc' := pc') rfl hd rfl (teq h).1 ho hp k) k
theorem own_ic_eqN (X : Stand p l e R s m args below meth c T locs cells slots) (hx : p.tables.exec = Jvm.exec) {pc : Nat} {Ls : Array Slot} {rest : List Value} {o : Int} {x y : Int32} (hd : decode c.code pc = .ok (.if_icmp .eq o, 3)) (h : ¬ (x = y)) (k : own_G p e below s Q K N (T.setTop (mkF m (pc + 3) Ls rest))) : own_G p e below s Q K N (T.setTop (mkF m pc Ls (.int y :: .int x :: rest))) :=
  own_go (fun _ k => XS.icmpNo X.here hx rfl hd rfl (feq h).1 k) k
theorem own_ic_eq (X : Stand p l e R s m args below meth c T locs cells slots) (hx : p.tables.exec = Jvm.exec) {pc pc' : Nat} {Ls : Array Slot} {rest : List Value} {o : Int} {x y : Int32} (hd : decode c.code pc = .ok (.if_icmp .eq o, 3)) (ho : 0 ≤ (pc : Int) + o) (hp : ((pc : Int) + o).toNat = pc') (ky : x = y → own_G p e below s Q K N (T.setTop (mkF m pc' Ls rest))) (kn : ¬ (x = y) → own_G p e below s Q K N (T.setTop (mkF m (pc + 3) Ls rest))) : own_G p e below s Q K N (T.setTop (mkF m pc Ls (.int y :: .int x :: rest))) := by
  by_cases h : x = y
  · exact own_ic_eqY X hx hd ho hp h (ky h)
  · exact own_ic_eqN X hx hd h (kn h)
theorem own_if_eqY (X : Stand p l e R s m args below meth c T locs cells slots) (hx : p.tables.exec = Jvm.exec) {pc pc' : Nat} {Ls : Array Slot} {rest : List Value} {o : Int} {x : Int32} (hd : decode c.code pc = .ok (.ifCond .eq o, 3)) (ho : 0 ≤ (pc : Int) + o) (hp : ((pc : Int) + o).toNat = pc') (h : x = 0) (k : own_G p e below s Q K N (T.setTop (mkF m pc' Ls rest))) : own_G p e below s Q K N (T.setTop (mkF m pc Ls (.int x :: rest))) :=
  own_go (fun _ k => XS.ifYes X.here hx rfl (pc0 := pc) (pc' := pc') rfl hd rfl ((if0 _ _).trans (teq h).1) ho hp k) k
theorem own_if_eqN (X : Stand p l e R s m args below meth c T locs cells slots) (hx : p.tables.exec = Jvm.exec) {pc : Nat} {Ls : Array Slot} {rest : List Value} {o : Int} {x : Int32} (hd : decode c.code pc = .ok (.ifCond .eq o, 3)) (h : ¬ (x = 0)) (k : own_G p e below s Q K N (T.setTop (mkF m (pc + 3) Ls rest))) : own_G p e below s Q K N (T.setTop (mkF m pc Ls (.int x :: rest))) :=
  own_go (fun _ k => XS.ifNo X.here hx rfl hd rfl ((if0 _ _).trans (feq h).1) k) k
theorem own_if_eq (X : Stand p l e R s m args below meth c T locs cells slots) (hx : p.tables.exec = Jvm.exec) {pc pc' : Nat} {Ls : Array Slot} {rest : List Value} {o : Int} {x : Int32} (hd : decode c.code pc = .ok (.ifCond .eq o, 3)) (ho : 0 ≤ (pc : Int) + o) (hp : ((pc : Int) + o).toNat = pc') (ky : x = 0 → own_G p e below s Q K N (T.setTop (mkF m pc' Ls rest))) (kn : ¬ (x = 0) → own_G p e below s Q K N (T.setTop (mkF m (pc + 3) Ls rest))) : own_G p e below s Q K N (T.setTop (mkF m pc Ls (.int x :: rest))) := by
  by_cases h : x = 0
  · exact own_if_eqY X hx hd ho hp h (ky h)
  · exact own_if_eqN X hx hd h (kn h)
theorem own_ic_neY (X : Stand p l e R s m args below meth c T locs cells slots) (hx : p.tables.exec = Jvm.exec) {pc pc' : Nat} {Ls : Array Slot} {rest : List Value} {o : Int} {x y : Int32} (hd : decode c.code pc = .ok (.if_icmp .ne o, 3)) (ho : 0 ≤ (pc : Int) + o) (hp : ((pc : Int) + o).toNat = pc') (h : ¬ (x = y)) (k : own_G p e below s Q K N (T.setTop (mkF m pc' Ls rest))) : own_G p e below s Q K N (T.setTop (mkF m pc Ls (.int y :: .int x :: rest))) :=
  own_go (fun _ k => XS.icmpYes X.here hx rfl (pc0 := pc) (pc' := pc') rfl hd rfl (feq h).2 ho hp k) k
theorem own_ic_neN (X : Stand p l e R s m args below meth c T locs cells slots) (hx : p.tables.exec = Jvm.exec) {pc : Nat} {Ls : Array Slot} {rest : List Value} {o : Int} {x y : Int32} (hd : decode c.code pc = .ok (.if_icmp .ne o, 3)) (h : x = y) (k : own_G p e below s Q K N (T.setTop (mkF m (pc + 3) Ls rest))) : own_G p e below s Q K N (T.setTop (mkF m pc Ls (.int y :: .int x :: rest))) :=
  own_go (fun _ k => XS.icmpNo X.here hx rfl hd rfl (teq h).2 k) k
theorem own_ic_ne (X : Stand p l e R s m args below meth c T locs cells slots) (hx : p.tables.exec = Jvm.exec) {pc pc' : Nat} {Ls : Array Slot} {rest : List Value} {o : Int} {x y : Int32} (hd : decode c.code pc = .ok (.if_icmp .ne o, 3)) (ho : 0 ≤ (pc : Int) + o) (hp : ((pc : Int) + o).toNat = pc') (ky : ¬ (x = y) → own_G p e below s Q K N (T.setTop (mkF m pc' Ls rest))) (kn : x = y → own_G p e below s Q K N (T.setTop (mkF m (pc + 3) Ls rest))) : own_G p e below s Q K N (T.setTop (mkF m pc Ls (.int y :: .int x :: rest))) := by
  by_cases h : x = y
  · exact own_ic_neN X hx hd h (kn h)
  · exact own_ic_neY X hx hd ho hp h (ky h)
theorem own_if_neY (X : Stand p l e R s m args below meth c T locs cells slots) (hx : p.tables.exec = Jvm.exec) {pc pc' : Nat} {Ls : Array Slot} {rest : List Value} {o : Int} {x : Int32} (hd : decode c.code pc = .ok (.ifCond .ne o, 3)) (ho : 0 ≤ (pc : Int) + o) (hp : ((pc : Int) + o).toNat = pc') (h : ¬ (x = 0)) (k : own_G p e below s Q K N (T.setTop (mkF m pc' Ls rest))) : own_G p e below s Q K N (T.setTop (mkF m pc Ls (.int x :: rest))) :=
  own_go (fun _ k => XS.ifYes X.here hx rfl (pc0 := pc) (pc' := pc') rfl hd rfl ((if0 _ _).trans (feq h).2) ho hp k) k
theorem own_if_neN (X : Stand p l e R s m args below meth c T locs cells slots) (hx : p.tables.exec = Jvm.exec) {pc : Nat} {Ls : Array Slot} {rest : List Value} {o : Int} {x : Int32} (hd : decode c.code pc = .ok (.ifCond .ne o, 3)) (h : x = 0) (k : own_G p e below s Q K N (T.setTop (mkF m (pc + 3) Ls rest))) : own_G p e below s Q K N (T.setTop (mkF m pc Ls (.int x :: rest))) :=
  own_go (fun _ k => XS.ifNo X.here hx rfl hd rfl ((if0 _ _).trans (teq h).2) k) k
theorem own_if_ne (X : Stand p l e R s m args below meth c T locs cells slots) (hx : p.tables.exec = Jvm.exec) {pc pc' : Nat} {Ls : Array Slot} {rest : List Value} {o : Int} {x : Int32} (hd : decode c.code pc = .ok (.ifCond .ne o, 3)) (ho : 0 ≤ (pc : Int) + o) (hp : ((pc : Int) + o).toNat = pc') (ky : ¬ (x = 0) → own_G p e below s Q K N (T.setTop (mkF m pc' Ls rest))) (kn : x = 0 → own_G p e below s Q K N (T.setTop (mkF m (pc + 3) Ls rest))) : own_G p e below s Q K N (T.setTop (mkF m pc Ls (.int x :: rest))) := by
  by_cases h : x = 0
  · exact own_if_neN X hx hd h (kn h)
  · exact own_if_neY X hx hd ho hp h (ky h)
theorem own_nar1 : nar .boolean (1 : Int32) = 1 := rfl
theorem own_nar0 : nar .boolean (0 : Int32) = 0 := rfl
theorem own_mask (x : Int32) (k : Nat) (hk : k < 2147483648) : ∃ n : Nat, n ≤ k ∧ (x &&& Int32.ofNat k) = Int32.ofNat n := by
  refine ⟨(x &&& Int32.ofNat k).toBitVec.toNat, ?_, ?_⟩
  · have h : (Int32.ofNat k).toBitVec.toNat = k := by
      show (BitVec.ofNat 32 k).toNat = k
      rw [BitVec.toNat_ofNat]; omega
    simp only [Int32.toBitVec_and, BitVec.toNat_and, h]
    exact Nat.and_le_right
  · apply Int32.toBitVec_inj.mp
    show _ = BitVec.ofNat 32 _
    rw [BitVec.ofNat_toNat]; simp
end OwnKit
theorem d1_0 : decode prog_80_method_4_code 0 = .ok (.iload_n 0, 1) := by decide +kernel
theorem d1_1 : decode prog_80_method_4_code 1 = .ok (.ifCond .ne 9, 3) := by decide +kernel
theorem d1_4 : decode prog_80_method_4_code 4 = .ok (.getstatic 3, 3) := by decide +kernel
theorem d1_7 : decode prog_80_method_4_code 7 = .ok (.goto 6, 3) := by decide +kernel
theorem d1_13 : decode prog_80_method_4_code 13 = .ok (.areturn, 1) := by decide +kernel
theorem pn_0 : plainName "com/example/brisk_gossip/briskgossip/wire/Mode" = true := by first | (simp [plainName, overriddenIn]; done) | decide +kernel
theorem ef_rmO0 (m : MethodId) (x0 : Int32) : entryFrame m #[(.int x0)] 1 = mkF m 0 #[.val (.int x0)] [] := by first | (simp [entryFrame, mkF, argsToLocals, Value.category]; done) | rfl
def Q_rmO0 (Z : State) (x0 : Int32) (aI aR : Addr) (h0 : Heap) (n0 : Nat) : Option Value → Heap → List Loc → Prop := fun v h L => v = some (.ref aI) ∧ Fr n0 L ∧ h = h0
set_option maxRecDepth 65536 in
set_option maxHeartbeats 40000000 in
theorem rmO0 (l : Launch) (Z : State) (a0 : Array Value) (hw : ∀ d ∈ tables_1, d.before a0 Z = true) (ws : List Jvm.Cond) (x0 : Int32) (aI aR : Addr) (h0 : Heap) (n0 : Nat) (Z0 : n0 ≤ h0.size) (hk : x0 = 0) (S_I : Sta Z h0 "com/example/brisk_gossip/briskgossip/wire/Mode" "INITIATOR" "Lcom/example/brisk_gossip/briskgossip/wire/Mode;" (.ref aI)) (S_R : Sta Z h0 "com/example/brisk_gossip/briskgossip/wire/Mode" "RESPONDER" "Lcom/example/brisk_gossip/briskgossip/wire/Mode;" (.ref aR)) :
    MetFree l (⟨"com/example/brisk_gossip/briskgossip/wire/Mode", "ofBit", "(I)Lcom/example/brisk_gossip/briskgossip/wire/Mode;"⟩ : MethodName) (head1 (Jvm.Cond.code (⟨"com/example/brisk_gossip/briskgossip/wire/Mode", "ofBit", "(I)Lcom/example/brisk_gossip/briskgossip/wire/Mode;"⟩ : MethodName) prog_80_method_4_code 1 (some (.object "com/example/brisk_gossip/briskgossip/wire/Mode")) :: ws) ({ frames := 0, cells := 0, slots := 0, locals := 0 } : Room)) (fun as_ U => as_ = #[(.int x0)] ∧ Z.Warmed39 U.vm ∧ U.heap = h0) (fun _ _ _ _ _ => True) (fun _ U o U' => ∃ v L, o = .returned v ∧ (Q_rmO0 Z x0 aI aR h0 n0) v U'.heap L ∧ FrameEnd U o U' L ({ frames := 0, cells := 0, slots := 0, locals := 0 } : Room).cells ({ frames := 0, cells := 0, slots := 0, locals := 0 } : Room).slots) := by
  refine MetFree.of_bodySF (plainFor_of_name pn_0) hisR ?_
  intro p e s m args below meth c s₁ Bd hml0 hP hK
  obtain ⟨rfl, hZ, hh⟩ := hP
  have hx := Bd.exec
  have hby := Bd.bytes
  have hml : c.maxLocals = 1 := hml0
  have hown : s.vm.findClass "com/example/brisk_gossip/briskgossip/wire/Mode" = some m.cls := findClass_of_methodNamed Bd.named
  have hnm := (name_of_methodNamed Bd.named Bd.method).1
  have X0 : Stand p l e ({ frames := 0, cells := 0, slots := 0, locals := 0 } : Room) s m #[(.int x0)] below meth c s₁ [] 0 0 := Stand.of_body Bd
  have e0 : s₁.heap = h0 := by rw [← hh, Bd.state]; rfl
  have N0 := Fr.nil n0
  show own_G p e below s (Q_rmO0 Z x0 aI aR h0 n0) ({ frames := 0, cells := 0, slots := 0, locals := 0 } : Room).cells ({ frames := 0, cells := 0, slots := 0, locals := 0 } : Room).slots (s₁.setTop (entryFrame m #[(.int x0)] 1))
  rw [ef_rmO0 m x0]
  show own_G p e below s _ _ _ (s₁.setTop (mkF m 0 #[.val (.int x0)] []))
  refine own_go (fun _ k => XS.iloadN X0.here hx rfl (hb hby d1_0) rfl k) ?_
  show own_G p e below s _ _ _ (s₁.setTop (mkF m 1 #[.val (.int x0)] [(.int x0)]))
  refine own_if_neN X0 hx (pc := 1) (hb hby d1_1) hk ?_
  show own_G p e below s _ _ _ (s₁.setTop (mkF m 4 #[.val (.int x0)] []))
  obtain ⟨T1, X1, e1, st1⟩ := getS2 X0 hx hZ hown (host := "") (Or.inl (hw _ (List.mem_of_getElem? (i := 4) rfl))) Via.refl e0 S_I (g := (mkF m 4 #[.val (.int x0)] [])) rfl (hb hby d1_4)
  refine own_go st1 ?_
  show own_G p e below s _ _ _ (T1.setTop (mkF m 7 #[.val (.int x0)] [(.ref aI)]))
  refine own_go (fun _ k => XS.goto X1.here hx rfl (pc0 := 7) (pc' := 13) rfl (hb hby d1_7) (by decide) (by decide) k) ?_
  show own_G p e below s _ _ _ (T1.setTop (mkF m 13 #[.val (.int x0)] [(.ref aI)]))
  exact own_retA (ht := rfl) (hv := rfl) X1 hx Bd.returns (BodyLoose.notSynchronized Bd) (hb hby d1_13) e1 ⟨rfl, N0, rfl⟩ (by decide) (by decide)
theorem d1_10 : decode prog_80_method_4_code 10 = .ok (.getstatic 7, 3) := by decide +kernel
theorem ef_rmO1 (m : MethodId) (x0 : Int32) : entryFrame m #[(.int x0)] 1 = mkF m 0 #[.val (.int x0)] [] := by first | (simp [entryFrame, mkF, argsToLocals, Value.category]; done) | rfl
def Q_rmO1 (Z : State) (x0 : Int32) (aI aR : Addr) (h0 : Heap) (n0 : Nat) : Option Value → Heap → List Loc → Prop := fun v h L => v = some (.ref aR) ∧ Fr n0 L ∧ h = h0
set_option maxRecDepth 65536 in
set_option maxHeartbeats 40000000 in
theorem rmO1 (l : Launch) (Z : State) (a0 : Array Value) (hw : ∀ d ∈ tables_1, d.before a0 Z = true) (ws : List Jvm.Cond) (x0 : Int32) (aI aR : Addr) (h0 : Heap) (n0 : Nat) (Z0 : n0 ≤ h0.size) (hk : ¬ x0 = 0) (S_I : Sta Z h0 "com/example/brisk_gossip/briskgossip/wire/Mode" "INITIATOR" "Lcom/example/brisk_gossip/briskgossip/wire/Mode;" (.ref aI)) (S_R : Sta Z h0 "com/example/brisk_gossip/briskgossip/wire/Mode" "RESPONDER" "Lcom/example/brisk_gossip/briskgossip/wire/Mode;" (.ref aR)) :
    MetFree l (⟨"com/example/brisk_gossip/briskgossip/wire/Mode", "ofBit", "(I)Lcom/example/brisk_gossip/briskgossip/wire/Mode;"⟩ : MethodName) (head1 (Jvm.Cond.code (⟨"com/example/brisk_gossip/briskgossip/wire/Mode", "ofBit", "(I)Lcom/example/brisk_gossip/briskgossip/wire/Mode;"⟩ : MethodName) prog_80_method_4_code 1 (some (.object "com/example/brisk_gossip/briskgossip/wire/Mode")) :: ws) ({ frames := 0, cells := 0, slots := 0, locals := 0 } : Room)) (fun as_ U => as_ = #[(.int x0)] ∧ Z.Warmed39 U.vm ∧ U.heap = h0) (fun _ _ _ _ _ => True) (fun _ U o U' => ∃ v L, o = .returned v ∧ (Q_rmO1 Z x0 aI aR h0 n0) v U'.heap L ∧ FrameEnd U o U' L ({ frames := 0, cells := 0, slots := 0, locals := 0 } : Room).cells ({ frames := 0, cells := 0, slots := 0, locals := 0 } : Room).slots) := by
  refine MetFree.of_bodySF (plainFor_of_name pn_0) hisR ?_
  intro p e s m args below meth c s₁ Bd hml0 hP hK
  obtain ⟨rfl, hZ, hh⟩ := hP
  have hx := Bd.exec
  have hby := Bd.bytes
  have hml : c.maxLocals = 1 := hml0
  have hown : s.vm.findClass "com/example/brisk_gossip/briskgossip/wire/Mode" = some m.cls := findClass_of_methodNamed Bd.named
  have hnm := (name_of_methodNamed Bd.named Bd.method).1
  have X0 : Stand p l e ({ frames := 0, cells := 0, slots := 0, locals := 0 } : Room) s m #[(.int x0)] below meth c s₁ [] 0 0 := Stand.of_body Bd
  have e0 : s₁.heap = h0 := by rw [← hh, Bd.state]; rfl
  have N0 := Fr.nil n0
  show own_G p e below s (Q_rmO1 Z x0 aI aR h0 n0) ({ frames := 0, cells := 0, slots := 0, locals := 0 } : Room).cells ({ frames := 0, cells := 0, slots := 0, locals := 0 } : Room).slots (s₁.setTop (entryFrame m #[(.int x0)] 1))
  rw [ef_rmO1 m x0]
  show own_G p e below s _ _ _ (s₁.setTop (mkF m 0 #[.val (.int x0)] []))
  refine own_go (fun _ k => XS.iloadN X0.here hx rfl (hb hby d1_0) rfl k) ?_
  show own_G p e below s _ _ _ (s₁.setTop (mkF m 1 #[.val (.int x0)] [(.int x0)]))
  refine own_if_neY X0 hx (pc := 1) (pc' := 10) (hb hby d1_1) (by decide) (by decide) hk ?_
  show own_G p e below s _ _ _ (s₁.setTop (mkF m 10 #[.val (.int x0)] []))
  obtain ⟨T1, X1, e1, st1⟩ := getS2 X0 hx hZ hown (host := "") (Or.inl (hw _ (List.mem_of_getElem? (i := 23) rfl))) Via.refl e0 S_R (g := (mkF m 10 #[.val (.int x0)] [])) rfl (hb hby d1_10)
  refine own_go st1 ?_
  show own_G p e below s _ _ _ (T1.setTop (mkF m 13 #[.val (.int x0)] [(.ref aR)]))
  exact own_retA (ht := rfl) (hv := rfl) X1 hx Bd.returns (BodyLoose.notSynchronized Bd) (hb hby d1_13) e1 ⟨rfl, N0, rfl⟩ (by decide) (by decide)
theorem d3_0 : decode jdk_37_method_2_code 0 = .ok (.aload_n 0, 1) := by decide +kernel
theorem d3_1 : decode jdk_37_method_2_code 1 = .ok (.getfield 7, 3) := by decide +kernel
theorem d3_4 : decode jdk_37_method_2_code 4 = .ok (.ireturn, 1) := by decide +kernel
theorem pn_1 : plainName "java/lang/Enum" = true := by first | (simp [plainName, overriddenIn]; done) | decide +kernel
theorem ef_rmE (m : MethodId) (x0 : Addr) : entryFrame m #[(.ref x0)] 1 = mkF m 0 #[.val (.ref x0)] [] := by first | (simp [entryFrame, mkF, argsToLocals, Value.category]; done) | rfl
def Q_rmE (Z : State) (a : Addr) (k0 : Int32) (h0 : Heap) (n0 : Nat) : Option Value → Heap → List Loc → Prop := fun v h L => v = some (.int k0) ∧ Fr n0 L ∧ h = h0
set_option maxRecDepth 65536 in
set_option maxHeartbeats 40000000 in
theorem rmE (l : Launch) (Z : State) (a0 : Array Value) (hw : ∀ d ∈ tables_1, d.before a0 Z = true) (ws : List Jvm.Cond) (a : Addr) (k0 : Int32) (h0 : Heap) (n0 : Nat) (Z0 : n0 ≤ h0.size) (F_o : Fld Z h0 a "java/lang/Enum" "ordinal" "I" (.int k0)) :
    MetFree l (⟨"java/lang/Enum", "ordinal", "()I"⟩ : MethodName) (head1 (Jvm.Cond.code (⟨"java/lang/Enum", "ordinal", "()I"⟩ : MethodName) jdk_37_method_2_code 1 (some .int) :: ws) ({ frames := 0, cells := 0, slots := 0, locals := 0 } : Room)) (fun as_ U => as_ = #[(.ref a)] ∧ Z.Warmed39 U.vm ∧ U.heap = h0) (fun _ _ _ _ _ => True) (fun _ U o U' => ∃ v L, o = .returned v ∧ (Q_rmE Z a k0 h0 n0) v U'.heap L ∧ FrameEnd U o U' L ({ frames := 0, cells := 0, slots := 0, locals := 0 } : Room).cells ({ frames := 0, cells := 0, slots := 0, locals := 0 } : Room).slots) := by
  refine MetFree.of_bodySF (plainFor_of_name pn_1) hisR ?_
  intro p e s m args below meth c s₁ Bd hml0 hP hK
  obtain ⟨rfl, hZ, hh⟩ := hP
  have hx := Bd.exec
  have hby := Bd.bytes
  have hml : c.maxLocals = 1 := hml0
  have hown : s.vm.findClass "java/lang/Enum" = some m.cls := findClass_of_methodNamed Bd.named
  have hnm := (name_of_methodNamed Bd.named Bd.method).1
  have X0 : Stand p l e ({ frames := 0, cells := 0, slots := 0, locals := 0 } : Room) s m #[(.ref a)] below meth c s₁ [] 0 0 := Stand.of_body Bd
  have e0 : s₁.heap = h0 := by rw [← hh, Bd.state]; rfl
  have N0 := Fr.nil n0
  show own_G p e below s (Q_rmE Z a k0 h0 n0) ({ frames := 0, cells := 0, slots := 0, locals := 0 } : Room).cells ({ frames := 0, cells := 0, slots := 0, locals := 0 } : Room).slots (s₁.setTop (entryFrame m #[(.ref a)] 1))
  rw [ef_rmE m a]
  show own_G p e below s _ _ _ (s₁.setTop (mkF m 0 #[.val (.ref a)] []))
  refine own_go (fun _ k => XS.aloadN X0.here hx rfl (hb hby d3_0) rfl rfl k) ?_
  show own_G p e below s _ _ _ (s₁.setTop (mkF m 1 #[.val (.ref a)] [(.ref a)]))
  obtain ⟨T1, X1, e1, st1⟩ := getF X0 hx hZ hown (host := "") (Or.inl (hw _ (List.mem_of_getElem? (i := 18) rfl))) Via.refl e0 F_o (g := (mkF m 1 #[.val (.ref a)] [(.ref a)])) rfl rfl (hb hby d3_1)
  refine own_go st1 ?_
  show own_G p e below s _ _ _ (T1.setTop (mkF m 4 #[.val (.ref a)] [(.int k0)]))
  exact own_retI X1 hx Bd.returns (BodyLoose.notSynchronized Bd) (hb hby d3_4) e1 ⟨rfl, N0, rfl⟩ (by decide) (by decide)
theorem d2_0 : decode prog_80_method_5_code 0 = .ok (.aload_n 0, 1) := by decide +kernel
theorem d2_1 : decode prog_80_method_5_code 1 = .ok (.invokevirtual 29, 3) := by decide +kernel
theorem d2_4 : decode prog_80_method_5_code 4 = .ok (.ireturn, 1) := by decide +kernel
theorem pd_0 : parseMethodDescriptor "()I" = some ⟨[], some .int⟩ := by decide +kernel
theorem ef_rmB (m : MethodId) (x0 : Addr) : entryFrame m #[(.ref x0)] 1 = mkF m 0 #[.val (.ref x0)] [] := by first | (simp [entryFrame, mkF, argsToLocals, Value.category]; done) | rfl
def Q_rmB (Z : State) (a : Addr) (k0 : Int32) (h0 : Heap) (n0 : Nat) : Option Value → Heap → List Loc → Prop := fun v h L => v = some (.int k0) ∧ Fr n0 L ∧ h = h0
set_option maxRecDepth 65536 in
set_option maxHeartbeats 40000000 in
theorem rmB (l : Launch) (Z : State) (a0 : Array Value) (hw : ∀ d ∈ tables_1, d.before a0 Z = true) (ws : List Jvm.Cond) (a : Addr) (k0 : Int32) (h0 : Heap) (n0 : Nat) (Z0 : n0 ≤ h0.size) (E_a : Exa Z h0 a "com/example/brisk_gossip/briskgossip/wire/Mode") (F_o : Fld Z h0 a "java/lang/Enum" "ordinal" "I" (.int k0)) :
    MetFree l (⟨"com/example/brisk_gossip/briskgossip/wire/Mode", "bit", "()I"⟩ : MethodName) (head1 (Jvm.Cond.code (⟨"com/example/brisk_gossip/briskgossip/wire/Mode", "bit", "()I"⟩ : MethodName) prog_80_method_5_code 1 (some .int) :: ws) ({ frames := 1, cells := 0, slots := 0, locals := 12 } : Room)) (fun as_ U => as_ = #[(.ref a)] ∧ Z.Warmed39 U.vm ∧ U.heap = h0) (fun _ _ _ _ _ => True) (fun _ U o U' => ∃ v L, o = .returned v ∧ (Q_rmB Z a k0 h0 n0) v U'.heap L ∧ FrameEnd U o U' L ({ frames := 1, cells := 0, slots := 0, locals := 12 } : Room).cells ({ frames := 1, cells := 0, slots := 0, locals := 12 } : Room).slots) := by
  refine MetFree.of_bodySF (plainFor_of_name pn_0) hisR ?_
  intro p e s m args below meth c s₁ Bd hml0 hP hK
  obtain ⟨rfl, hZ, hh⟩ := hP
  have hx := Bd.exec
  have hby := Bd.bytes
  have hml : c.maxLocals = 1 := hml0
  have hown : s.vm.findClass "com/example/brisk_gossip/briskgossip/wire/Mode" = some m.cls := findClass_of_methodNamed Bd.named
  have hnm := (name_of_methodNamed Bd.named Bd.method).1
  have X0 : Stand p l e ({ frames := 1, cells := 0, slots := 0, locals := 12 } : Room) s m #[(.ref a)] below meth c s₁ [] 0 0 := Stand.of_body Bd
  have e0 : s₁.heap = h0 := by rw [← hh, Bd.state]; rfl
  have N0 := Fr.nil n0
  show own_G p e below s (Q_rmB Z a k0 h0 n0) ({ frames := 1, cells := 0, slots := 0, locals := 12 } : Room).cells ({ frames := 1, cells := 0, slots := 0, locals := 12 } : Room).slots (s₁.setTop (entryFrame m #[(.ref a)] 1))
  rw [ef_rmB m a]
  show own_G p e below s _ _ _ (s₁.setTop (mkF m 0 #[.val (.ref a)] []))
  refine own_go (fun _ k => XS.aloadN X0.here hx rfl (hb hby d2_0) rfl rfl k) ?_
  show own_G p e below s _ _ _ (s₁.setTop (mkF m 1 #[.val (.ref a)] [(.ref a)]))
  obtain ⟨cq1, kq1, q1a, q1b, q1c⟩ := isOf hZ e0 E_a
  obtain ⟨_, _, ⟨T1, L1, k1, n1⟩, -, X1, ⟨Lc1, hQ1, l1, y1, z1⟩, st1⟩ := X0.virtualBackUp hx (x := (⟨"com/example/brisk_gossip/briskgossip/wire/Mode", "ordinal", "()I"⟩ : MethodName)) (y := (⟨"java/lang/Enum", "ordinal", "()I"⟩ : MethodName)) (owner := "java/lang/Enum") hown (mvT hZ (hw _ (List.mem_of_getElem? (i := 11) rfl))) (mvT hZ (hw _ (List.mem_of_getElem? (i := 12) rfl))) (mvT hZ (hw _ (List.mem_of_getElem? (i := 13) rfl))) (by decide) (mvT hZ (hw _ (List.mem_of_getElem? (i := 15) rfl))) (mvT hZ (hw _ (List.mem_of_getElem? (i := 14) rfl))) (backOf (W := 0) (rmE l Z a0 hw [] a k0 h0 n0 Z0 F_o) hZ (hw _ (List.mem_of_getElem? (i := 17) rfl)) (hw _ (List.mem_of_getElem? (i := 16) rfl)) (by decide) (by decide)) q1a q1c (g := (mkF m 1 #[.val (.ref a)] [(.ref a)])) rfl (by rw [hml]; rfl) (Steps.refl _) (argsL := []) (rest := []) (lenOf pd_0 rfl) rfl (by show 2 * 0 + _ ≤ _; exact Nat.le_of_eq rfl) (hb hby d2_1) (fun _ _ => ⟨rfl, e0, (by decide : 0 + 0 ≤ _), (by decide : 0 + 0 ≤ _)⟩)
  dsimp only [Pt.U, Pt.locs, Pt.cells, Pt.slots] at X1 l1 y1 z1 st1 hQ1
  subst l1 y1 z1
  obtain ⟨rfl, N1q, e1⟩ := hQ1
  have N1 := Fr.app N0 N1q
  refine own_go (fun _ k => st1.trans k) ?_
  show own_G p e below s _ _ _ (T1.setTop (mkF m 4 #[.val (.ref a)] [(.int k0)]))
  exact own_retI X1 hx Bd.returns (BodyLoose.notSynchronized Bd) (hb hby d2_4) e1 ⟨rfl, N1, rfl⟩ (by decide) (by decide)
theorem pn_2 : plainName "com/example/brisk_gossip/briskgossip/wire/ModeOfBitPinLaw" = true := by first | (simp [plainName, overriddenIn]; done) | decide +kernel
theorem pd_1 : parseMethodDescriptor "(I)Lcom/example/brisk_gossip/briskgossip/wire/Mode;" = some ⟨[.int], some (.object "com/example/brisk_gossip/briskgossip/wire/Mode")⟩ := by decide +kernel
theorem ef_rm0 (m : MethodId) (x0 : Int32) : entryFrame m #[(.int x0)] maxLocals = mkF m 0 #[.val (.int x0), .unset, .unset, .unset, .unset] [] := by first | (simp [entryFrame, mkF, argsToLocals, Value.category, maxLocals]; done) | rfl
def Q_rm0 (Z : State) (x0 : Int32) (aI aR : Addr) (h0 : Heap) (n0 : Nat) : Option Value → Heap → List Loc → Prop := fun v h L => v = some (.int 1) ∧ Fr n0 L
set_option maxRecDepth 65536 in
set_option maxHeartbeats 40000000 in
theorem rm0 (l : Launch) (Z : State) (a0 : Array Value) (hw : ∀ d ∈ tables_1, d.before a0 Z = true) (ws : List Jvm.Cond) (x0 : Int32) (aI aR : Addr) (h0 : Heap) (n0 : Nat) (Z0 : n0 ≤ h0.size) (S_I : Sta Z h0 "com/example/brisk_gossip/briskgossip/wire/Mode" "INITIATOR" "Lcom/example/brisk_gossip/briskgossip/wire/Mode;" (.ref aI)) (S_R : Sta Z h0 "com/example/brisk_gossip/briskgossip/wire/Mode" "RESPONDER" "Lcom/example/brisk_gossip/briskgossip/wire/Mode;" (.ref aR)) (E_I : Exa Z h0 aI "com/example/brisk_gossip/briskgossip/wire/Mode") (E_R : Exa Z h0 aR "com/example/brisk_gossip/briskgossip/wire/Mode") (F_I : Fld Z h0 aI "java/lang/Enum" "ordinal" "I" (.int 0)) (F_R : Fld Z h0 aR "java/lang/Enum" "ordinal" "I" (.int 1)) :
    MetFree l x (head1 (Jvm.Cond.code x code maxLocals ret :: ws) room_1) (fun as_ U => as_ = #[(.int x0)] ∧ Z.Warmed39 U.vm ∧ U.heap = h0) (fun _ _ _ _ _ => True) (fun _ U o U' => ∃ v L, o = .returned v ∧ (Q_rm0 Z x0 aI aR h0 n0) v U'.heap L ∧ FrameEnd U o U' L 0 0) := by
  refine MetFree.of_bodySF (plainFor_of_name pn_2) hisR ?_
  intro p e s m args below meth c s₁ Bd hml0 hP hK
  obtain ⟨rfl, hZ, hh⟩ := hP
  have hx := Bd.exec
  have hby := Bd.bytes
  have hml : c.maxLocals = 5 := hml0
  have hown : s.vm.findClass "com/example/brisk_gossip/briskgossip/wire/ModeOfBitPinLaw" = some m.cls := findClass_of_methodNamed Bd.named
  have hnm := (name_of_methodNamed Bd.named Bd.method).1
  have X0 : Stand p l e room_1 s m #[(.int x0)] below meth c s₁ [] 0 0 := Stand.of_body Bd
  have e0 : s₁.heap = h0 := by rw [← hh, Bd.state]; rfl
  have N0 := Fr.nil n0
  show own_G p e below s (Q_rm0 Z x0 aI aR h0 n0) 0 0 (s₁.setTop (entryFrame m #[(.int x0)] maxLocals))
  rw [ef_rm0 m x0]
  have hne : aI ≠ aR := F_I.ne F_R (by decide)
  show own_G p e below s _ _ _ (s₁.setTop (mkF m 0 #[.val (.int x0), .unset, .unset, .unset, .unset] []))
  refine own_go (fun _ k => XS.iloadN X0.here hx rfl (hb hby at_0) rfl k) ?_
  show own_G p e below s _ _ _ (s₁.setTop (mkF m 1 #[.val (.int x0), .unset, .unset, .unset, .unset] [(.int x0)]))
  refine own_go (fun _ k => XS.iconst X0.here hx rfl (hb hby at_1) k) ?_
  show own_G p e below s _ _ _ (s₁.setTop (mkF m 2 #[.val (.int x0), .unset, .unset, .unset, .unset] [(.int (1 : Int32)), (.int x0)]))
  refine own_go (fun _ k => XS.iand X0.here hx rfl (hb hby at_2) rfl k) ?_
  show own_G p e below s _ _ _ (s₁.setTop (mkF m 3 #[.val (.int x0), .unset, .unset, .unset, .unset] [(.int (x0 &&& (1 : Int32)))]))
  rcases and_one x0 with hbt | hbt
  · rw [hbt]
    show own_G p e below s _ _ _ (s₁.setTop (mkF m 3 #[.val (.int x0), .unset, .unset, .unset, .unset] [(.int (0 : Int32))]))
    refine own_go (fun _ k => XS.istoreN X0.here hx rfl (hb hby at_3) rfl (l' := #[.val (.int x0), .val (.int (0 : Int32)), .unset, .unset, .unset]) rfl k) ?_
    show own_G p e below s _ _ _ (s₁.setTop (mkF m 4 #[.val (.int x0), .val (.int (0 : Int32)), .unset, .unset, .unset] []))
    refine own_go (fun _ k => XS.iloadN X0.here hx rfl (hb hby at_4) rfl k) ?_
    show own_G p e below s _ _ _ (s₁.setTop (mkF m 5 #[.val (.int x0), .val (.int (0 : Int32)), .unset, .unset, .unset] [(.int (0 : Int32))]))
    obtain ⟨_, _, ⟨T1, L1, k1, n1⟩, -, X1, ⟨Lc1, hQ1, l1, y1, z1⟩, st1⟩ := Jvm.LawKit.callS X0 hx (y := (⟨"com/example/brisk_gossip/briskgossip/wire/Mode", "ofBit", "(I)Lcom/example/brisk_gossip/briskgossip/wire/Mode;"⟩ : MethodName)) hown (mvT hZ (hw _ (List.mem_of_getElem? (i := 0) rfl))) (mvT hZ (hw _ (List.mem_of_getElem? (i := 1) rfl))) (mvT hZ (hw _ (List.mem_of_getElem? (i := 2) rfl))) (mvT hZ (hw _ (List.mem_of_getElem? (i := 3) rfl))) (by decide) (backOf (W := 0) (rmO0 l Z a0 hw [] (0 : Int32) aI aR h0 n0 Z0 (by decide) S_I S_R) hZ (hw _ (List.mem_of_getElem? (i := 3) rfl)) (hw _ (List.mem_of_getElem? (i := 2) rfl)) (by decide) (by decide)) (g := (mkF m 5 #[.val (.int x0), .val (.int (0 : Int32)), .unset, .unset, .unset] [(.int (0 : Int32))])) rfl (by rw [hml]; rfl) (argsL := [(.int (0 : Int32))]) (rest := []) (lenOf pd_1 rfl) rfl (by show 2 * 0 + _ ≤ _; exact Nat.le_of_eq rfl) (hb hby at_5) (fun _ _ => ⟨rfl, e0, (by decide : 0 + 0 ≤ _), (by decide : 0 + 0 ≤ _)⟩)
    dsimp only [Pt.U, Pt.locs, Pt.cells, Pt.slots] at X1 l1 y1 z1 st1 hQ1
    subst l1 y1 z1
    obtain ⟨rfl, N1q, e1⟩ := hQ1
    have N1 := Fr.app N0 N1q
    refine own_go st1 ?_
    show own_G p e below s _ _ _ (T1.setTop (mkF m 8 #[.val (.int x0), .val (.int (0 : Int32)), .unset, .unset, .unset] [(.ref aI)]))
    refine own_go (fun _ k => XS.astoreN X1.here hx rfl (hb hby at_8) rfl rfl (l' := #[.val (.int x0), .val (.int (0 : Int32)), .val (.ref aI), .unset, .unset]) rfl k) ?_
    show own_G p e below s _ _ _ (T1.setTop (mkF m 9 #[.val (.int x0), .val (.int (0 : Int32)), .val (.ref aI), .unset, .unset] []))
    refine own_go (fun _ k => XS.aloadN X1.here hx rfl (hb hby at_9) rfl rfl k) ?_
    show own_G p e below s _ _ _ (T1.setTop (mkF m 10 #[.val (.int x0), .val (.int (0 : Int32)), .val (.ref aI), .unset, .unset] [(.ref aI)]))
    refine own_go (fun _ k => XT.ifnonnullYes X1.here hx rfl (pc0 := 10) (pc' := 15) rfl (hb hby at_10) rfl (by decide) (by decide) k) ?_
    show own_G p e below s _ _ _ (T1.setTop (mkF m 15 #[.val (.int x0), .val (.int (0 : Int32)), .val (.ref aI), .unset, .unset] []))
    refine own_go (fun _ k => XS.aloadN X1.here hx rfl (hb hby at_15) rfl rfl k) ?_
    show own_G p e below s _ _ _ (T1.setTop (mkF m 16 #[.val (.int x0), .val (.int (0 : Int32)), .val (.ref aI), .unset, .unset] [(.ref aI)]))
    obtain ⟨cq2, kq2, q2a, q2b, q2c⟩ := isOf hZ e1 E_I
    obtain ⟨_, _, ⟨T2, L2, k2, n2⟩, -, X2, ⟨Lc2, hQ2, l2, y2, z2⟩, st2⟩ := X1.virtualBack hx (y := (⟨"com/example/brisk_gossip/briskgossip/wire/Mode", "bit", "()I"⟩ : MethodName)) (z := (⟨"com/example/brisk_gossip/briskgossip/wire/Mode", "bit", "()I"⟩ : MethodName)) hown (mvT hZ (hw _ (List.mem_of_getElem? (i := 6) rfl))) (mvT hZ (hw _ (List.mem_of_getElem? (i := 7) rfl))) (notFace_of_selects (args := #[]) (mvT hZ (hw _ (List.mem_of_getElem? (i := 9) rfl)))) (mvT hZ (hw _ (List.mem_of_getElem? (i := 9) rfl))) (mvT hZ (hw _ (List.mem_of_getElem? (i := 8) rfl))) (by decide) (backOf (W := 0) (rmB l Z a0 hw [] aI (0 : Int32) h0 n0 Z0 E_I F_I) hZ (hw _ (List.mem_of_getElem? (i := 10) rfl)) (hw _ (List.mem_of_getElem? (i := 2) rfl)) (by decide) (by decide)) q2a q2c (g := (mkF m 16 #[.val (.int x0), .val (.int (0 : Int32)), .val (.ref aI), .unset, .unset] [(.ref aI)])) rfl (by rw [hml]; rfl) (Steps.refl _) (argsL := []) (rest := []) (lenOf pd_0 rfl) rfl (by show 2 * 0 + _ ≤ _; exact Nat.le_of_eq rfl) (hb hby at_16) (fun _ _ => ⟨rfl, e1, (by decide : 0 + 0 ≤ _), (by decide : 0 + 0 ≤ _)⟩)
    dsimp only [Pt.U, Pt.locs, Pt.cells, Pt.slots] at X2 l2 y2 z2 st2 hQ2
    subst l2 y2 z2
    obtain ⟨rfl, N2q, e2⟩ := hQ2
    have N2 := Fr.app N1 N2q
    refine own_go (fun _ k => st2.trans k) ?_
    show own_G p e below s _ _ _ (T2.setTop (mkF m 19 #[.val (.int x0), .val (.int (0 : Int32)), .val (.ref aI), .unset, .unset] [(.int (0 : Int32))]))
    refine own_go (fun _ k => XS.iloadN X2.here hx rfl (hb hby at_19) rfl k) ?_
    show own_G p e below s _ _ _ (T2.setTop (mkF m 20 #[.val (.int x0), .val (.int (0 : Int32)), .val (.ref aI), .unset, .unset] [(.int (0 : Int32)), (.int (0 : Int32))]))
    refine own_ic_neN X2 hx (pc := 20) (hb hby at_20) (by decide) ?_
    show own_G p e below s _ _ _ (T2.setTop (mkF m 23 #[.val (.int x0), .val (.int (0 : Int32)), .val (.ref aI), .unset, .unset] []))
    refine own_go (fun _ k => XS.iconst X2.here hx rfl (hb hby at_23) k) ?_
    show own_G p e below s _ _ _ (T2.setTop (mkF m 24 #[.val (.int x0), .val (.int (0 : Int32)), .val (.ref aI), .unset, .unset] [(.int (1 : Int32))]))
    refine own_go (fun _ k => XS.goto X2.here hx rfl (pc0 := 24) (pc' := 28) rfl (hb hby at_24) (by decide) (by decide) k) ?_
    show own_G p e below s _ _ _ (T2.setTop (mkF m 28 #[.val (.int x0), .val (.int (0 : Int32)), .val (.ref aI), .unset, .unset] [(.int (1 : Int32))]))
    refine own_go (fun _ k => XS.istoreN X2.here hx rfl (hb hby at_28) rfl (l' := #[.val (.int x0), .val (.int (0 : Int32)), .val (.ref aI), .val (.int (1 : Int32)), .unset]) rfl k) ?_
    show own_G p e below s _ _ _ (T2.setTop (mkF m 29 #[.val (.int x0), .val (.int (0 : Int32)), .val (.ref aI), .val (.int (1 : Int32)), .unset] []))
    refine own_go (fun _ k => XS.aloadN X2.here hx rfl (hb hby at_29) rfl rfl k) ?_
    show own_G p e below s _ _ _ (T2.setTop (mkF m 30 #[.val (.int x0), .val (.int (0 : Int32)), .val (.ref aI), .val (.int (1 : Int32)), .unset] [(.ref aI)]))
    obtain ⟨T3, X3, e3, st3⟩ := getS2 X2 hx hZ hown (host := "") (Or.inl (hw _ (List.mem_of_getElem? (i := 20) rfl))) Via.refl e2 S_I (g := (mkF m 30 #[.val (.int x0), .val (.int (0 : Int32)), .val (.ref aI), .val (.int (1 : Int32)), .unset] [(.ref aI)])) rfl (hb hby at_30)
    refine own_go st3 ?_
    show own_G p e below s _ _ _ (T3.setTop (mkF m 33 #[.val (.int x0), .val (.int (0 : Int32)), .val (.ref aI), .val (.int (1 : Int32)), .unset] [(.ref aI), (.ref aI)]))
    refine own_go (fun _ k => Jvm.RoadKit.acmp (g := (mkF m 33 #[.val (.int x0), .val (.int (0 : Int32)), .val (.ref aI), .val (.int (1 : Int32)), .unset] [(.ref aI), (.ref aI)])) X3 hx rfl rfl rfl (pc0 := 33) (pc' := 36) (same := true) rfl (hb hby at_33) rfl (decide_eq_true rfl) (by decide) (by decide) k) ?_
    show own_G p e below s _ _ _ (T3.setTop (mkF m 36 #[.val (.int x0), .val (.int (0 : Int32)), .val (.ref aI), .val (.int (1 : Int32)), .unset] []))
    refine own_go (fun _ k => XS.iconst X3.here hx rfl (hb hby at_36) k) ?_
    show own_G p e below s _ _ _ (T3.setTop (mkF m 37 #[.val (.int x0), .val (.int (0 : Int32)), .val (.ref aI), .val (.int (1 : Int32)), .unset] [(.int (1 : Int32))]))
    refine own_go (fun _ k => XS.goto X3.here hx rfl (pc0 := 37) (pc' := 41) rfl (hb hby at_37) (by decide) (by decide) k) ?_
    show own_G p e below s _ _ _ (T3.setTop (mkF m 41 #[.val (.int x0), .val (.int (0 : Int32)), .val (.ref aI), .val (.int (1 : Int32)), .unset] [(.int (1 : Int32))]))
    refine own_go (fun _ k => XS.iloadN X3.here hx rfl (hb hby at_41) rfl k) ?_
    show own_G p e below s _ _ _ (T3.setTop (mkF m 42 #[.val (.int x0), .val (.int (0 : Int32)), .val (.ref aI), .val (.int (1 : Int32)), .unset] [(.int (0 : Int32)), (.int (1 : Int32))]))
    refine own_if_neN X3 hx (pc := 42) (hb hby at_42) (by decide) ?_
    show own_G p e below s _ _ _ (T3.setTop (mkF m 45 #[.val (.int x0), .val (.int (0 : Int32)), .val (.ref aI), .val (.int (1 : Int32)), .unset] [(.int (1 : Int32))]))
    refine own_go (fun _ k => XS.iconst X3.here hx rfl (hb hby at_45) k) ?_
    show own_G p e below s _ _ _ (T3.setTop (mkF m 46 #[.val (.int x0), .val (.int (0 : Int32)), .val (.ref aI), .val (.int (1 : Int32)), .unset] [(.int (1 : Int32)), (.int (1 : Int32))]))
    refine own_go (fun _ k => XS.goto X3.here hx rfl (pc0 := 46) (pc' := 50) rfl (hb hby at_46) (by decide) (by decide) k) ?_
    show own_G p e below s _ _ _ (T3.setTop (mkF m 50 #[.val (.int x0), .val (.int (0 : Int32)), .val (.ref aI), .val (.int (1 : Int32)), .unset] [(.int (1 : Int32)), (.int (1 : Int32))]))
    refine own_ic_neN X3 hx (pc := 50) (hb hby at_50) (by decide) ?_
    show own_G p e below s _ _ _ (T3.setTop (mkF m 53 #[.val (.int x0), .val (.int (0 : Int32)), .val (.ref aI), .val (.int (1 : Int32)), .unset] []))
    refine own_go (fun _ k => XS.aloadN X3.here hx rfl (hb hby at_53) rfl rfl k) ?_
    show own_G p e below s _ _ _ (T3.setTop (mkF m 54 #[.val (.int x0), .val (.int (0 : Int32)), .val (.ref aI), .val (.int (1 : Int32)), .unset] [(.ref aI)]))
    obtain ⟨T4, X4, e4, st4⟩ := getS2 X3 hx hZ hown (host := "") (Or.inl (hw _ (List.mem_of_getElem? (i := 21) rfl))) Via.refl e3 S_R (g := (mkF m 54 #[.val (.int x0), .val (.int (0 : Int32)), .val (.ref aI), .val (.int (1 : Int32)), .unset] [(.ref aI)])) rfl (hb hby at_54)
    refine own_go st4 ?_
    show own_G p e below s _ _ _ (T4.setTop (mkF m 57 #[.val (.int x0), .val (.int (0 : Int32)), .val (.ref aI), .val (.int (1 : Int32)), .unset] [(.ref aR), (.ref aI)]))
    refine own_go (fun _ k => Jvm.RoadKit.acmp (g := (mkF m 57 #[.val (.int x0), .val (.int (0 : Int32)), .val (.ref aI), .val (.int (1 : Int32)), .unset] [(.ref aR), (.ref aI)])) X4 hx rfl rfl rfl (pc0 := 57) (pc' := 64) (same := false) rfl (hb hby at_57) rfl (decide_eq_false fun q => (hne) (Value.ref.inj q)) (by decide) (by decide) k) ?_
    show own_G p e below s _ _ _ (T4.setTop (mkF m 64 #[.val (.int x0), .val (.int (0 : Int32)), .val (.ref aI), .val (.int (1 : Int32)), .unset] []))
    refine own_go (fun _ k => XS.iconst X4.here hx rfl (hb hby at_64) k) ?_
    show own_G p e below s _ _ _ (T4.setTop (mkF m 65 #[.val (.int x0), .val (.int (0 : Int32)), .val (.ref aI), .val (.int (1 : Int32)), .unset] [(.int (0 : Int32))]))
    refine own_go (fun _ k => XS.iloadN X4.here hx rfl (hb hby at_65) rfl k) ?_
    show own_G p e below s _ _ _ (T4.setTop (mkF m 66 #[.val (.int x0), .val (.int (0 : Int32)), .val (.ref aI), .val (.int (1 : Int32)), .unset] [(.int (0 : Int32)), (.int (0 : Int32))]))
    refine own_go (fun _ k => XS.iconst X4.here hx rfl (hb hby at_66) k) ?_
    show own_G p e below s _ _ _ (T4.setTop (mkF m 67 #[.val (.int x0), .val (.int (0 : Int32)), .val (.ref aI), .val (.int (1 : Int32)), .unset] [(.int (1 : Int32)), (.int (0 : Int32)), (.int (0 : Int32))]))
    refine own_ic_neY X4 hx (pc := 67) (pc' := 74) (hb hby at_67) (by decide) (by decide) (by decide) ?_
    show own_G p e below s _ _ _ (T4.setTop (mkF m 74 #[.val (.int x0), .val (.int (0 : Int32)), .val (.ref aI), .val (.int (1 : Int32)), .unset] [(.int (0 : Int32))]))
    refine own_go (fun _ k => XS.iconst X4.here hx rfl (hb hby at_74) k) ?_
    show own_G p e below s _ _ _ (T4.setTop (mkF m 75 #[.val (.int x0), .val (.int (0 : Int32)), .val (.ref aI), .val (.int (1 : Int32)), .unset] [(.int (0 : Int32)), (.int (0 : Int32))]))
    refine own_ic_neN X4 hx (pc := 75) (hb hby at_75) (by decide) ?_
    show own_G p e below s _ _ _ (T4.setTop (mkF m 78 #[.val (.int x0), .val (.int (0 : Int32)), .val (.ref aI), .val (.int (1 : Int32)), .unset] []))
    refine own_go (fun _ k => XS.iconst X4.here hx rfl (hb hby at_78) k) ?_
    show own_G p e below s _ _ _ (T4.setTop (mkF m 79 #[.val (.int x0), .val (.int (0 : Int32)), .val (.ref aI), .val (.int (1 : Int32)), .unset] [(.int (1 : Int32))]))
    refine own_go (fun _ k => XS.goto X4.here hx rfl (pc0 := 79) (pc' := 83) rfl (hb hby at_79) (by decide) (by decide) k) ?_
    show own_G p e below s _ _ _ (T4.setTop (mkF m 83 #[.val (.int x0), .val (.int (0 : Int32)), .val (.ref aI), .val (.int (1 : Int32)), .unset] [(.int (1 : Int32))]))
    refine own_go (fun _ k => XS.istore X4.here hx rfl (hb hby at_83) rfl (l' := #[.val (.int x0), .val (.int (0 : Int32)), .val (.ref aI), .val (.int (1 : Int32)), .val (.int (1 : Int32))]) rfl k) ?_
    show own_G p e below s _ _ _ (T4.setTop (mkF m 85 #[.val (.int x0), .val (.int (0 : Int32)), .val (.ref aI), .val (.int (1 : Int32)), .val (.int (1 : Int32))] []))
    refine own_go (fun _ k => XS.iloadN X4.here hx rfl (hb hby at_85) rfl k) ?_
    show own_G p e below s _ _ _ (T4.setTop (mkF m 86 #[.val (.int x0), .val (.int (0 : Int32)), .val (.ref aI), .val (.int (1 : Int32)), .val (.int (1 : Int32))] [(.int (1 : Int32))]))
    refine own_if_eqN X4 hx (pc := 86) (hb hby at_86) (by decide) ?_
    show own_G p e below s _ _ _ (T4.setTop (mkF m 89 #[.val (.int x0), .val (.int (0 : Int32)), .val (.ref aI), .val (.int (1 : Int32)), .val (.int (1 : Int32))] []))
    refine own_go (fun _ k => XS.iload X4.here hx rfl (hb hby at_89) rfl k) ?_
    show own_G p e below s _ _ _ (T4.setTop (mkF m 91 #[.val (.int x0), .val (.int (0 : Int32)), .val (.ref aI), .val (.int (1 : Int32)), .val (.int (1 : Int32))] [(.int (1 : Int32))]))
    refine own_if_eqN X4 hx (pc := 91) (hb hby at_91) (by decide) ?_
    show own_G p e below s _ _ _ (T4.setTop (mkF m 94 #[.val (.int x0), .val (.int (0 : Int32)), .val (.ref aI), .val (.int (1 : Int32)), .val (.int (1 : Int32))] []))
    refine own_go (fun _ k => XS.iconst X4.here hx rfl (hb hby at_94) k) ?_
    show own_G p e below s _ _ _ (T4.setTop (mkF m 95 #[.val (.int x0), .val (.int (0 : Int32)), .val (.ref aI), .val (.int (1 : Int32)), .val (.int (1 : Int32))] [(.int (1 : Int32))]))
    refine own_go (fun _ k => XS.goto X4.here hx rfl (pc0 := 95) (pc' := 99) rfl (hb hby at_95) (by decide) (by decide) k) ?_
    show own_G p e below s _ _ _ (T4.setTop (mkF m 99 #[.val (.int x0), .val (.int (0 : Int32)), .val (.ref aI), .val (.int (1 : Int32)), .val (.int (1 : Int32))] [(.int (1 : Int32))]))
    exact own_retN (t := .boolean) (ht := by simp) X4 hx Bd.returns (BodyLoose.notSynchronized Bd) (hb hby at_99) e4 ⟨rfl, N2⟩ (by decide) (by decide)
  · rw [hbt]
    show own_G p e below s _ _ _ (s₁.setTop (mkF m 3 #[.val (.int x0), .unset, .unset, .unset, .unset] [(.int (1 : Int32))]))
    refine own_go (fun _ k => XS.istoreN X0.here hx rfl (hb hby at_3) rfl (l' := #[.val (.int x0), .val (.int (1 : Int32)), .unset, .unset, .unset]) rfl k) ?_
    show own_G p e below s _ _ _ (s₁.setTop (mkF m 4 #[.val (.int x0), .val (.int (1 : Int32)), .unset, .unset, .unset] []))
    refine own_go (fun _ k => XS.iloadN X0.here hx rfl (hb hby at_4) rfl k) ?_
    show own_G p e below s _ _ _ (s₁.setTop (mkF m 5 #[.val (.int x0), .val (.int (1 : Int32)), .unset, .unset, .unset] [(.int (1 : Int32))]))
    obtain ⟨_, _, ⟨T5, L5, k5, n5⟩, -, X5, ⟨Lc5, hQ5, l5, y5, z5⟩, st5⟩ := Jvm.LawKit.callS X0 hx (y := (⟨"com/example/brisk_gossip/briskgossip/wire/Mode", "ofBit", "(I)Lcom/example/brisk_gossip/briskgossip/wire/Mode;"⟩ : MethodName)) hown (mvT hZ (hw _ (List.mem_of_getElem? (i := 0) rfl))) (mvT hZ (hw _ (List.mem_of_getElem? (i := 1) rfl))) (mvT hZ (hw _ (List.mem_of_getElem? (i := 2) rfl))) (mvT hZ (hw _ (List.mem_of_getElem? (i := 3) rfl))) (by decide) (backOf (W := 0) (rmO1 l Z a0 hw [] (1 : Int32) aI aR h0 n0 Z0 (by decide) S_I S_R) hZ (hw _ (List.mem_of_getElem? (i := 3) rfl)) (hw _ (List.mem_of_getElem? (i := 2) rfl)) (by decide) (by decide)) (g := (mkF m 5 #[.val (.int x0), .val (.int (1 : Int32)), .unset, .unset, .unset] [(.int (1 : Int32))])) rfl (by rw [hml]; rfl) (argsL := [(.int (1 : Int32))]) (rest := []) (lenOf pd_1 rfl) rfl (by show 2 * 0 + _ ≤ _; exact Nat.le_of_eq rfl) (hb hby at_5) (fun _ _ => ⟨rfl, e0, (by decide : 0 + 0 ≤ _), (by decide : 0 + 0 ≤ _)⟩)
    dsimp only [Pt.U, Pt.locs, Pt.cells, Pt.slots] at X5 l5 y5 z5 st5 hQ5
    subst l5 y5 z5
    obtain ⟨rfl, N5q, e5⟩ := hQ5
    have N5 := Fr.app N0 N5q
    refine own_go st5 ?_
    show own_G p e below s _ _ _ (T5.setTop (mkF m 8 #[.val (.int x0), .val (.int (1 : Int32)), .unset, .unset, .unset] [(.ref aR)]))
    refine own_go (fun _ k => XS.astoreN X5.here hx rfl (hb hby at_8) rfl rfl (l' := #[.val (.int x0), .val (.int (1 : Int32)), .val (.ref aR), .unset, .unset]) rfl k) ?_
    show own_G p e below s _ _ _ (T5.setTop (mkF m 9 #[.val (.int x0), .val (.int (1 : Int32)), .val (.ref aR), .unset, .unset] []))
    refine own_go (fun _ k => XS.aloadN X5.here hx rfl (hb hby at_9) rfl rfl k) ?_
    show own_G p e below s _ _ _ (T5.setTop (mkF m 10 #[.val (.int x0), .val (.int (1 : Int32)), .val (.ref aR), .unset, .unset] [(.ref aR)]))
    refine own_go (fun _ k => XT.ifnonnullYes X5.here hx rfl (pc0 := 10) (pc' := 15) rfl (hb hby at_10) rfl (by decide) (by decide) k) ?_
    show own_G p e below s _ _ _ (T5.setTop (mkF m 15 #[.val (.int x0), .val (.int (1 : Int32)), .val (.ref aR), .unset, .unset] []))
    refine own_go (fun _ k => XS.aloadN X5.here hx rfl (hb hby at_15) rfl rfl k) ?_
    show own_G p e below s _ _ _ (T5.setTop (mkF m 16 #[.val (.int x0), .val (.int (1 : Int32)), .val (.ref aR), .unset, .unset] [(.ref aR)]))
    obtain ⟨cq6, kq6, q6a, q6b, q6c⟩ := isOf hZ e5 E_R
    obtain ⟨_, _, ⟨T6, L6, k6, n6⟩, -, X6, ⟨Lc6, hQ6, l6, y6, z6⟩, st6⟩ := X5.virtualBack hx (y := (⟨"com/example/brisk_gossip/briskgossip/wire/Mode", "bit", "()I"⟩ : MethodName)) (z := (⟨"com/example/brisk_gossip/briskgossip/wire/Mode", "bit", "()I"⟩ : MethodName)) hown (mvT hZ (hw _ (List.mem_of_getElem? (i := 6) rfl))) (mvT hZ (hw _ (List.mem_of_getElem? (i := 7) rfl))) (notFace_of_selects (args := #[]) (mvT hZ (hw _ (List.mem_of_getElem? (i := 9) rfl)))) (mvT hZ (hw _ (List.mem_of_getElem? (i := 9) rfl))) (mvT hZ (hw _ (List.mem_of_getElem? (i := 8) rfl))) (by decide) (backOf (W := 0) (rmB l Z a0 hw [] aR (1 : Int32) h0 n0 Z0 E_R F_R) hZ (hw _ (List.mem_of_getElem? (i := 10) rfl)) (hw _ (List.mem_of_getElem? (i := 2) rfl)) (by decide) (by decide)) q6a q6c (g := (mkF m 16 #[.val (.int x0), .val (.int (1 : Int32)), .val (.ref aR), .unset, .unset] [(.ref aR)])) rfl (by rw [hml]; rfl) (Steps.refl _) (argsL := []) (rest := []) (lenOf pd_0 rfl) rfl (by show 2 * 0 + _ ≤ _; exact Nat.le_of_eq rfl) (hb hby at_16) (fun _ _ => ⟨rfl, e5, (by decide : 0 + 0 ≤ _), (by decide : 0 + 0 ≤ _)⟩)
    dsimp only [Pt.U, Pt.locs, Pt.cells, Pt.slots] at X6 l6 y6 z6 st6 hQ6
    subst l6 y6 z6
    obtain ⟨rfl, N6q, e6⟩ := hQ6
    have N6 := Fr.app N5 N6q
    refine own_go (fun _ k => st6.trans k) ?_
    show own_G p e below s _ _ _ (T6.setTop (mkF m 19 #[.val (.int x0), .val (.int (1 : Int32)), .val (.ref aR), .unset, .unset] [(.int (1 : Int32))]))
    refine own_go (fun _ k => XS.iloadN X6.here hx rfl (hb hby at_19) rfl k) ?_
    show own_G p e below s _ _ _ (T6.setTop (mkF m 20 #[.val (.int x0), .val (.int (1 : Int32)), .val (.ref aR), .unset, .unset] [(.int (1 : Int32)), (.int (1 : Int32))]))
    refine own_ic_neN X6 hx (pc := 20) (hb hby at_20) (by decide) ?_
    show own_G p e below s _ _ _ (T6.setTop (mkF m 23 #[.val (.int x0), .val (.int (1 : Int32)), .val (.ref aR), .unset, .unset] []))
    refine own_go (fun _ k => XS.iconst X6.here hx rfl (hb hby at_23) k) ?_
    show own_G p e below s _ _ _ (T6.setTop (mkF m 24 #[.val (.int x0), .val (.int (1 : Int32)), .val (.ref aR), .unset, .unset] [(.int (1 : Int32))]))
    refine own_go (fun _ k => XS.goto X6.here hx rfl (pc0 := 24) (pc' := 28) rfl (hb hby at_24) (by decide) (by decide) k) ?_
    show own_G p e below s _ _ _ (T6.setTop (mkF m 28 #[.val (.int x0), .val (.int (1 : Int32)), .val (.ref aR), .unset, .unset] [(.int (1 : Int32))]))
    refine own_go (fun _ k => XS.istoreN X6.here hx rfl (hb hby at_28) rfl (l' := #[.val (.int x0), .val (.int (1 : Int32)), .val (.ref aR), .val (.int (1 : Int32)), .unset]) rfl k) ?_
    show own_G p e below s _ _ _ (T6.setTop (mkF m 29 #[.val (.int x0), .val (.int (1 : Int32)), .val (.ref aR), .val (.int (1 : Int32)), .unset] []))
    refine own_go (fun _ k => XS.aloadN X6.here hx rfl (hb hby at_29) rfl rfl k) ?_
    show own_G p e below s _ _ _ (T6.setTop (mkF m 30 #[.val (.int x0), .val (.int (1 : Int32)), .val (.ref aR), .val (.int (1 : Int32)), .unset] [(.ref aR)]))
    obtain ⟨T7, X7, e7, st7⟩ := getS2 X6 hx hZ hown (host := "") (Or.inl (hw _ (List.mem_of_getElem? (i := 20) rfl))) Via.refl e6 S_I (g := (mkF m 30 #[.val (.int x0), .val (.int (1 : Int32)), .val (.ref aR), .val (.int (1 : Int32)), .unset] [(.ref aR)])) rfl (hb hby at_30)
    refine own_go st7 ?_
    show own_G p e below s _ _ _ (T7.setTop (mkF m 33 #[.val (.int x0), .val (.int (1 : Int32)), .val (.ref aR), .val (.int (1 : Int32)), .unset] [(.ref aI), (.ref aR)]))
    refine own_go (fun _ k => Jvm.RoadKit.acmp (g := (mkF m 33 #[.val (.int x0), .val (.int (1 : Int32)), .val (.ref aR), .val (.int (1 : Int32)), .unset] [(.ref aI), (.ref aR)])) X7 hx rfl rfl rfl (pc0 := 33) (pc' := 40) (same := false) rfl (hb hby at_33) rfl (decide_eq_false fun q => (Ne.symm hne) (Value.ref.inj q)) (by decide) (by decide) k) ?_
    show own_G p e below s _ _ _ (T7.setTop (mkF m 40 #[.val (.int x0), .val (.int (1 : Int32)), .val (.ref aR), .val (.int (1 : Int32)), .unset] []))
    refine own_go (fun _ k => XS.iconst X7.here hx rfl (hb hby at_40) k) ?_
    show own_G p e below s _ _ _ (T7.setTop (mkF m 41 #[.val (.int x0), .val (.int (1 : Int32)), .val (.ref aR), .val (.int (1 : Int32)), .unset] [(.int (0 : Int32))]))
    refine own_go (fun _ k => XS.iloadN X7.here hx rfl (hb hby at_41) rfl k) ?_
    show own_G p e below s _ _ _ (T7.setTop (mkF m 42 #[.val (.int x0), .val (.int (1 : Int32)), .val (.ref aR), .val (.int (1 : Int32)), .unset] [(.int (1 : Int32)), (.int (0 : Int32))]))
    refine own_if_neY X7 hx (pc := 42) (pc' := 49) (hb hby at_42) (by decide) (by decide) (by decide) ?_
    show own_G p e below s _ _ _ (T7.setTop (mkF m 49 #[.val (.int x0), .val (.int (1 : Int32)), .val (.ref aR), .val (.int (1 : Int32)), .unset] [(.int (0 : Int32))]))
    refine own_go (fun _ k => XS.iconst X7.here hx rfl (hb hby at_49) k) ?_
    show own_G p e below s _ _ _ (T7.setTop (mkF m 50 #[.val (.int x0), .val (.int (1 : Int32)), .val (.ref aR), .val (.int (1 : Int32)), .unset] [(.int (0 : Int32)), (.int (0 : Int32))]))
    refine own_ic_neN X7 hx (pc := 50) (hb hby at_50) (by decide) ?_
    show own_G p e below s _ _ _ (T7.setTop (mkF m 53 #[.val (.int x0), .val (.int (1 : Int32)), .val (.ref aR), .val (.int (1 : Int32)), .unset] []))
    refine own_go (fun _ k => XS.aloadN X7.here hx rfl (hb hby at_53) rfl rfl k) ?_
    show own_G p e below s _ _ _ (T7.setTop (mkF m 54 #[.val (.int x0), .val (.int (1 : Int32)), .val (.ref aR), .val (.int (1 : Int32)), .unset] [(.ref aR)]))
    obtain ⟨T8, X8, e8, st8⟩ := getS2 X7 hx hZ hown (host := "") (Or.inl (hw _ (List.mem_of_getElem? (i := 21) rfl))) Via.refl e7 S_R (g := (mkF m 54 #[.val (.int x0), .val (.int (1 : Int32)), .val (.ref aR), .val (.int (1 : Int32)), .unset] [(.ref aR)])) rfl (hb hby at_54)
    refine own_go st8 ?_
    show own_G p e below s _ _ _ (T8.setTop (mkF m 57 #[.val (.int x0), .val (.int (1 : Int32)), .val (.ref aR), .val (.int (1 : Int32)), .unset] [(.ref aR), (.ref aR)]))
    refine own_go (fun _ k => Jvm.RoadKit.acmp (g := (mkF m 57 #[.val (.int x0), .val (.int (1 : Int32)), .val (.ref aR), .val (.int (1 : Int32)), .unset] [(.ref aR), (.ref aR)])) X8 hx rfl rfl rfl (pc0 := 57) (pc' := 60) (same := true) rfl (hb hby at_57) rfl (decide_eq_true rfl) (by decide) (by decide) k) ?_
    show own_G p e below s _ _ _ (T8.setTop (mkF m 60 #[.val (.int x0), .val (.int (1 : Int32)), .val (.ref aR), .val (.int (1 : Int32)), .unset] []))
    refine own_go (fun _ k => XS.iconst X8.here hx rfl (hb hby at_60) k) ?_
    show own_G p e below s _ _ _ (T8.setTop (mkF m 61 #[.val (.int x0), .val (.int (1 : Int32)), .val (.ref aR), .val (.int (1 : Int32)), .unset] [(.int (1 : Int32))]))
    refine own_go (fun _ k => XS.goto X8.here hx rfl (pc0 := 61) (pc' := 65) rfl (hb hby at_61) (by decide) (by decide) k) ?_
    show own_G p e below s _ _ _ (T8.setTop (mkF m 65 #[.val (.int x0), .val (.int (1 : Int32)), .val (.ref aR), .val (.int (1 : Int32)), .unset] [(.int (1 : Int32))]))
    refine own_go (fun _ k => XS.iloadN X8.here hx rfl (hb hby at_65) rfl k) ?_
    show own_G p e below s _ _ _ (T8.setTop (mkF m 66 #[.val (.int x0), .val (.int (1 : Int32)), .val (.ref aR), .val (.int (1 : Int32)), .unset] [(.int (1 : Int32)), (.int (1 : Int32))]))
    refine own_go (fun _ k => XS.iconst X8.here hx rfl (hb hby at_66) k) ?_
    show own_G p e below s _ _ _ (T8.setTop (mkF m 67 #[.val (.int x0), .val (.int (1 : Int32)), .val (.ref aR), .val (.int (1 : Int32)), .unset] [(.int (1 : Int32)), (.int (1 : Int32)), (.int (1 : Int32))]))
    refine own_ic_neN X8 hx (pc := 67) (hb hby at_67) (by decide) ?_
    show own_G p e below s _ _ _ (T8.setTop (mkF m 70 #[.val (.int x0), .val (.int (1 : Int32)), .val (.ref aR), .val (.int (1 : Int32)), .unset] [(.int (1 : Int32))]))
    refine own_go (fun _ k => XS.iconst X8.here hx rfl (hb hby at_70) k) ?_
    show own_G p e below s _ _ _ (T8.setTop (mkF m 71 #[.val (.int x0), .val (.int (1 : Int32)), .val (.ref aR), .val (.int (1 : Int32)), .unset] [(.int (1 : Int32)), (.int (1 : Int32))]))
    refine own_go (fun _ k => XS.goto X8.here hx rfl (pc0 := 71) (pc' := 75) rfl (hb hby at_71) (by decide) (by decide) k) ?_
    show own_G p e below s _ _ _ (T8.setTop (mkF m 75 #[.val (.int x0), .val (.int (1 : Int32)), .val (.ref aR), .val (.int (1 : Int32)), .unset] [(.int (1 : Int32)), (.int (1 : Int32))]))
    refine own_ic_neN X8 hx (pc := 75) (hb hby at_75) (by decide) ?_
    show own_G p e below s _ _ _ (T8.setTop (mkF m 78 #[.val (.int x0), .val (.int (1 : Int32)), .val (.ref aR), .val (.int (1 : Int32)), .unset] []))
    refine own_go (fun _ k => XS.iconst X8.here hx rfl (hb hby at_78) k) ?_
    show own_G p e below s _ _ _ (T8.setTop (mkF m 79 #[.val (.int x0), .val (.int (1 : Int32)), .val (.ref aR), .val (.int (1 : Int32)), .unset] [(.int (1 : Int32))]))
    refine own_go (fun _ k => XS.goto X8.here hx rfl (pc0 := 79) (pc' := 83) rfl (hb hby at_79) (by decide) (by decide) k) ?_
    show own_G p e below s _ _ _ (T8.setTop (mkF m 83 #[.val (.int x0), .val (.int (1 : Int32)), .val (.ref aR), .val (.int (1 : Int32)), .unset] [(.int (1 : Int32))]))
    refine own_go (fun _ k => XS.istore X8.here hx rfl (hb hby at_83) rfl (l' := #[.val (.int x0), .val (.int (1 : Int32)), .val (.ref aR), .val (.int (1 : Int32)), .val (.int (1 : Int32))]) rfl k) ?_
    show own_G p e below s _ _ _ (T8.setTop (mkF m 85 #[.val (.int x0), .val (.int (1 : Int32)), .val (.ref aR), .val (.int (1 : Int32)), .val (.int (1 : Int32))] []))
    refine own_go (fun _ k => XS.iloadN X8.here hx rfl (hb hby at_85) rfl k) ?_
    show own_G p e below s _ _ _ (T8.setTop (mkF m 86 #[.val (.int x0), .val (.int (1 : Int32)), .val (.ref aR), .val (.int (1 : Int32)), .val (.int (1 : Int32))] [(.int (1 : Int32))]))
    refine own_if_eqN X8 hx (pc := 86) (hb hby at_86) (by decide) ?_
    show own_G p e below s _ _ _ (T8.setTop (mkF m 89 #[.val (.int x0), .val (.int (1 : Int32)), .val (.ref aR), .val (.int (1 : Int32)), .val (.int (1 : Int32))] []))
    refine own_go (fun _ k => XS.iload X8.here hx rfl (hb hby at_89) rfl k) ?_
    show own_G p e below s _ _ _ (T8.setTop (mkF m 91 #[.val (.int x0), .val (.int (1 : Int32)), .val (.ref aR), .val (.int (1 : Int32)), .val (.int (1 : Int32))] [(.int (1 : Int32))]))
    refine own_if_eqN X8 hx (pc := 91) (hb hby at_91) (by decide) ?_
    show own_G p e below s _ _ _ (T8.setTop (mkF m 94 #[.val (.int x0), .val (.int (1 : Int32)), .val (.ref aR), .val (.int (1 : Int32)), .val (.int (1 : Int32))] []))
    refine own_go (fun _ k => XS.iconst X8.here hx rfl (hb hby at_94) k) ?_
    show own_G p e below s _ _ _ (T8.setTop (mkF m 95 #[.val (.int x0), .val (.int (1 : Int32)), .val (.ref aR), .val (.int (1 : Int32)), .val (.int (1 : Int32))] [(.int (1 : Int32))]))
    refine own_go (fun _ k => XS.goto X8.here hx rfl (pc0 := 95) (pc' := 99) rfl (hb hby at_95) (by decide) (by decide) k) ?_
    show own_G p e below s _ _ _ (T8.setTop (mkF m 99 #[.val (.int x0), .val (.int (1 : Int32)), .val (.ref aR), .val (.int (1 : Int32)), .val (.int (1 : Int32))] [(.int (1 : Int32))]))
    exact own_retN (t := .boolean) (ht := by simp) X8 hx Bd.returns (BodyLoose.notSynchronized Bd) (hb hby at_99) e8 ⟨rfl, N6⟩ (by decide) (by decide)
theorem own_eqint {args : Array Value} {first s : State} {o : Option Outcome} {idx : List Nat} {t : Term} {k : Int32} (h : (Jvm.Cond.eq t (Jvm.Term.int k)).value args first o s idx = some true) : t.eval args first o idx s = some (.int k) := by
  obtain ⟨x, y, h1, h2, h3, -⟩ := cmp_v (Or.inl h)
  cases x with
  | int z => exact h1.trans (congrArg (fun q => some (Value.int q)) (gotT (Cond.eq_ints h1 rfl) h))
  | _ => simp [Cond.value, h1, Term.eval] at h
set_option maxRecDepth 65536 in
set_option maxHeartbeats 40000000 in
theorem comes_1 {Post : Tables → Env → Array Value → State → Outcome → State → Prop} (hpost : ∀ tb e args s v u, (limb_1_1.after args s (.returned v) u = true ∧ limb_1_2.after args s (.returned v) u = true ∧ True) → FrameEnd s (.returned v) u (Jvm.fieldLocs frame_1_writes args s ++ Jvm.arrayLocs frame_1_arrays args s ++ Jvm.staticLocs frame_1_statics s) 0 0 → Post tb e args s (.returned v) u) :
    ArmFor flags0 classFile x code maxLocals ret World_1 tables_1 room_1 Calls_1 rest_1 Pre_1 Post := by
  intro l hfl _ _ p e ha hc hk s m args below hf hA hF happ hP
  obtain ⟨hcalls, hrest, hpre⟩ := hP
  obtain ⟨-, -, -, hnamed, -, -, -, hat⟩ := (Spec.applies_iff hf).mp happ
  obtain ⟨hg, hn⟩ := and_e (Cond.before_iff.mp (show (Jvm.Cond.and given_1 narrow_1).before args s = true from hpre))
  obtain ⟨hct, hr0⟩ := and_e hg
  obtain ⟨w0, rfl⟩ : ∃ w0 : Value, args = #[w0] := by
    have hs : args.size = 1 := by simpa [Cond.value, given_1] using hct
    obtain ⟨L⟩ := args
    match L, hs with
    | [w0], _ => exact ⟨w0, rfl⟩
  have hw := fun d (hd : d ∈ tables_1) => atoms_spec (ws := Jvm.Cond.code x code maxLocals ret :: tables_1) hat d (List.mem_cons_of_mem _ hd)
  have hfit : Fit s := fun {y c} hc i hi => by
    obtain ⟨ha, rfl⟩ := Array.getElem?_eq_some_iff.mp hc
    have q := List.all_eq_true.mp ((Array.all_eq_true_iff_forall_mem.mp hF) _ (Array.getElem_mem ha)) i (List.mem_range.mpr hi)
    simpa [Array.getElem?_eq_getElem hi] using q
  obtain ⟨i0, ei0⟩ := is_v hr0
  obtain rfl : w0 = (.int i0) := Option.some.inj ei0
  obtain ⟨hA0, hn1⟩ := and_e hn
  obtain ⟨hB0, hn2⟩ := and_e hn1
  obtain ⟨hA1, hB1⟩ := and_e hn2
  obtain ⟨aI, eI⟩ := exa_v hA0
  obtain ⟨aR, eR⟩ := exa_v hA1
  have E_I := Exa.start eI hA0
  have E_R := Exa.start eR hA1
  have F_I : Fld s s.heap aI "java/lang/Enum" "ordinal" "I" (.int 0) := Fld.start ((fld_at eI).symm.trans (own_eqint hB0))
  have F_R : Fld s s.heap aR "java/lang/Enum" "ordinal" "I" (.int 1) := Fld.start ((fld_at eR).symm.trans (own_eqint hB1))
  have S_I := Sta.start eI (Or.inr ⟨(hw _ (List.mem_of_getElem? (i := 2) rfl)), (hw _ (List.mem_of_getElem? (i := 5) rfl))⟩)
  have S_R := Sta.start eR (Or.inr ⟨(hw _ (List.mem_of_getElem? (i := 2) rfl)), (hw _ (List.mem_of_getElem? (i := 22) rfl))⟩)
  obtain ⟨n, o, h1, h2, h3, _, L, rfl, ⟨rfl, N⟩, hq⟩ := rm0 l s _ hw tables_1 i0 aI aR s.heap s.heap.size (Nat.le_refl _) S_I S_R E_I E_R F_I F_R p e ha hc hk s m _ below hf ((Spec.applies_iff_loose hf).mp happ).1 ⟨rfl, State.Warmed39.refl s, rfl⟩ trivial
  refine ⟨n, _, h1, h2, h3, hpost _ _ _ _ _ _ ⟨Cond.after_iff.mpr rfl, Cond.after_iff.mpr (eq_i res_at (Term.int_eval (1)) rfl), trivial⟩ ⟨hq.1, hq.2.1, (hq.2.2.sift fun y hy => Or.inr (N y hy)).mono (by decide) (by decide)⟩⟩
theorem main_1_1 : Claimed_1_1 := comes_1 fun _ _ _ _ _ _ h hF => ⟨h.1, hF⟩
theorem main_1_2 : Claimed_1_2 := comes_1 fun _ _ _ _ _ _ h hF => ⟨h.2.1, hF⟩
end Jvm.Pilot.@@N@@
namespace Jvm.Pilot.@@N@@
open Jvm Jvm.ClassFile Sem Op Lib Jvm.Free Jvm.Stand Jvm.Pilot.@@N@@.Jvm.D
/-! MADE BY PROGRAM (witnessworld.py) out of the Statement's table words and the real class files: 12 classes; the members and pool entries that the words name. The judged class is class 1, her method 1. -/
namespace start1
open Jvm.ClassFile
def u (s : String) : CpInfo := .utf8 (stringToUtf16 s)
/-- a pool by its gaps: so many unusable entries, then the entry; so many at the end -/
def gap : Nat → List CpInfo → List CpInfo
  | 0, r => r
  | n + 1, r => .unusable :: gap n r
def poolList (es : List (Nat × CpInfo)) (last : Nat) : List CpInfo := es.foldr (fun e r => gap e.1 (e.2 :: r)) (gap last [])
def pool (es : List (Nat × CpInfo)) (last : Nat) : Array CpInfo := ⟨poolList es last⟩
def fileOf (pool : Array CpInfo) (this : Nat) (attrs : Array Attribute := #[]) (ms : Array MethodInfo := #[]) (fl : Nat := 33) (sup : Nat := 0) (ifs : Array Nat := #[]) (fds : Array FieldInfo := #[]) : ClassFile where
  minorVersion := 0
  majorVersion := 65
  constantPool := pool
  accessFlags := fl
  thisClass := this
  superClass := sup
  interfaces := ifs
  fields := fds
  methods := ms
  attributes := attrs
def plain (name : String) (sup : Option ClassId) : Class where
  name := name
  kind := .ordinary
  loader := none
  accessFlags := 33
  super := sup
  interfaces := #[]
  cf := none
  fields := #[]
  methods := #[]
  instanceTypes := #[]
  staticTypes := #[]
  resolved := #[]
  callSites := []
  init := .initialized
  statics := none
  mirror := none

def pool0 : Array CpInfo := pool [(5, u "<init>"), (0, u "()V"), (1, .class_ 10), (1, u "java/lang/Object")] 113

def k0m0 : Method := { name := "<init>", desc := "()V", sig := { parameters := [], returnType := none }, accessFlags := 1, code := none }
/-- java/lang/Object -/
def k0 : Class := { plain "java/lang/Object" none with
  accessFlags := 33
  interfaces := #[]
  cf := some (fileOf pool0 8 #[] #[{ accessFlags := 1, nameIndex := 5, descriptorIndex := 6, attributes := #[] }] 33 0 #[] #[])
  fields := #[]
  methods := #[k0m0]
  instanceTypes := #[]
  staticTypes := #[]
  resolved := Array.replicate 124 none
  statics := none }

def pool1 : Array CpInfo := pool [(2, .class_ 4), (1, u "java/lang/Object"), (0, u "<init>"), (0, u "()V"), (0, .methodref 8 9), (0, .class_ 10), (0, .nameAndType 11 12), (0, u "com/example/brisk_gossip/briskgossip/wire/Mode"), (0, u "ofBit"), (0, u "(I)Lcom/example/brisk_gossip/briskgossip/wire/Mode;"), (0, .methodref 8 14), (0, .nameAndType 15 16), (0, u "bit"), (0, u "()I"), (0, .fieldref 8 18), (0, .nameAndType 19 20), (0, u "INITIATOR"), (0, u "Lcom/example/brisk_gossip/briskgossip/wire/Mode;"), (0, .fieldref 8 22), (0, .nameAndType 23 20), (0, u "RESPONDER"), (0, .class_ 25), (0, u "com/example/brisk_gossip/briskgossip/wire/ModeOfBitPinLaw"), (2, u "law"), (0, u "(I)Z")] 3

def k1m0 : Method := { name := "<init>", desc := "()V", sig := { parameters := [], returnType := none }, accessFlags := 1, code := none }
def k1c1 : Code := { maxStack := 3, maxLocals := 5, code := code, exceptionTable := #[], attributes := #[] }
def k1m1 : Method := { name := "law", desc := "(I)Z", sig := { parameters := [.int], returnType := some .boolean }, accessFlags := 9, code := some k1c1 }
/-- com/example/brisk_gossip/briskgossip/wire/ModeOfBitPinLaw -/
def k1 : Class := { plain "com/example/brisk_gossip/briskgossip/wire/ModeOfBitPinLaw" (some 0) with
  accessFlags := 49
  interfaces := #[]
  cf := some (fileOf pool1 24 #[] #[{ accessFlags := 1, nameIndex := 5, descriptorIndex := 6, attributes := #[] }, { accessFlags := 9, nameIndex := 28, descriptorIndex := 29, attributes := #[] }] 49 2 #[] #[])
  fields := #[]
  methods := #[k1m0, k1m1]
  instanceTypes := #[]
  staticTypes := #[]
  resolved := Array.replicate 33 none
  statics := none }

def pool2 : Array CpInfo := pool [(1, .class_ 2), (0, u "java/lang/constant/Constable"), (0, .class_ 4), (0, u "java/lang/Object")] 6

/-- java/lang/constant/Constable -/
def k2 : Class := { plain "java/lang/constant/Constable" (some 0) with
  accessFlags := 1537
  interfaces := #[]
  cf := some (fileOf pool2 1 #[] #[] 1537 3 #[] #[])
  fields := #[]
  methods := #[]
  instanceTypes := #[]
  staticTypes := #[]
  resolved := Array.replicate 11 none
  statics := none }

def pool3 : Array CpInfo := pool [(1, .class_ 2), (0, u "java/lang/Comparable"), (0, .class_ 4), (0, u "java/lang/Object")] 7

/-- java/lang/Comparable -/
def k3 : Class := { plain "java/lang/Comparable" (some 0) with
  accessFlags := 1537
  interfaces := #[]
  cf := some (fileOf pool3 1 #[] #[] 1537 3 #[] #[])
  fields := #[]
  methods := #[]
  instanceTypes := #[]
  staticTypes := #[]
  resolved := Array.replicate 12 none
  statics := none }

def pool4 : Array CpInfo := pool [(1, .class_ 2), (0, u "java/io/Serializable"), (0, .class_ 4), (0, u "java/lang/Object")] 2

/-- java/io/Serializable -/
def k4 : Class := { plain "java/io/Serializable" (some 0) with
  accessFlags := 1537
  interfaces := #[]
  cf := some (fileOf pool4 1 #[] #[] 1537 3 #[] #[])
  fields := #[]
  methods := #[]
  instanceTypes := #[]
  staticTypes := #[]
  resolved := Array.replicate 7 none
  statics := none }

def pool5 : Array CpInfo := pool [(2, .class_ 4), (1, u "java/lang/Enum"), (0, u "name"), (0, u "Ljava/lang/String;"), (0, .fieldref 2 8), (0, .nameAndType 9 10), (0, u "ordinal"), (0, u "I"), (1, .class_ 14), (1, u "java/lang/Object"), (4, u "hash"), (86, .class_ 108), (1, u "java/lang/Enum$EnumDesc"), (2, .class_ 112), (0, u "java/lang/constant/Constable"), (0, .class_ 114), (0, u "java/lang/Comparable"), (0, .class_ 116), (0, u "java/io/Serializable"), (9, u "()I")] 77

def k5c0 : Code := { maxStack := 1, maxLocals := 1, code := jdk_37_method_2_code, exceptionTable := #[], attributes := #[] }
def k5m0 : Method := { name := "ordinal", desc := "()I", sig := { parameters := [], returnType := some .int }, accessFlags := 17, code := some k5c0 }
/-- java/lang/Enum -/
def k5 : Class := { plain "java/lang/Enum" (some 0) with
  accessFlags := 1057
  interfaces := #[2, 3, 4]
  cf := some (fileOf pool5 2 #[.nestMembers #[106]] #[{ accessFlags := 17, nameIndex := 9, descriptorIndex := 126, attributes := #[] }] 1057 12 #[111, 113, 115] #[{ accessFlags := 18, nameIndex := 5, descriptorIndex := 6, attributes := #[] }, { accessFlags := 18, nameIndex := 9, descriptorIndex := 10, attributes := #[] }, { accessFlags := 2, nameIndex := 19, descriptorIndex := 10, attributes := #[] }])
  fields := #[{ name := "name", type := (.object "java/lang/String"), accessFlags := 18, slot := 0, constantValue := 0 }, { name := "ordinal", type := .int, accessFlags := 18, slot := 1, constantValue := 0 }, { name := "hash", type := .int, accessFlags := 2, slot := 2, constantValue := 0 }]
  methods := #[k5m0]
  instanceTypes := #[(.object "java/lang/String"), .int, .int]
  staticTypes := #[]
  resolved := Array.replicate 204 none
  statics := none }

def pool6 : Array CpInfo := pool [(1, .class_ 2), (0, u "com/example/brisk_gossip/briskgossip/wire/Mode"), (0, .fieldref 1 4), (0, .nameAndType 5 6), (0, u "INITIATOR"), (0, u "Lcom/example/brisk_gossip/briskgossip/wire/Mode;"), (0, .fieldref 1 8), (0, .nameAndType 9 6), (0, u "RESPONDER"), (2, u "$VALUES"), (0, u "[Lcom/example/brisk_gossip/briskgossip/wire/Mode;"), (6, .class_ 22), (1, u "java/lang/Enum"), (6, .methodref 1 30), (0, .nameAndType 31 32), (0, u "ordinal"), (0, u "()I"), (14, u "ofBit"), (0, u "(I)Lcom/example/brisk_gossip/briskgossip/wire/Mode;"), (1, u "bit")] 4

def k6c0 : Code := { maxStack := 1, maxLocals := 1, code := prog_80_method_4_code, exceptionTable := #[], attributes := #[] }
def k6m0 : Method := { name := "ofBit", desc := "(I)Lcom/example/brisk_gossip/briskgossip/wire/Mode;", sig := { parameters := [.int], returnType := some (.object "com/example/brisk_gossip/briskgossip/wire/Mode") }, accessFlags := 8, code := some k6c0 }
def k6c1 : Code := { maxStack := 1, maxLocals := 1, code := prog_80_method_5_code, exceptionTable := #[], attributes := #[] }
def k6m1 : Method := { name := "bit", desc := "()I", sig := { parameters := [], returnType := some .int }, accessFlags := 0, code := some k6c1 }
/-- com/example/brisk_gossip/briskgossip/wire/Mode -/
def k6 : Class := { plain "com/example/brisk_gossip/briskgossip/wire/Mode" (some 5) with
  accessFlags := 16433
  interfaces := #[]
  cf := some (fileOf pool6 1 #[] #[{ accessFlags := 8, nameIndex := 47, descriptorIndex := 48, attributes := #[] }, { accessFlags := 0, nameIndex := 50, descriptorIndex := 32, attributes := #[] }] 16433 20 #[] #[{ accessFlags := 16409, nameIndex := 5, descriptorIndex := 6, attributes := #[] }, { accessFlags := 16409, nameIndex := 9, descriptorIndex := 6, attributes := #[] }, { accessFlags := 4122, nameIndex := 12, descriptorIndex := 13, attributes := #[] }])
  fields := #[{ name := "INITIATOR", type := (.object "com/example/brisk_gossip/briskgossip/wire/Mode"), accessFlags := 16409, slot := 0, constantValue := 0 }, { name := "RESPONDER", type := (.object "com/example/brisk_gossip/briskgossip/wire/Mode"), accessFlags := 16409, slot := 1, constantValue := 0 }, { name := "$VALUES", type := (.array (.object "com/example/brisk_gossip/briskgossip/wire/Mode")), accessFlags := 4122, slot := 2, constantValue := 0 }]
  methods := #[k6m0, k6m1]
  instanceTypes := #[(.object "java/lang/String"), .int, .int]
  staticTypes := #[(.object "com/example/brisk_gossip/briskgossip/wire/Mode"), (.object "com/example/brisk_gossip/briskgossip/wire/Mode"), (.array (.object "com/example/brisk_gossip/briskgossip/wire/Mode"))]
  resolved := Array.replicate 55 none
  statics := some 0 }

def pool7 : Array CpInfo := pool [(1, u "java/lang/Cloneable"), (0, .class_ 1), (0, u "java/lang/Object"), (0, .class_ 3)] 3

/-- java/lang/Cloneable -/
def k7 : Class := { plain "java/lang/Cloneable" (some 0) with
  accessFlags := 1537
  interfaces := #[]
  cf := some (fileOf pool7 2 #[] #[] 1537 4 #[] #[])
  fields := #[]
  methods := #[]
  instanceTypes := #[]
  staticTypes := #[]
  resolved := Array.replicate 8 none
  statics := none }

/-- the primitive byte -/
def k8 : Class := { plain "byte" none with kind := .primitive 'B', accessFlags := 0x411 }
/-- [B -/
def k9 : Class := { plain "[B" (some 0) with kind := .array 8 .byte, interfaces := #[7, 4], accessFlags := 1041 }

/-- the primitive int -/
def k10 : Class := { plain "int" none with kind := .primitive 'I', accessFlags := 0x411 }
/-- [I -/
def k11 : Class := { plain "[I" (some 0) with kind := .array 10 .int, interfaces := #[7, 4], accessFlags := 1041 }

def heap : Heap := #[{ cls := 6, slots := #[.ref 1, .ref 2, .null], vm := .statics 6 },
  { cls := 6, slots := #[.null, .int 0, .int 0], vm := .none },
  { cls := 6, slots := #[.null, .int 1, .int 0], vm := .none }]
def classes : Array Class := #[k0, k1, k2, k3, k4, k5, k6, k7, k8, k9, k10, k11]
def interned : List (Array UInt16 × Addr) := []
def slotsUsed : Nat := 9
def theMethod : MethodId := ⟨1, 1⟩
def args0 : Array Value := #[.int 5]
def aboutOver (below : List Frame) : State where
  vm := { classes := classes, interned := interned.toArray }
  heap := heap
  slotsUsed := slotsUsed
  threads := #[{ frames := .invoking theMethod args0 :: below }]
def below0 : List Frame := [.native { method := ⟨0, 0⟩, args := #[] }]
def about1 : State := aboutOver below0
def p0 : Program := .bare "" "" ""
def e0 : Env := launch0.env 0 0 0
theorem w_frames : about1.frames = Frame.invoking theMethod args0 :: below0 := rfl
set_option maxRecDepth 65536 in
theorem w_args : argsFit about1.vm theMethod args0 = true := by decide +kernel
set_option maxRecDepth 65536 in
theorem w_heap : heapFits about1 = true := by decide +kernel
set_option maxRecDepth 65536 in
theorem w_runnable : about1.curStatus? = some .runnable := by decide +kernel
set_option maxRecDepth 65536 in
theorem w_alone : about1.alone = true := by decide +kernel
set_option maxRecDepth 65536 in
theorem w_named : about1.methodNamed? x = some theMethod := by decide +kernel
set_option maxRecDepth 65536 in
theorem w_hears : about1.hears theMethod below0 = true := by decide +kernel
set_option maxRecDepth 65536 in
theorem w_ripe : about1.ripe theMethod args0 below0 = true := by decide +kernel
theorem w_running : about1.status = .running := rfl
set_option maxRecDepth 65536 in
theorem w_room : about1.hasRoom e0.platform room_1 = true :=
  launch0.hasRoom_least _ room_1 (by decide +kernel) (by decide +kernel) (by decide +kernel) (by decide +kernel) (by decide +kernel) (by decide +kernel)
theorem allAtoms_all (ts : List Jvm.Cond) (a : Array Jvm.Value) (st : Jvm.State) : (allAtoms ts).before a st = ts.all (fun c => c.before a st) := by
  induction ts with
  | nil => rfl
  | cons c t ih =>
    show (Jvm.Cond.and c (allAtoms t)).before a st = _
    rw [Jvm.Cond.before_and, ih, List.all_cons]
def words1 : List Jvm.Cond := Jvm.Cond.code x code maxLocals ret :: tables_1
/-- a 'code' word, met by the world's own term for the bytes: nothing is compared byte by byte -/
theorem code_word {y : MethodName} {bytes : ByteArray} {mx : Nat} {rt : Option FieldType} {a : Array Value} {s : State} {m : MethodId} {meth : Method} {c : Code} (h1 : s.methodNamed? y = some m) (h2 : s.vm.method? m = some meth) (h3 : meth.code = some c) (h4 : c.code = bytes)
    (h5 : (c.maxLocals == mx && c.exceptionTable.isEmpty && decide (c.maxStack ≤ mostOperands) && decide (meth.sig.returnType = rt) && !meth.locks && decide (parseMethodDescriptor y.desc = some meth.sig)) = true) : (Jvm.Cond.code y bytes mx rt).before a s = true := by
  simp only [Bool.and_eq_true, beq_iff_eq, Bool.not_eq_true', decide_eq_true_eq] at h5
  obtain ⟨⟨⟨⟨⟨g1, g2⟩, g3⟩, g4⟩, g5⟩, g6⟩ := h5
  simp [Cond.before, Cond.holds, Cond.value, h1, h2, h3, h4, g1, g2, g3, g4, g5, g6]
def isCode : Jvm.Cond → Bool
  | .code _ _ _ _ => true
  | _ => false
theorem all_split {L : List Jvm.Cond} {P : Jvm.Cond → Bool} (h1 : L.all (fun c => isCode c || P c) = true) (h2 : ∀ c ∈ L.filter isCode, P c = true) : L.all P = true := by
  refine List.all_eq_true.mpr fun c hc => ?_
  have h := List.all_eq_true.mp h1 c hc
  rcases Bool.eq_false_or_eq_true (isCode c) with hi | hi
  · exact h2 c (List.mem_filter.mpr ⟨hc, hi⟩)
  · simpa [hi] using h
set_option maxRecDepth 65536 in
theorem w_c0 : (Jvm.Cond.code x code maxLocals ret).before args0 about1 = true := code_word (m := ⟨1, 1⟩) (meth := k1m1) (c := k1c1) (by decide +kernel) rfl rfl rfl (by decide +kernel)
set_option maxRecDepth 65536 in
theorem w_c1 : (Jvm.Cond.code ({ cls := "com/example/brisk_gossip/briskgossip/wire/Mode", name := "ofBit", desc := "(I)Lcom/example/brisk_gossip/briskgossip/wire/Mode;" } : Jvm.MethodName) prog_80_method_4_code (1 : Nat) (Option.some (Jvm.ClassFile.FieldType.object "com/example/brisk_gossip/briskgossip/wire/Mode"))).before args0 about1 = true := code_word (m := ⟨6, 0⟩) (meth := k6m0) (c := k6c0) (by decide +kernel) rfl rfl rfl (by decide +kernel)
set_option maxRecDepth 65536 in
theorem w_c2 : (Jvm.Cond.code ({ cls := "com/example/brisk_gossip/briskgossip/wire/Mode", name := "bit", desc := "()I" } : Jvm.MethodName) prog_80_method_5_code (1 : Nat) (Option.some Jvm.ClassFile.FieldType.int)).before args0 about1 = true := code_word (m := ⟨6, 1⟩) (meth := k6m1) (c := k6c1) (by decide +kernel) rfl rfl rfl (by decide +kernel)
set_option maxRecDepth 65536 in
theorem w_c3 : (Jvm.Cond.code ({ cls := "java/lang/Enum", name := "ordinal", desc := "()I" } : Jvm.MethodName) jdk_37_method_2_code (1 : Nat) (Option.some Jvm.ClassFile.FieldType.int)).before args0 about1 = true := code_word (m := ⟨5, 0⟩) (meth := k5m0) (c := k5c0) (by decide +kernel) rfl rfl rfl (by decide +kernel)
def codes1 : List Jvm.Cond := [Jvm.Cond.code x code maxLocals ret, Jvm.Cond.code ({ cls := "com/example/brisk_gossip/briskgossip/wire/Mode", name := "ofBit", desc := "(I)Lcom/example/brisk_gossip/briskgossip/wire/Mode;" } : Jvm.MethodName) prog_80_method_4_code (1 : Nat) (Option.some (Jvm.ClassFile.FieldType.object "com/example/brisk_gossip/briskgossip/wire/Mode")), Jvm.Cond.code ({ cls := "com/example/brisk_gossip/briskgossip/wire/Mode", name := "bit", desc := "()I" } : Jvm.MethodName) prog_80_method_5_code (1 : Nat) (Option.some Jvm.ClassFile.FieldType.int), Jvm.Cond.code ({ cls := "java/lang/Enum", name := "ordinal", desc := "()I" } : Jvm.MethodName) jdk_37_method_2_code (1 : Nat) (Option.some Jvm.ClassFile.FieldType.int)]
set_option maxRecDepth 65536 in
theorem codes_eq : words1.filter isCode = codes1 := rfl
theorem w_codes : ∀ c ∈ words1.filter isCode, c.before args0 about1 = true := by
  rw [codes_eq]
  intro c hc
  simp only [codes1, List.mem_cons, List.not_mem_nil, or_false] at hc
  rcases hc with rfl | rfl | rfl | rfl
  · exact w_c0
  · exact w_c1
  · exact w_c2
  · exact w_c3
set_option maxRecDepth 65536 in
theorem w_t1 : (words1.take 24).all (fun c => isCode c || c.before args0 about1) = true := by decide +kernel
set_option maxRecDepth 65536 in
theorem w_t2 : (words1.drop 24).all (fun c => isCode c || c.before args0 about1) = true := by decide +kernel
theorem w_tables : (allAtoms (Jvm.Cond.code x code maxLocals ret :: tables_1)).before args0 about1 = true := by
  rw [allAtoms_all]
  show words1.all (fun c => c.before args0 about1) = true
  refine all_split ?_ w_codes
  rw [← List.take_append_drop 24 words1, List.all_append, w_t1, w_t2]
  rfl
set_option maxRecDepth 65536 in
theorem w_case : (Jvm.Cond.and given_1 narrow_1).before args0 about1 = true := by decide +kernel
theorem w_applies : (headSpec (Jvm.Cond.code x code maxLocals ret :: tables_1) room_1).applies x e0.platform about1 = true :=
  (Spec.applies_iff w_frames).mpr ⟨w_running, w_runnable, w_alone, w_named, w_hears, w_ripe, w_room, w_tables⟩
theorem atStart : AtStart classFile x code maxLocals ret World_1 tables_1 room_1 Calls_1 rest_1 Pre_1 launch0 p0 e0 about1 theMethod args0 below0 :=
  ⟨lists_1, trivial, launch0.admits_env _ _ _, launch0.least_env, fairChoices_fair.cas, fairChoices_fair.clock, w_frames, w_args, w_heap, w_applies, trivial, trivial, w_case⟩
end start1
theorem witness_1 : WitnessClaimed_1 := ⟨start1.p0, start1.e0, start1.about1, start1.theMethod, start1.args0, start1.below0, start1.atStart⟩
end Jvm.Pilot.@@N@@
