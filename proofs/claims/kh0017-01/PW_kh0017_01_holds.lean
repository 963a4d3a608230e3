import PyProof.Rows.All
import Wide.All
import OpenK.AllK
import Wide.FinOn
import PySem.Challenge.RW_kh0017_01
set_option Elab.async false
set_option compiler.extract_closed false
section
open PySem PySem.W PyProof.Rows
set_option Elab.async false
set_option maxRecDepth 100000
set_option maxHeartbeats 8000000
namespace Mine
/-! ## the head, in one check behind the library's opening, the heap held in a tree -/
noncomputable def runT (st : SharedT → Thread → Option (SharedT × Thread)) (ok : Thread → Bool) (n : Nat) : SharedT → Thread → Option SharedT :=
  @Nat.rec (fun _ => SharedT → Thread → Option SharedT) (fun _ _ => none) (fun _ ih s t => match through t with
    | true => some s
    | false => match ok t with
      | false => none
      | true => match st s t with
        | some (s', t') => ih s' t'
        | none => none) n
theorem runT_of {tb : String → Option Builtin} {p : Program} {w : World} {n₀ : Nat} {ann : Option Value} : ∀ {n : Nat} {s s' : SharedT} {t : Thread}, runT (stepT (denote tb) p w) (stepOk n₀ ann) n s t = some s' → topRun tb p w n₀ ann n s.abs t = some s'.abs
  | 0, _, _, _, h => by cases h
  | n + 1, s, s', t, h => by
    have h : (match through t with
      | true => some s
      | false => match stepOk n₀ ann t with
        | false => none
        | true => match stepT (denote tb) p w s t with
          | some (s', t') => runT (stepT (denote tb) p w) (stepOk n₀ ann) n s' t'
          | none => none) = some s' := h
    unfold topRun
    cases ht : through t with
    | true => rw [ht] at h; cases h; rfl
    | false =>
      rw [ht] at h
      cases hk : stepOk n₀ ann t with
      | false => rw [hk] at h; cases h
      | true =>
        rw [hk] at h
        cases hs : stepT (denote tb) p w s t with
        | none => rw [hs] at h; cases h
        | some r => obtain ⟨s₂, t₂⟩ := r; rw [hs] at h; rw [stepT_spec hs]; exact runT_of h
def grow : List Obj → Nat → BT → Option BT
  | [], _, T => some T
  | o :: l, n, T => match ((T.ins n o).get n).isSome with
    | true => grow l (n + 1) (T.ins n o)
    | false => none
theorem grow_of {life : Life} : ∀ {l : List Obj} {n : Nat} {T T' : BT}, grow l n T = some T' → absHeap T' (n + l.length) life = ⟨(T.list n ++ l).toArray, life⟩
  | [], n, T, T', h => by cases h; rw [List.append_nil]; rfl
  | o :: l, n, T, T', h => by
    unfold grow at h
    cases g : ((T.ins n o).get n).isSome with
    | false => rw [g] at h; cases h
    | true =>
      rw [g] at h
      have k := grow_of (life := life) h
      have e : (absHeap (T.ins n o) (n + 1) life).objs = ((absHeap T n life).push o).objs := congrArg Heap.objs (absHeap_ins g)
      have e' : ((T.ins n o).list (n + 1)).toArray = (T.list n).toArray.push o := e
      rw [List.push_toArray] at e'
      have e2 : (T.ins n o).list (n + 1) = T.list n ++ [o] := (congrArg Array.toList e' : _)
      rw [show n + (o :: l).length = n + 1 + l.length by rw [List.length_cons]; omega, k, e2, List.append_assoc]
      rfl
noncomputable def fromT (run : BT → Option SharedT) (ok : Shared → Bool) (s₀ : Shared) : Option Shared :=
  match s₀.heap.isNs mainGlobals && s₀.gens.size == 0 with
  | true => match grow s₀.heap.objs.toList 0 .nil with
    | some T => match run T with
      | some s₁ => match ok s₁.abs with
        | true => some s₁.abs
        | false => none
      | none => none
    | none => none
  | false => none
theorem fromT_of {p : Program} {w : World} {N : Nat} {s₀ s : Shared}
    (h : fromT (fun T => runT (stepT (denote treeTable) p w) (stepOk s₀.heap.objs.size (s₀.heap.nsMap mainGlobals "__annotations__")) N ⟨T, s₀.heap.objs.size, s₀.heap.life, s₀.gens, s₀.drawn, s₀.toks, s₀.os⟩ (topStub p))
      (fun s₁ => staticsOk (importedModules p.main.body) s₀.heap s₁.heap && namesBound p s₁.heap && gensDone s₁ && laidKept s₀.heap s₁.heap) s₀ = some s) : topFrom treeTable p w N s₀ = some s := by
  unfold fromT at h
  unfold topFrom
  cases h1 : s₀.heap.isNs mainGlobals && s₀.gens.size == 0 with
  | false => rw [h1] at h; cases h
  | true =>
    rw [h1] at h
    cases h2 : grow s₀.heap.objs.toList 0 .nil with
    | none => rw [h2] at h; cases h
    | some T =>
      rw [h2] at h
      have e := grow_of (life := s₀.heap.life) h2
      rw [Nat.zero_add] at e
      have e0 : absHeap T s₀.heap.objs.size s₀.heap.life = s₀.heap := by
        rw [show s₀.heap.objs.size = s₀.heap.objs.toList.length from Array.length_toList.symm, e]
        rfl
      dsimp only at h ⊢
      cases h3 : runT (stepT (denote treeTable) p w) (stepOk s₀.heap.objs.size (s₀.heap.nsMap mainGlobals "__annotations__")) N ⟨T, s₀.heap.objs.size, s₀.heap.life, s₀.gens, s₀.drawn, s₀.toks, s₀.os⟩ (topStub p) with
      | none => rw [h3] at h; cases h
      | some s₁ =>
        rw [h3] at h
        have r := runT_of h3
        have e3 : SharedT.abs ⟨T, s₀.heap.objs.size, s₀.heap.life, s₀.gens, s₀.drawn, s₀.toks, s₀.os⟩ = s₀ := congrArg (fun H => (⟨H, s₀.gens, s₀.drawn, s₀.toks, s₀.os⟩ : Shared)) e0
        rw [e3] at r
        rw [r]
        exact h
theorem left_of_tree {p q : Program} {loose : List Str} {Xt : Shared → Bool} {α : Type} {Yf : Shared → α} {Ya : World → α} {N : Nat} {g0 : Bool}
    (e : opening p = plainProg p.main.scope.names) (hN : Nat.ble 600 N = true) (f : ∀ s, fenceModules? p s = some s)
    (go : ∀ w : World, (fun os => (fromT (fun T => runT (stepT (denote treeTable) p w) (stepOk (boot_heap w.params).objs.size ((boot_heap w.params).nsMap mainGlobals "__annotations__")) N ⟨T, (boot_heap w.params).objs.size, (boot_heap w.params).life, Array.mk [], boot_drawn, boot_toks, os⟩ (topStub p))
      (fun s₁ => staticsOk (importedModules p.main.body) (boot_heap w.params) s₁.heap && namesBound p s₁.heap && gensDone s₁ && laidKept (boot_heap w.params) s₁.heap) ⟨boot_heap w.params, Array.mk [], boot_drawn, boot_toks, os⟩).map
        (fun s => (openSeen q loose (importedModules p.main.body) Xt g0 s, Yf s))) = fun _ => some (openGood q loose, Ya w)) : LeftO p q loose Xt Yf Ya N g0 := fun w => by
  obtain ⟨⟨h, gs, d, k, os⟩, e1, e2⟩ := Option.map_eq_some_iff.mp (boot_open e hN f w)
  obtain ⟨rfl, rfl, rfl, rfl⟩ : h = boot_heap w.params ∧ gs = Array.mk [] ∧ d = boot_drawn ∧ k = boot_toks := by simpa using e2
  unfold openEnds
  rw [e1]
  obtain ⟨s, g1, g2⟩ := Option.map_eq_some_iff.mp (congrFun (go w) os)
  show (topFrom treeTable p w N ⟨boot_heap w.params, Array.mk [], boot_drawn, boot_toks, os⟩).map _ = _
  rw [fromT_of (s₀ := ⟨boot_heap w.params, Array.mk [], boot_drawn, boot_toks, os⟩) g1]
  exact congrArg some g2
def viewQ : Program := PySem.W.view PySem.Challenge.rw_kh0017_01.row.prog [0, 1, 3, 4, 5, 6, 8, 9, 11, 12, 14, 15, 16, 18, 19, 20, 21, 22]
local macro_rules | `(tactic| walk_at "left") => `(tactic| (refine Mine.left_of_tree (by kernel_rfl) (by decide) (fun s => by kernel_rfl) (fun w => ?_); rw [PySem.W.Fast.te4187177175401517315, PySem.W.Fast.te5923862056798008813, PySem.W.Fast.te10156331382660048174, PySem.W.Fast.te6613529449190102663, PySem.W.Fast.te11892475500146522536, PySem.W.Fast.te14364793385576792824, PySem.W.Fast.te8920871248978507458]; kernel_rfl))
theorem and_i {a b : Bool} (h : a = true) (k : b = true) : (a && b) = true := by rw [h, k]; rfl
theorem lawSaid : OpenLaw.wellSaid PySem.Challenge.rw_kh0017_01 = true := by
  rw [PySem.W.Fast.te9446332074065402090]
  delta PySem.W.Fast.tw9446332074065402090
  repeat' (with_reducible (refine and_i ?_ ?_))
  any_goals delta PySem.W.Fast.tw17960256430627541270
  repeat' (with_reducible (refine and_i ?_ ?_))
  any_goals delta PySem.W.Fast.tw2436336058641802641
  repeat' (with_reducible (refine and_i ?_ ?_))
  any_goals delta PySem.W.Fast.tw12908688711261696721
  repeat' (with_reducible (refine and_i ?_ ?_))
  all_goals (as_aux_lemma => kernel_rfl)
local macro_rules | `(tactic| o_law) => `(tactic| refine holds_law Mine.lawSaid fun said => ?_)
local macro_rules | `(tactic| o_head ($f $K $as $e $_ts)) => `(tactic| (refine holds_open (q := Mine.viewQ) (loose := [Str.ofString "FQ", Str.ofString "FQP", Str.ofString "FQ2"]) (Xt := fun s => xlAt Mine.viewQ [] s && recOk PySem.Challenge.rw_kh0017_01.row.records s) (XP := XL Mine.viewQ []) (Yf := Hook.obs ($f $K $as $e [419, 37, 248])) (Ya := Hook.val ($f $K $as $e [419, 37, 248])) (YP := Hook.says ($f $K $as $e [419, 37, 248])) (N := 5300) ?hl (Hook.of ($f $K $as $e [419, 37, 248])) (Hook.keeps ($f $K $as $e [419, 37, 248])) (fun s e => xl_of s (Bool.and_eq_true_iff.mp e).1) XL.keeps (by rfl) (by rfl) (by rfl) (fun s e => recFacts_of (Bool.and_eq_true_iff.mp e).2) (by rfl) (by first | assumption | decide +kernel) (by decide +kernel) ⟨rfl, rfl, rfl, rfl, rfl, by decide +kernel⟩ ?hw ?hc; (case hl => walk_at "left")))
open_top hd for PySem.Challenge.rw_kh0017_01
end Mine
end
section
namespace Mine
theorem topOff : True := by
  w_top off
  trivial
end Mine
end
section
open PySem PySem.W PyProof.Rows PySem.Calls
set_option Elab.async false
set_option maxRecDepth 100000
set_option maxHeartbeats 400000
namespace Mine
/-! ## numbers and octets -/
def val (l : List UInt8) : Nat := l.foldl (fun a c => a * 256 + c.toNat) 0
def leB : Nat → Nat → List UInt8
  | 0, _ => []
  | n + 1, x => UInt8.ofNat (x % 256) :: leB n (x / 256)
def beB (n x : Nat) : List UInt8 := (leB n x).reverse
theorem leB_length : ∀ (n x : Nat), (leB n x).length = n
  | 0, _ => rfl
  | n + 1, x => by
    show (leB n (x / 256)).length + 1 = n + 1
    rw [leB_length n]
theorem beB_length (n x : Nat) : (beB n x).length = n := by rw [beB, List.length_reverse, leB_length]
theorem leB_ints : ∀ (n x : Nat), (leB n x).map (fun c => ((c.toNat : Nat) : Int)) = KTBy.little n (x : Int)
  | 0, _ => rfl
  | n + 1, x => by
    have h1 : ((UInt8.ofNat (x % 256)).toNat : Int) = (x : Int) % 256 := by
      rw [UInt8.toNat_ofNat']
      omega
    show _ :: (leB n (x / 256)).map _ = (x : Int) % 256 :: KTBy.little n ((x : Int) / 256)
    rw [leB_ints n, ← h1]
    rfl
theorem octets_inj {l l' : List UInt8} (h : l.map (fun c => ((c.toNat : Nat) : Int)) = l'.map (fun c => ((c.toNat : Nat) : Int))) : l = l' := by
  induction l generalizing l' with
  | nil => cases l' with
    | nil => rfl
    | cons c r => cases h
  | cons c r ih => cases l' with
    | nil => cases h
    | cons c' r' =>
      rw [List.map_cons, List.map_cons] at h
      have e := List.cons.inj h
      have e1 : c = c' := UInt8.toNat_inj.mp (Int.ofNat.inj e.1)
      rw [e1, ih e.2]
theorem low_eq {x n : Nat} (h : x < 256 ^ n) : KTBy.low (x : Int) n = leB n x := by
  refine octets_inj ?_
  rw [KTBy.low_ints (Int.natCast_nonneg x) (by rw [KTBy.p256]; exact Int.ofNat_lt.mpr h), leB_ints, ← KTBy.little_eq]
theorem val_lt (l : List UInt8) : val l < 256 ^ l.length := by
  have h := KFB.fold_lt l 0
  rw [Nat.zero_add, Nat.one_mul] at h
  exact h
theorem val_bits (l : List UInt8) : val l < 2 ^ (8 * l.length) := by
  have h := val_lt l
  have e2 : (2 : Nat) ^ 8 = 256 := by decide
  rw [Nat.pow_mul, e2]
  exact h
theorem mul_ok {a b : Int} {j k : Nat} (ha : a.natAbs < 2 ^ j) (hb : b.natAbs < 2 ^ k) (h : j + k ≤ 100000) : IntMulOk a b := by
  have h1 := intBits_le_iff.mpr ha
  have h2 := intBits_le_iff.mpr hb
  have hb : bitsLine = 134217728 := by first | rfl | decide
  have h' : Builtin.Int.intTooBig (Builtin.Int.intBits a + Builtin.Int.intBits b) = false := by
    unfold Builtin.Int.intTooBig
    refine decide_eq_false ?_
    rw [hb]
    omega
  unfold IntMulOk
  rw [h']
  simp
/-! ## the law's own hash -/
def hashInt (o : List UInt8) (n : Nat) : Int := Int.fmod ((val o : Int) * 3 ^ (5 * (n : Int)).toNat + (o.length : Int) * 71 + 12345) (256 ^ (n : Int).toNat - 5)
def lawHash (o : List UInt8) (n : Nat) : List UInt8 := beB n (hashInt o n).toNat
theorem lawHash_length (o : List UInt8) (n : Nat) : (lawHash o n).length = n := beB_length _ _
theorem five_lt {n : Nat} (hn : 1 ≤ n) : (256 : Int) ^ (n : Int).toNat - 5 > 0 ∧ (256 : Int) ^ (n : Int).toNat - 5 < ((256 ^ n : Nat) : Int) := by
  have e : (256 : Int) ^ (n : Int).toNat = ((256 ^ n : Nat) : Int) := by rw [Int.toNat_natCast, KTBy.p256]
  have h1 : 256 ^ 1 ≤ 256 ^ n := Nat.pow_le_pow_right (by decide) hn
  rw [e]
  omega
theorem hashInt_nonneg {o : List UInt8} {n : Nat} (hn : 1 ≤ n) : 0 ≤ hashInt o n := by
  have h := (five_lt hn).1
  exact Int.fmod_nonneg_of_pos _ h
theorem hashInt_lt {o : List UInt8} {n : Nat} (hn : 1 ≤ n) : (hashInt o n).toNat < 256 ^ n := by
  have h := (five_lt hn).1
  have h' := (five_lt hn).2
  have h2 := Int.fmod_lt_of_pos ((val o : Int) * 3 ^ (5 * (n : Int)).toNat + (o.length : Int) * 71 + 12345) h
  have h3 : 0 ≤ hashInt o n := hashInt_nonneg hn
  have h4 : hashInt o n < ((256 ^ n : Nat) : Int) := Int.lt_trans h2 h'
  omega
theorem hash_mul {o : List UInt8} {n : Nat} (ho : o.length ≤ 300) (hn : n ≤ 64) : IntMulOk (val o : Int) (3 ^ (5 * (n : Int)).toNat) := by
  have h1 := val_bits o
  refine mul_ok (j := 8 * o.length) (k := 2 * (5 * n) + 1) (by rw [Int.natAbs_natCast]; exact h1) ?_ (by omega)
  have e : (5 * (n : Int)).toNat = 5 * n := by omega
  rw [e, Int.natAbs_pow]
  have h2 : 3 ^ (5 * n) ≤ 4 ^ (5 * n) := Nat.pow_le_pow_left (by decide) _
  have h3 : (4 : Nat) ^ (5 * n) = 2 ^ (2 * (5 * n)) := by rw [Nat.pow_mul 2 2 (5 * n)]
  have h4 : (2 : Nat) ^ (2 * (5 * n)) < 2 ^ (2 * (5 * n) + 1) := Nat.pow_lt_pow_right (by decide) (by omega)
  have h5 : Int.natAbs 3 = 3 := rfl
  rw [h5]
  exact Nat.lt_of_le_of_lt (h3 ▸ h2) h4
section
variable {prog : Program} {w : World} {M : Model} {A : Around} {E : Value → Shared → Prop} {s : Shared} {h₀ : Heap} {L : Addr} {m : PySem.Str → Option Value} {news : List (Addr × Obj)}
theorem bits_line : bitsLine = 134217728 := by first | rfl | decide
theorem grown_of {n k : Nat} {Q : Value → Shared → Prop} (hn : n < 2 ^ k) (hk : k ≤ 100000) (h : Q (.int (n : Int) s.toks) { s with toks := s.toks + 1 }) : wpAny M A (mkIntGrown (n : Int)) Q E s := by
  unfold mkIntGrown
  have hl : ¬ ((n : Int).natAbs.log2 ≥ bitsLine) := by
    rw [Int.natAbs_natCast, bits_line]
    by_cases hz : n = 0
    · subst hz
      have e : Nat.log2 0 = 0 := by decide
      omega
    · have h1 := (Nat.log2_lt hz).mpr hn
      omega
  rw [if_neg hl]
  exact wpAny_mkInt h
theorem val_fold (l : List UInt8) : l.foldl (fun (acc : Int) (b : UInt8) => acc * 256 + (b.toNat : Int)) ((0 : Nat) : Int) = ((val l : Nat) : Int) := KFB.foldI_eq l 0
/-- int.from_bytes, read highest first, of any length -/
theorem fb_tree {b : Array UInt8} {t u : Tok} {P : Fin → Shared → Prop} (hl : b.size ≤ 10000) (h : P (.done (.ret (.int ((val b.toList : Nat) : Int) s.toks))) { s with toks := s.toks + 1 }) :
    wpAny M A (Builtin.«int.from_bytes» ⟨[.type "int", .bytes b t, .str (PySem.Str.ofString "big") u], []⟩) P E s := by
  unfold Builtin.«int.from_bytes»
  refine wpAny_bind (wpAny_of_eq (a := true) KFB.type_int (KFB.if_not rfl ?_))
  refine wpAny_bind (wpAny_of_eq (a := true) F.conv_sub_int (KFB.if_not rfl ?_))
  refine wpAny_bind (wpAny_of_eq (a := [some (.bytes b t), some (.str (PySem.Str.ofString "big") u), none]) (by kernel_rfl) ?_)
  refine wpAny_bind (wpAny_of_eq (a := PySem.Str.ofString "big") (by kernel_rfl) ?_)
  refine wpAny_bind (wpAny_of_eq (a := false) rfl ?_)
  refine wpAny_bind (wpAny_of_eq (a := false) (by kernel_rfl) ?_)
  refine wpAny_bind (wpAny_of_eq (a := b) rfl ?_)
  show wpAny _ _ (mkIntGrown (b.toList.foldl (fun (acc : Int) (b : UInt8) => acc * 256 + (b.toNat : Int)) ((0 : Nat) : Int)) >>= fun v => _) _ _ _
  rw [val_fold]
  refine wpAny_bind (grown_of (val_bits b.toList) (by rw [Array.length_toList]; omega) ?_)
  exact KFB.if_so (by decide +kernel) (wpAny_bind (wpAny_pure (wpAny_pure h)))
theorem fb_treeK {b : Array UInt8} {t u : Tok} {P : Fin → Shared → Prop} (hl : b.size ≤ 10000) (h : P (.done (.ret (.int ((val b.toList : Nat) : Int) s.toks))) { s with toks := s.toks + 1 }) :
    wpAny M A (Builtin.«int.from_bytes» ⟨[.type "int", .bytes b t], [(PySem.Str.ofString "byteorder", .str (PySem.Str.ofString "big") u), (PySem.Str.ofString "signed", .bool false)]⟩) P E s := by
  unfold Builtin.«int.from_bytes»
  refine wpAny_bind (wpAny_of_eq (a := true) KFB.type_int (KFB.if_not rfl ?_))
  refine wpAny_bind (wpAny_of_eq (a := true) F.conv_sub_int (KFB.if_not rfl ?_))
  refine wpAny_bind (wpAny_of_eq (a := [some (.bytes b t), some (.str (PySem.Str.ofString "big") u), some (.bool false)]) (by kernel_rfl) ?_)
  refine wpAny_bind (wpAny_of_eq (a := PySem.Str.ofString "big") (by kernel_rfl) ?_)
  refine wpAny_bind (wpAny_of_eq (a := false) (by first | rfl | kernel_rfl) ?_)
  refine wpAny_bind (wpAny_of_eq (a := false) (by kernel_rfl) ?_)
  refine wpAny_bind (wpAny_of_eq (a := b) rfl ?_)
  show wpAny _ _ (mkIntGrown (b.toList.foldl (fun (acc : Int) (b : UInt8) => acc * 256 + (b.toNat : Int)) ((0 : Nat) : Int)) >>= fun v => _) _ _ _
  rw [val_fold]
  refine wpAny_bind (grown_of (val_bits b.toList) (by rw [Array.length_toList]; omega) ?_)
  exact KFB.if_so (by decide +kernel) (wpAny_bind (wpAny_pure (wpAny_pure h)))
theorem check_fbK {b : Array UInt8} {t u : Tok} : checkBoundCall "int.from_bytes" ⟨[.type "int", .bytes b t], [(PySem.Str.ofString "byteorder", .str (PySem.Str.ofString "big") u), (PySem.Str.ofString "signed", .bool false)]⟩ = pure () := by first | kernel_rfl | rfl
theorem fb_call {x : Addr} {b : Array UInt8} {t u : Tok} {Q : Value → Shared → Prop} (N : News h₀ L s.heap news) (hm : (x, KFB.bound) ∈ news) (hl : b.size ≤ 10000)
    (h : ∀ t' k, Q (.int ((val b.toList : Nat) : Int) t') { s with toks := k }) : wpAny (model prog w) A (call (.ref x) [.bytes b t, .str (PySem.Str.ofString "big") u]) Q E s :=
  KFB.call_of (KFB.at_of N hm) (fun z => fb_tree hl z) (h _ _)
theorem fb_callK {x : Addr} {b : Array UInt8} {t u : Tok} {Q : Value → Shared → Prop} (ho : KFB.StandsAt x s.heap) (hl : b.size ≤ 10000)
    (h : ∀ t' k, Q (.int ((val b.toList : Nat) : Int) t') { s with toks := k }) :
    wpAny (model prog w) A (call (.ref x) [.bytes b t] [(PySem.Str.ofString "byteorder", .str (PySem.Str.ofString "big") u), (PySem.Str.ofString "signed", .bool false)]) Q E s := by
  refine wpAny_call (codeAny_of_tree ?_)
  show wpAny _ A.in1 (callAny (.ref x) ⟨[.bytes b t], [(PySem.Str.ofString "byteorder", .str (PySem.Str.ofString "big") u), (PySem.Str.ofString "signed", .bool false)]⟩) _ _ s
  simp only [callAny]
  refine wpAny_bind (wpAny_load ho ?_)
  simp only [KFB.bound, show (Value.type "builtin_function_or_method" == Value.type "method" || Value.type "builtin_function_or_method" == Value.type "builtin_function_or_method" || Value.type "builtin_function_or_method" == Value.type "method-wrapper") = true by decide, if_true]
  refine KFB.if_so (by decide) ?_
  refine wpAny_bind (wpAny_of_eq (a := ()) check_fbK ?_)
  refine wpAny_bind (wpAny_pure (wpAny_pure ?_))
  exact ⟨KFB.quiet_fb, codeAny_builtin KFB.entry_fb (fb_treeK hl (h _ _))⟩
theorem tb_bits {x n : Nat} (h : x < 256 ^ n) : Builtin.Int.intBits (x : Int) ≤ 8 * n := by
  refine intBits_le_iff.mpr ?_
  have e2 : (2 : Nat) ^ 8 = 256 := by decide
  rw [Nat.pow_mul, e2, Int.natAbs_natCast]
  exact h
theorem args_tbK (a b c d : Value) : argsOk "int.to_bytes" ⟨[a, b], [(PySem.Str.ofString "byteorder", c), (PySem.Str.ofString "signed", d)]⟩ := by unfold argsOk; kernel_rfl
/-- the common part of int.to_bytes, highest first -/
theorem tb_rest {x n : Nat} {P : Fin → Shared → Prop} (hn : n ≤ 10000) (hx : x < 256 ^ n) (h : P (.done (.ret (.bytes (beB n x).toArray s.toks))) { s with toks := s.toks + 1 }) :
    wpAny M A (mkBytes (KTBy.low (x : Int) (Int.toNat (n : Int))).reverse.toArray >>= fun v => (ret v : Sem Fin)) P E s := by
  rw [Int.toNat_natCast, low_eq hx]
  refine wpAny_bind (wpAny_mkBytes (wpAny_pure h) ?_)
  show (leB n x).reverse.length ≤ sizeLine
  rw [List.length_reverse, leB_length, sizeLine_eq]
  omega
theorem tb_tree {x n : Nat} {t u v : Tok} {P : Fin → Shared → Prop} (hn : n ≤ 10000) (hx : x < 256 ^ n) (h : P (.done (.ret (.bytes (beB n x).toArray s.toks))) { s with toks := s.toks + 1 }) :
    wpAny M A (Builtin.«int.to_bytes» ⟨[.int (x : Int) t, .int (n : Int) u, .str (PySem.Str.ofString "big") v], []⟩) P E s := by
  have hb := tb_bits hx
  show wpAny _ _ (Builtin.Int.intOfSelf (.int (x : Int) t) >>= fun y => _) _ _ s
  refine wpAny_bind (wpAny_of_eq (a := (x : Int)) rfl ?_)
  refine wpAny_bind (wpAny_of_eq (a := [some (.int (n : Int) u), some (.str (PySem.Str.ofString "big") v), none]) (by kernel_rfl) ?_)
  show wpAny _ _ (Builtin.Int.intIndex "int.to_bytes" (.int (n : Int) u) >>= fun n => _) _ _ s
  refine wpAny_bind (wpAny_of_eq (a := (n : Int)) rfl ?_)
  refine KFB.if_not (by show (decide ((n : Int) < -(2 ^ 63 : Int)) || decide ((n : Int) ≥ 2 ^ 63)) = false; rw [decide_eq_false (show ¬ ((n : Int) < -(2 ^ 63 : Int)) by omega), decide_eq_false (show ¬ ((n : Int) ≥ 2 ^ 63) by omega)]; rfl) ?_
  refine wpAny_bind (wpAny_of_eq (a := PySem.Str.ofString "big") (by kernel_rfl) ?_)
  refine wpAny_bind (wpAny_of_eq (a := false) rfl ?_)
  refine wpAny_bind (wpAny_of_eq (a := false) (by kernel_rfl) ?_)
  refine wpAny_ite_false (decide_eq_false (show ¬ ((n : Int) < 0) by omega)) ?_
  refine wpAny_ite_false (decide_eq_false (show ¬ ((n : Int) > 2 ^ 63 - 1 - 33) by omega)) ?_
  refine wpAny_ite_false (decide_eq_false (show ¬ ((n : Int) > (sizeLine : Int)) by rw [sizeLine_eq]; omega)) ?_
  refine KFB.if_not (by show (decide ((x : Int) < 0) && !false) = false; rw [decide_eq_false (show ¬ (x : Int) < 0 by omega)]; rfl) ?_
  refine KFB.if_not (by show (_ && decide ((Builtin.Int.intBits (x : Int) : Int) > 8 * (n : Int))) = false; rw [decide_eq_false (show ¬ ((Builtin.Int.intBits (x : Int) : Int) > 8 * (n : Int)) by omega), Bool.and_false]) ?_
  exact tb_rest hn hx h
theorem tb_treeK {x n : Nat} {t u v : Tok} {P : Fin → Shared → Prop} (hn : n ≤ 10000) (hx : x < 256 ^ n) (h : P (.done (.ret (.bytes (beB n x).toArray s.toks))) { s with toks := s.toks + 1 }) :
    wpAny M A (Builtin.«int.to_bytes» ⟨[.int (x : Int) t, .int (n : Int) u], [(PySem.Str.ofString "byteorder", .str (PySem.Str.ofString "big") v), (PySem.Str.ofString "signed", .bool false)]⟩) P E s := by
  have hb := tb_bits hx
  show wpAny _ _ (Builtin.Int.intOfSelf (.int (x : Int) t) >>= fun y => _) _ _ s
  refine wpAny_bind (wpAny_of_eq (a := (x : Int)) rfl ?_)
  refine wpAny_bind (wpAny_of_eq (a := [some (.int (n : Int) u), some (.str (PySem.Str.ofString "big") v), some (.bool false)]) (by kernel_rfl) ?_)
  show wpAny _ _ (Builtin.Int.intIndex "int.to_bytes" (.int (n : Int) u) >>= fun n => _) _ _ s
  refine wpAny_bind (wpAny_of_eq (a := (n : Int)) rfl ?_)
  refine KFB.if_not (by show (decide ((n : Int) < -(2 ^ 63 : Int)) || decide ((n : Int) ≥ 2 ^ 63)) = false; rw [decide_eq_false (show ¬ ((n : Int) < -(2 ^ 63 : Int)) by omega), decide_eq_false (show ¬ ((n : Int) ≥ 2 ^ 63) by omega)]; rfl) ?_
  refine wpAny_bind (wpAny_of_eq (a := PySem.Str.ofString "big") (by kernel_rfl) ?_)
  refine wpAny_bind (wpAny_of_eq (a := false) (by first | rfl | kernel_rfl) ?_)
  refine wpAny_bind (wpAny_of_eq (a := false) (by kernel_rfl) ?_)
  refine wpAny_ite_false (decide_eq_false (show ¬ ((n : Int) < 0) by omega)) ?_
  refine wpAny_ite_false (decide_eq_false (show ¬ ((n : Int) > 2 ^ 63 - 1 - 33) by omega)) ?_
  refine wpAny_ite_false (decide_eq_false (show ¬ ((n : Int) > (sizeLine : Int)) by rw [sizeLine_eq]; omega)) ?_
  refine KFB.if_not (by show (decide ((x : Int) < 0) && !false) = false; rw [decide_eq_false (show ¬ (x : Int) < 0 by omega)]; rfl) ?_
  refine KFB.if_not (by show (_ && decide ((Builtin.Int.intBits (x : Int) : Int) > 8 * (n : Int))) = false; rw [decide_eq_false (show ¬ ((Builtin.Int.intBits (x : Int) : Int) > 8 * (n : Int)) by omega), Bool.and_false]) ?_
  exact tb_rest hn hx h
theorem tb_call {x k : Int} {x' n : Nat} {t u v : Tok} {Q : Value → Shared → Prop} (ex : x = (x' : Int)) (ek : k = (n : Int)) (hn : n ≤ 10000) (hx : x' < 256 ^ n) (h : ∀ t' k', Q (.bytes (beB n x').toArray t') { s with toks := k' }) :
    wpAny (model prog w) A (call (.builtin "int.to_bytes") [.int x t, .int k u, .str (PySem.Str.ofString "big") v]) Q E s := by
  subst ex ek
  exact wpAny_call_entry KTBy.slot (typeIs_int s (x' : Int) t) KTBy.entry (tb_tree hn hx ⟨_, rfl, h _ _⟩) (KTBy.args _ _ _)
theorem tb_callK {x k : Int} {x' n : Nat} {t u v : Tok} {Q : Value → Shared → Prop} (ex : x = (x' : Int)) (ek : k = (n : Int)) (hn : n ≤ 10000) (hx : x' < 256 ^ n) (h : ∀ t' k', Q (.bytes (beB n x').toArray t') { s with toks := k' }) :
    wpAny (model prog w) A (call (.builtin "int.to_bytes") [.int x t, .int k u] [(PySem.Str.ofString "byteorder", .str (PySem.Str.ofString "big") v), (PySem.Str.ofString "signed", .bool false)]) Q E s := by
  subst ex ek
  refine wpAny_call (codeAny_call_builtin KTBy.slot.plain KTBy.entry (KTBy.slot.check _ _ _ _ _ _ _ _ (typeIs_int s (x' : Int) t) (args_tbK _ _ _ _) ?_))
  exact tb_treeK hn hx (h _ _)
end
end Mine
end
section
open PySem PySem.W PyProof.Rows PySem.Calls
set_option Elab.async false
set_option maxRecDepth 100000
set_option maxHeartbeats 1000000
namespace Mine
/-! ## zip over two bytes -/
theorem bi_at {h h' : Heap} {a : Addr} {b : Array UInt8} {t : Tok} {i : Nat} (x : KBw.IsBytesIter h a b t i) (k : ∀ o, h.get? a = some o → h'.get? a = some o) : KBw.IsBytesIter h' a b t i :=
  let ⟨o, ho, r⟩ := x; ⟨o, k o ho, r⟩
theorem bi_ext {h h' : Heap} {a I : Addr} {b : Array UInt8} {t : Tok} {i : Nat} (x : KBw.IsBytesIter h a b t i) (k : Heap.ExtBut I h h') (n : a ≠ I) : KBw.IsBytesIter h' a b t i :=
  bi_at x fun o e => k a o n e
section
variable {prog : Program} {w : World} {A : Around} {E : Value → Shared → Prop} {s : Shared} {b : Array UInt8} {t : Tok}
theorem nextOf_bytes_item {it : Addr} {i : Nat} {c : UInt8} {Q : Value → Shared → Prop} (hit : KBw.IsBytesIter s.heap it b t i) (hx : b[i]? = some c)
    (hQ : ∀ h', KBw.IsBytesIter h' it b t (i + 1) → Heap.SameBut it s.heap h' → Q (.int (c.toNat : Int) s.toks) { s with heap := h', toks := s.toks + 1 }) : wpAny (model prog w) A (Builtin.SmallTypes.nextOf (.ref it)) Q E s := by
  obtain ⟨o, ho, hc, hd⟩ := id hit
  unfold Builtin.SmallTypes.nextOf
  refine wpAny_bind (wpAny_callSpecial?_slot (name := PySem.Str.ofString "__next__") (KBw.iter_typeIs hit) KBw.slot_next
    (wpAny_call_entry KBw.slot_next (KBw.iter_typeIs hit) KBw.entry_next ?_ (KBw.args_next _)))
  show wpAny _ _ (field (.ref it) 0 >>= _) _ _ s
  refine wpAny_bind (wpAny_field ho hd (x := .bytes b t) rfl ?_)
  show wpAny _ _ (if (Value.bytes b t == Value.none) = true then _ else _) _ _ s
  rw [if_neg (show ¬ ((Value.bytes b t == Value.none) = true) from Bool.false_ne_true)]
  show wpAny _ _ (field (.ref it) 1 >>= _) _ _ s
  refine wpAny_bind (wpAny_field ho hd (x := .int i 0) rfl ?_)
  refine wpAny_bind (wpAny_of_eq (a := b) rfl ?_)
  simp only [Int.toNat_natCast, hx]
  refine wpAny_bind (wpAny_setField ho hd (by simp) (wpAny_bind (wpAny_mkInt (wpAny_pure ⟨_, rfl, wpAny_pure (hQ _ ?_ (Heap.SameBut.update ..))⟩))))
  exact ⟨_, Heap.get?_update_self _ ho (Obj.isFreed_of_fields (Obj.data_mapFields hd _)), (Obj.cls_mapFields ..).trans hc, by
    rw [Obj.data_mapFields hd]; simp [rawInt]⟩
theorem nextOf_bytes_end {it : Addr} {i : Nat} {Q : Value → Shared → Prop} (hh : A.handled = none) (hit : KBw.IsBytesIter s.heap it b t i) (hx : b[i]? = none)
    (hE : ∀ h' e, Heap.ExtBut it s.heap h' → (∃ o, h'.get? e = some o ∧ o.cls = .type "StopIteration") → E (.ref e) { s with heap := h' }) :
    wpAny (model prog w) A (Builtin.SmallTypes.nextOf (.ref it)) Q E s := by
  obtain ⟨o, ho, hc, hd⟩ := id hit
  unfold Builtin.SmallTypes.nextOf
  refine wpAny_bind (wpAny_callSpecial?_slot (name := PySem.Str.ofString "__next__") (KBw.iter_typeIs hit) KBw.slot_next
    (wpAny_call_entry KBw.slot_next (KBw.iter_typeIs hit) KBw.entry_next ?_ (KBw.args_next _)))
  show wpAny _ _ (field (.ref it) 0 >>= _) _ _ s
  refine wpAny_bind (wpAny_field ho hd (x := .bytes b t) rfl ?_)
  show wpAny _ _ (if (Value.bytes b t == Value.none) = true then _ else _) _ _ s
  rw [if_neg (show ¬ ((Value.bytes b t == Value.none) = true) from Bool.false_ne_true)]
  show wpAny _ _ (field (.ref it) 1 >>= _) _ _ s
  refine wpAny_bind (wpAny_field ho hd (x := .int i 0) rfl ?_)
  refine wpAny_bind (wpAny_of_eq (a := b) rfl ?_)
  simp only [Int.toNat_natCast, hx]
  refine wpAny_bind (wpAny_rule (wpAny_bind (wpAny_setField ho hd (by simp) ?_)))
  show wpAny _ _ (newExc (.type "StopIteration") [] >>= _) _ _ _
  refine wpAny_bind ?_
  simp only [newExc, newTuple]
  refine wpAny_bind (wpAny_newObj_type ?_ (by size_fits))
  refine wpAny_bind (m := firstArgMember _ _) (wpAny_of_eq (a := Value.none) (by first | rfl | (simp only [firstArgMember]; rfl)) ?_)
  refine wpAny_newObj_type ?_ (by size_fits)
  simp only [raiseNew]
  refine wpAny_bind (wpAny_handled ?_)
  rw [show A.in1.handled = none from hh]
  refine wpAny_bind (wpAny_pure (wpAny_throw ?_))
  exact hE _ _ (((Heap.SameBut.update ..).extBut.push _).push _) ⟨_, Heap.get?_push_size _ rfl, rfl⟩
abbrev ZAp (z TI TO i1 i2 : Addr) : Prop := ZipApart z TI TO i1 i2 TI TI
variable {a' b' : Value} {xs ys : Array UInt8} {ta tb : Tok}
theorem zipB_item {z TI TO i1 i2 : Addr} {k : Nat} {x y : UInt8} {Q : Value → Shared → Prop} (D : ZAp z TI TO i1 i2)
    (hz : IsZip s.heap z TI TO .none) (hTI : IsPair s.heap TI (.ref i1) (.ref i2)) (hTO : IsPair s.heap TO a' b')
    (h1 : KBw.IsBytesIter s.heap i1 xs ta k) (h2 : KBw.IsBytesIter s.heap i2 ys tb k) (hx : xs[k]? = some x) (hy : ys[k]? = some y)
    (hQ : ∀ h' u v tk, IsZip h' z TI TO (rawInt s.heap.objs.size) → IsPair h' TO (.int (x.toNat : Int) u) (.int (y.toNat : Int) v) → KBw.IsBytesIter h' i1 xs ta (k + 1) → KBw.IsBytesIter h' i2 ys tb (k + 1) → IsPair h' s.heap.objs.size (.int (x.toNat : Int) u) (.int (y.toNat : Int) v) → h'.objs.size = s.heap.objs.size + 1 →
      (∀ c o, c ≠ z → c ≠ TO → c ≠ i1 → c ≠ i2 → s.heap.get? c = some o → h'.get? c = some o) → Q (.ref s.heap.objs.size) { s with heap := h', toks := tk }) :
    wpAny (model prog w) A (Builtin.«zip.__next__» ⟨[.ref z], []⟩) (fun fin s' => ∃ v, fin = .done (.ret v) ∧ Q v s') E s := by
  show wpAny _ _ (field (.ref z) 2 >>= _) _ _ _
  refine wpAny_bind (wpAny_field hz rfl (x := .bool false) rfl ?_)
  show wpAny _ _ (field (.ref z) 3 >>= _) _ _ _
  refine wpAny_bind (wpAny_field hz rfl (x := .ref TI) rfl ?_)
  refine wpAny_bind (wpAny_seqItems hTI rfl ?_)
  show wpAny _ _ (Builtin.SmallTypes.ownedTupleIsFree (.ref z) >>= _) _ _ _
  refine wpAny_bind ?_
  unfold Builtin.SmallTypes.ownedTupleIsFree
  refine wpAny_bind (wpAny_field hz rfl (x := .none) rfl (wpAny_pure ?_))
  simp only [if_true]
  refine wpAny_bind (wpAny_rule ?_)
  refine wpAny_bind (wpAny_field hz rfl (x := .ref TO) rfl ?_)
  refine wpAny_bind (wpAny_setField_rec hz (by simp) fun h₁ hz₁ hs₁ => ?_)
  replace hz₁ : IsZip h₁ z TI TO .ellipsis := hz₁
  refine wpAny_bind ?_
  simp only [List.zipIdx_cons, List.zipIdx_nil, List.forIn_cons, List.forIn_nil]
  refine wpAny_bind (wpAny_bind (wpAny_onRaise ?_))
  show wpAny _ _ (Builtin.SmallTypes.nextOf (.ref i1) >>= _) _ _ _
  refine wpAny_bind (nextOf_bytes_item (bi_ext h1 hs₁.extBut D.i1z) hx fun h₂ h1₂ hs₂ => wpAny_pure ?_)
  have hTO₂ : IsPair h₂ TO a' b' := hs₂.extBut _ _ D.TOi1 (hs₁.extBut _ _ D.TOz hTO)
  refine wpAny_bind (wpAny_seqItems hTO₂ rfl ?_)
  refine wpAny_bind (wpAny_updateSeq_pair hTO₂ fun h₃ hTO₃ hs₃ => ?_)
  replace hTO₃ : IsPair h₃ TO _ b' := hTO₃
  refine wpAny_bind (wpAny_letGo (wpAny_pure ?_))
  refine wpAny_bind (wpAny_bind (wpAny_onRaise ?_))
  show wpAny _ _ (Builtin.SmallTypes.nextOf (.ref i2) >>= _) _ _ _
  refine wpAny_bind (nextOf_bytes_item (bi_ext (bi_ext (bi_ext h2 hs₁.extBut D.i2z) hs₂.extBut D.i12.symm) hs₃.extBut D.TOi2.symm) hy fun h₄ h2₄ hs₄ => wpAny_pure ?_)
  have hTO₄ := hs₄.extBut _ _ D.TOi2 hTO₃
  refine wpAny_bind (wpAny_seqItems hTO₄ rfl ?_)
  refine wpAny_bind (wpAny_updateSeq_pair hTO₄ fun h₅ hTO₅ hs₅ => ?_)
  replace hTO₅ : IsPair h₅ TO _ _ := hTO₅
  refine wpAny_bind (wpAny_letGo (wpAny_pure (wpAny_pure ?_)))
  refine wpAny_bind (wpAny_seqItems hTO₅ rfl ?_)
  refine wpAny_bind (wpAny_newTuple ?_)
  have hsz : h₅.objs.size = s.heap.objs.size := by rw [hs₅.1, hs₄.1, hs₃.1, hs₂.1, hs₁.1]
  have hz₅ : IsZip h₅ z TI TO .ellipsis := hs₅.extBut _ _ D.TOz.symm (hs₄.extBut _ _ D.i2z.symm (hs₃.extBut _ _ D.TOz.symm (hs₂.extBut _ _ D.i1z.symm hz₁)))
  have hk₅ : ∀ c o, c ≠ z → c ≠ TO → c ≠ i1 → c ≠ i2 → s.heap.get? c = some o → h₅.get? c = some o := fun c o c1 c2 c3 c4 e =>
    hs₅.extBut _ _ c2 (hs₄.extBut _ _ c4 (hs₃.extBut _ _ c2 (hs₂.extBut _ _ c3 (hs₁.extBut _ _ c1 e))))
  have h1₅ : KBw.IsBytesIter h₅ i1 xs ta (k + 1) := bi_ext (bi_ext (bi_ext h1₂ hs₃.extBut D.TOi1.symm) hs₄.extBut D.i12) hs₅.extBut D.TOi1.symm
  have h2₅ : KBw.IsBytesIter h₅ i2 ys tb (k + 1) := bi_ext h2₄ hs₅.extBut D.TOi2.symm
  have hzlt : z < h₅.objs.size := Heap.lt_size hz₅
  show wpAny _ _ (Builtin.SmallTypes.ownedTupleHandOut (.ref z) (.ref h₅.objs.size) >>= _) _ _ _
  refine wpAny_bind ?_
  unfold Builtin.SmallTypes.ownedTupleHandOut
  refine wpAny_bind (wpAny_setField_rec (Heap.get?_push_of_some _ hz₅) (by simp) fun h₇ hz₇ hs₇ => ?_)
  replace hz₇ : IsZip h₇ z TI TO (rawInt h₅.objs.size) := hz₇
  refine wpAny_setField_rec hz₇ (by simp) fun h₈ hz₈ hs₈ => ?_
  replace hz₈ : IsZip h₈ z TI TO (rawInt h₅.objs.size) := hz₈
  have up : ∀ c o, c ≠ z → h₅.get? c = some o → h₈.get? c = some o := fun c o c1 e => hs₈.extBut _ _ c1 (hs₇.extBut _ _ c1 (Heap.get?_push_of_some _ e))
  have hT₈ := hs₈.extBut _ _ (Nat.ne_of_gt hzlt) (hs₇.extBut _ _ (Nat.ne_of_gt hzlt) (Heap.get?_push_size _ rfl))
  have hz8 : h₈.objs.size = h₅.objs.size + 1 := by rw [hs₈.1, hs₇.1, Heap.size_push]
  rw [hsz] at hz₈ hT₈ hz8
  refine wpAny_pure ⟨_, rfl, ?_⟩
  show Q (.ref h₅.objs.size) _
  rw [hsz]
  exact hQ h₈ _ _ _ hz₈ (up _ _ D.TOz hTO₅) (bi_at h1₅ fun o e => up _ o D.i1z e) (bi_at h2₅ fun o e => up _ o D.i2z e) hT₈ hz8 fun c o c1 c2 c3 c4 e => up c o c1 (hk₅ c o c1 c2 c3 c4 e)
theorem zipB_end {z TI TO i1 i2 : Addr} {k : Nat} {Q : Fin → Shared → Prop} (hh : A.handled = none) (D : ZAp z TI TO i1 i2)
    (hz : IsZip s.heap z TI TO .none) (hTI : IsPair s.heap TI (.ref i1) (.ref i2)) (h1 : KBw.IsBytesIter s.heap i1 xs ta k) (hx : xs[k]? = none)
    (hE : ∀ h' e, (∀ c o, c ≠ z → c ≠ TO → c ≠ i1 → c ≠ i2 → s.heap.get? c = some o → h'.get? c = some o) → (∃ o, h'.get? e = some o ∧ o.cls = .type "StopIteration") → E (.ref e) { s with heap := h' }) :
    wpAny (model prog w) A (Builtin.«zip.__next__» ⟨[.ref z], []⟩) Q E s := by
  show wpAny _ _ (field (.ref z) 2 >>= _) _ _ _
  refine wpAny_bind (wpAny_field hz rfl (x := .bool false) rfl ?_)
  show wpAny _ _ (field (.ref z) 3 >>= _) _ _ _
  refine wpAny_bind (wpAny_field hz rfl (x := .ref TI) rfl ?_)
  refine wpAny_bind (wpAny_seqItems hTI rfl ?_)
  show wpAny _ _ (Builtin.SmallTypes.ownedTupleIsFree (.ref z) >>= _) _ _ _
  refine wpAny_bind ?_
  unfold Builtin.SmallTypes.ownedTupleIsFree
  refine wpAny_bind (wpAny_field hz rfl (x := .none) rfl (wpAny_pure ?_))
  simp only [if_true]
  refine wpAny_bind (wpAny_rule ?_)
  refine wpAny_bind (wpAny_field hz rfl (x := .ref TO) rfl ?_)
  refine wpAny_bind (wpAny_setField_rec hz (by simp) fun h₁ hz₁ hs₁ => ?_)
  replace hz₁ : IsZip h₁ z TI TO .ellipsis := hz₁
  refine wpAny_bind ?_
  simp only [List.zipIdx_cons, List.zipIdx_nil, List.forIn_cons, List.forIn_nil]
  refine wpAny_bind (wpAny_bind (wpAny_onRaise ?_))
  show wpAny _ _ (Builtin.SmallTypes.nextOf (.ref i1) >>= _) _ _ _
  refine wpAny_bind (nextOf_bytes_end hh (bi_ext h1 hs₁.extBut D.i1z) hx fun h₂ e hs₂ he => ?_)
  obtain ⟨oe, hoe, hce⟩ := he
  have hz₂ : IsZip h₂ z TI TO .ellipsis := hs₂ _ _ D.i1z.symm hz₁
  have hez : e ≠ z := fun x => by subst x; rw [hz₂] at hoe; cases hoe; simp at hce
  exact wpAny_setField_rec hz₂ (by simp) fun h₃ _ hs₃ => hE h₃ e (fun c o c1 _ c3 _ x => hs₃.extBut _ _ c1 (hs₂ _ _ c3 (hs₁.extBut _ _ c1 x))) ⟨oe, hs₃.extBut _ _ hez hoe, hce⟩
/-- where the walk of the zip stands -/
abbrev ZSt (z TI TO i1 i2 : Addr) (xs ys : Array UInt8) (ta tb : Tok) (i : Nat) (h : Heap) : Prop :=
  IsZip h z TI TO .none ∧ IsPair h TI (.ref i1) (.ref i2) ∧ (∃ p q, IsPair h TO p q) ∧ KBw.IsBytesIter h i1 xs ta i ∧ KBw.IsBytesIter h i2 ys tb i
abbrev ZMid (z TI TO i1 i2 : Addr) (xs ys : Array UInt8) (ta tb : Tok) (i : Nat) (T : Addr) (h : Heap) : Prop :=
  IsZip h z TI TO (rawInt T) ∧ IsPair h TI (.ref i1) (.ref i2) ∧ (∃ p q, IsPair h TO p q) ∧ KBw.IsBytesIter h i1 xs ta (i + 1) ∧ KBw.IsBytesIter h i2 ys tb (i + 1) ∧ T ≠ z ∧ T ≠ TO ∧ T ≠ i1 ∧ T ≠ i2
theorem walks_zipB (hh : A.handled = none) (z TI TO i1 i2 : Addr) (D : ZAp z TI TO i1 i2) (xs ys : Array UInt8) (ta tb : Tok) (hxy : xs.size = ys.size) :
    WalksT prog w A z [z, TI, TO, i1, i2] [z, TO, i1, i2] xs.size
      (fun i vals => ∃ x y u v, xs[i]? = some x ∧ ys[i]? = some y ∧ vals = #[.int (x.toNat : Int) u, .int (y.toNat : Int) v]) (ZSt z TI TO i1 i2 xs ys ta tb) (ZMid z TI TO i1 i2 xs ys ta tb) where
  sub := fun c hc => by simp at hc ⊢; rcases hc with rfl | rfl | rfl | rfl <;> simp
  frame := fun i h h' hst hk => by
    obtain ⟨hz, hTI, ⟨a, b, hTO⟩, h1, h2⟩ := hst
    exact ⟨hk z (by simp) _ hz, hk TI (by simp) _ hTI, ⟨a, b, hk TO (by simp) _ hTO⟩, bi_at h1 fun o e => hk i1 (by simp) o e, bi_at h2 fun o e => hk i2 (by simp) o e⟩
  item := fun i s Q E hi hst hQ => by
    obtain ⟨hz, hTI, ⟨a, b, hTO⟩, h1, h2⟩ := hst
    have hix : xs[i]? = some xs[i] := Array.getElem?_eq_getElem hi
    have hiy : ys[i]? = some (ys[i]'(hxy ▸ hi)) := Array.getElem?_eq_getElem (hxy ▸ hi)
    have hT : s.TypeIs (.ref z) "zip" := ⟨_, hz, rfl⟩
    have lt : ∀ {c o}, s.heap.get? c = some o → s.heap.objs.size ≠ c := fun e => Nat.ne_of_gt (Heap.lt_size e)
    unfold pyNext
    refine wpAny_bind (wpAny_attempt (wpAny_callSpecial?_slot (name := Str.ofString "__next__") hT F.slot_zip_next
      (wpAny_call_entry F.slot_zip_next hT F.entry_zip_next
        (zipB_item D hz hTI hTO h1 h2 hix hiy fun h' u v tk a1 a2 a3 a4 a5 a6 hk => wpAny_pure ?_) (F.args_zip_next_1 _))))
    exact hQ s.heap.objs.size _ h' tk ⟨_, _, u, v, hix, hiy, rfl⟩ (Nat.le_refl _) ⟨_, a5, rfl, _, rfl⟩
      ⟨a1, hk _ _ D.TIz D.TITO D.TIi1 D.TIi2 hTI, ⟨_, _, a2⟩, a3, a4, lt hz, lt hTO, (by obtain ⟨_, e, _⟩ := h1; exact lt e), (by obtain ⟨_, e, _⟩ := h2; exact lt e)⟩
      fun c o hc e => hk c o (fun x => hc (by simp [x])) (fun x => hc (by simp [x])) (fun x => hc (by simp [x])) (fun x => hc (by simp [x])) e
  go := fun elts k pos i T s Q E hm hQ => by
    obtain ⟨hz, hTI, ⟨a, b, hTO⟩, h1, h2, _⟩ := hm
    refine wpAny_letOwnedTupleGo_zip hz fun h' hz' hs' => hQ h' ⟨hz', hs'.extBut _ _ D.TIz hTI, ⟨a, b, hs'.extBut _ _ D.TOz hTO⟩, bi_ext h1 hs'.extBut D.i1z, bi_ext h2 hs'.extBut D.i2z⟩
      fun c o hc e => hs'.extBut _ _ (fun x => hc (by simp [x])) e
  apart := fun i T h hm hT => by
    obtain ⟨_, _, _, _, _, t1, t2, t3, t4⟩ := hm
    simp at hT
    rcases hT with rfl | rfl | rfl | rfl
    · exact t1 rfl
    · exact t2 rfl
    · exact t3 rfl
    · exact t4 rfl
  done := fun s Q E hst hQ => by
    obtain ⟨hz, hTI, ⟨a, b, hTO⟩, h1, h2⟩ := hst
    have hT : s.TypeIs (.ref z) "zip" := ⟨_, hz, rfl⟩
    unfold pyNext
    refine wpAny_bind (wpAny_attempt (wpAny_callSpecial?_slot (name := Str.ofString "__next__") hT F.slot_zip_next
      (wpAny_call_entry F.slot_zip_next hT F.entry_zip_next (zipB_end hh D hz hTI h1 (Array.getElem?_eq_none (Nat.le_refl _)) fun h' e hk he => ?_) (F.args_zip_next_1 _))))
    obtain ⟨o, ho, hc⟩ := he
    refine wpAny_bind (wpAny_isInstance (T := "StopIteration") (b := true) ⟨o, ho, hc⟩ isSubtype_stop ?_)
    exact wpAny_pure (hQ _ s.toks fun c o hc e => hk c o (fun x => hc (by simp [x])) (fun x => hc (by simp [x])) (fun x => hc (by simp [x])) (fun x => hc (by simp [x])) e)
  self := fun i s Q E hst hQ => wpAny_pyIter_zip hst.1 hQ
end
/-! ## making it -/
abbrev zbI (b : Array UInt8) (t : Tok) : Obj := { cls := .type "bytes_iterator", data := .fields #[.bytes b t, .int 0 0] }
abbrev zbH1 (h : Heap) (xs : Array UInt8) (ta : Tok) : Heap := h.push (zbI xs ta)
abbrev zbH2 (h : Heap) (xs ys : Array UInt8) (ta tb : Tok) : Heap := (zbH1 h xs ta).push (zbI ys tb)
abbrev zbH3 (h : Heap) (xs ys : Array UInt8) (ta tb : Tok) : Heap := (zbH2 h xs ys ta tb).push { cls := .type "tuple", data := .seq #[.ref h.objs.size, .ref (zbH1 h xs ta).objs.size] }
abbrev zbH4 (h : Heap) (xs ys : Array UInt8) (ta tb : Tok) : Heap := (zbH3 h xs ys ta tb).push { cls := .type "tuple", data := .seq #[.none, .none] }
abbrev zbH5 (h : Heap) (xs ys : Array UInt8) (ta tb : Tok) : Heap := (zbH4 h xs ys ta tb).push { cls := .type "zip", data := .fields #[.none, .bool false, .bool false, .ref (zbH2 h xs ys ta tb).objs.size, .ref (zbH3 h xs ys ta tb).objs.size] }
theorem meets_zipB (xs ys : Array UInt8) (ta tb : Tok) :
    Meets (Builtin.«zip.__new__» ⟨[.type "zip", .bytes xs ta, .bytes ys tb], []⟩) (fun _ R s => R (.ok (.ret (.ref (zbH4 s.heap xs ys ta tb).objs.size))) { s with heap := zbH5 s.heap xs ys ta tb }) :=
  .of_wp fun prog w A R s h => by
    obtain ⟨hp, g, d, tk, os⟩ := s
    have hsub := sub_zip
    wp_walk using KBw.pyIter_bytes, KBw.pyIter_bytes
    exact ⟨_, rfl, h⟩
section
variable {prog : Program} {w : World} {A : Around} {E : Value → Shared → Prop} {s : Shared} {xs ys : Array UInt8} {ta tb : Tok}
theorem call_zipB {Q : Value → Shared → Prop}
    (h : ∀ h' z TI TO i1 i2, ZAp z TI TO i1 i2 → ZSt z TI TO i1 i2 xs ys ta tb 0 h' → s.heap.objs.size ≤ i1 → i1 < i2 → i2 < TI → TI < TO → TO < z → z < h'.objs.size →
      (∀ c o, s.heap.get? c = some o → h'.get? c = some o) → Q (.ref z) { s with heap := h' }) :
    wpAny (model prog w) A (call (.type "zip") [.bytes xs ta, .bytes ys tb]) Q E s := by
  refine callType_new F.called_zip (by decide) (F.typeCall_zip_2 _ _) (F.newCall_zip_2 _ _) (fun obj => F.args_object_init_3 obj _ _) F.entry_zip_new (meets_zipB xs ys ta tb) ?_
  have z1 : (zbH1 s.heap xs ta).objs.size = s.heap.objs.size + 1 := Heap.size_push ..
  have z2 : (zbH2 s.heap xs ys ta tb).objs.size = s.heap.objs.size + 2 := by rw [Heap.size_push, z1]
  have z3 : (zbH3 s.heap xs ys ta tb).objs.size = s.heap.objs.size + 3 := by rw [Heap.size_push, z2]
  have z4 : (zbH4 s.heap xs ys ta tb).objs.size = s.heap.objs.size + 4 := by rw [Heap.size_push, z3]
  have z5 : (zbH5 s.heap xs ys ta tb).objs.size = s.heap.objs.size + 5 := by rw [Heap.size_push, z4]
  have g5 : (zbH5 s.heap xs ys ta tb).get? (zbH4 s.heap xs ys ta tb).objs.size = some _ := Heap.get?_push_size _ rfl
  have g4 : (zbH5 s.heap xs ys ta tb).get? (zbH3 s.heap xs ys ta tb).objs.size = some _ := Heap.get?_push_of_some _ (Heap.get?_push_size _ rfl)
  have g3 : (zbH5 s.heap xs ys ta tb).get? (zbH2 s.heap xs ys ta tb).objs.size = some _ := Heap.get?_push_of_some _ (Heap.get?_push_of_some _ (Heap.get?_push_size _ rfl))
  have g2 : (zbH5 s.heap xs ys ta tb).get? (zbH1 s.heap xs ta).objs.size = some _ := Heap.get?_push_of_some _ (Heap.get?_push_of_some _ (Heap.get?_push_of_some _ (Heap.get?_push_size _ rfl)))
  have g1 : (zbH5 s.heap xs ys ta tb).get? s.heap.objs.size = some _ := Heap.get?_push_of_some _ (Heap.get?_push_of_some _ (Heap.get?_push_of_some _ (Heap.get?_push_of_some _ (Heap.get?_push_size _ rfl))))
  show _ ∧ _
  rw [z2, z3, z4] at g5
  rw [z1, z2] at g3
  rw [z3] at g4
  rw [z1] at g2
  rw [z4]
  generalize s.heap.objs.size = n at *
  refine ⟨⟨_, g5, rfl⟩, h _ (n + 4) (n + 2) (n + 3) n (n + 1) ?_ ⟨g5, g3, ⟨_, _, g4⟩, ⟨_, g1, rfl, rfl⟩, ⟨_, g2, rfl, rfl⟩⟩ (Nat.le_refl _) (by show n < n + 1; omega) (by show n + 1 < n + 2; omega) (by show n + 2 < n + 3; omega) (by show n + 3 < n + 4; omega)
    (by rw [z5]; show n + 4 < n + 5; omega) fun c o x => Heap.get?_push_of_some _ (Heap.get?_push_of_some _ (Heap.get?_push_of_some _ (Heap.get?_push_of_some _ (Heap.get?_push_of_some _ x))))⟩
  constructor <;> (show (_ : Nat) ≠ _; omega)
end
end Mine
end
section
open PySem PySem.W PyProof.Rows PySem.Calls
set_option Elab.async false
set_option maxRecDepth 100000
set_option maxHeartbeats 1000000
namespace Mine
theorem gen_no_bytes : typeLookup (.type "generator") "__bytes__" = pure none := by rw [typeLookup_type, builtinLookup_eq_fast]; kernel_rfl
theorem gen_no_index : typeLookup (.type "generator") "__index__" = pure none := by rw [typeLookup_type, builtinLookup_eq_fast]; kernel_rfl
theorem gen_no_buffer : typeLookup (.type "generator") "__buffer__" = pure none := by rw [typeLookup_type, builtinLookup_eq_fast]; kernel_rfl
theorem gen_no_len : typeLookup (.type "generator") "__len__" = pure none := by rw [typeLookup_type, builtinLookup_eq_fast]; kernel_rfl
theorem gen_no_hint : typeLookup (.type "generator") "__length_hint__" = pure none := by rw [typeLookup_type, builtinLookup_eq_fast]; kernel_rfl
section
variable {prog : Program} {w : World} {A : Around} {E : Value → Shared → Prop} {s : Shared}
variable {I : Addr} {fp wr : List Addr} {g : Nat} {n : Nat} {P : Nat → Value → Prop} {St : Nat → Shared → Prop}
/-- what is left of the shared state -/
structure MovedB (wr : List Addr) (g : Nat) (S : Addr) (s s' : Shared) : Prop where
  heap : ∀ b o, b ∉ wr → b ≠ S → s.heap.get? b = some o → s'.heap.get? b = some o
  gens : GenOnlyQ g s.gens s'.gens
  drawn : s'.drawn = s.drawn
  os : s'.os = s.os
theorem bg_loop {R : Result → Shared → Prop} {S : Addr} {ns : List Int} (W : WalksS prog w A.in1 I fp wr (GenOnlyQ g) ns.length P St) (hP : ∀ i v, P i v → ∃ t, v = .int (ns.getD i 0) t)
    (hr : ∀ n ∈ ns, 0 ≤ n ∧ n < 256) (hz : ns.length ≤ 1000000) (hS1 : S ∉ fp) :
    ∀ (k i : Nat) (s : Shared), ns.length - i = k → i ≤ ns.length → St i s → s.heap.get? S = some { cls := .type "bytearray", data := .bytearray (byteArr (ns.take i)) } →
      (∀ s' t, MovedB wr g S s s' → R (.ok (.ret (.bytes (byteArr ns) t))) s') →
      codeAny (model prog w) A (.builtin "bytes.__new__.loop" ⟨[.type "bytes", .ref I, .ref S], []⟩) R s := by
  have hSw : S ∉ wr := fun h => hS1 (W.sub _ h)
  intro k
  induction k with
  | zero =>
    intro i s hk hle hst hS hR
    have hin : i = ns.length := by omega
    subst hin
    refine codeAny_builtin F.bm_entry_loop ?_
    rw [Around.under_plainId F.bm_plain_loop _]
    show wpAny _ A.in1 (pyNext (.ref I) >>= _) _ _ s
    refine wpAny_bind (W.done s _ _ hst fun s' hm => ?_)
    have hS' := hm.heap S _ hSw hS
    refine wpAny_bind ?_
    unfold Builtin.Bytes.payload Builtin.Bytes.payload?
    refine wpAny_bind (wpAny_bind (wpAny_load hS' ?_))
    refine wpAny_pure (wpAny_pure ?_)
    rw [List.take_length]
    refine wpAny_bind (wpAny_mkBytes ?_ (by rw [byteArr_size, sizeLine_eq]; omega))
    show wpAny _ _ (if (Value.type "bytes" == Value.type "bytes") = true then _ else _) _ _ _
    refine bm_if_true (by decide) ?_
    first
      | exact wpAny_pure (hR _ _ ⟨fun b o hb _ e => hm.heap b o hb e, hm.gens, hm.drawn, hm.os⟩)
      | exact wpAny_bind (wpAny_pure (wpAny_pure (hR _ _ ⟨fun b o hb _ e => hm.heap b o hb e, hm.gens, hm.drawn, hm.os⟩)))
  | succ k ih =>
    intro i s hk hle hst hS hR
    have hlt : i < ns.length := by omega
    refine codeAny_builtin F.bm_entry_loop ?_
    rw [Around.under_plainId F.bm_plain_loop _]
    show wpAny _ A.in1 (pyNext (.ref I) >>= _) _ _ s
    refine wpAny_bind (W.item i s _ _ hlt hst fun v s' hv hst' hm => ?_)
    obtain ⟨t, rfl⟩ := hP i v hv
    have hn : ns[i]? = some (ns.getD i 0) := by rw [List.getD_eq_getElem?_getD, List.getElem?_eq_getElem hlt]; rfl
    generalize ns.getD i 0 = n at hn
    obtain ⟨h0, h1⟩ := hr n (List.mem_of_getElem? hn)
    have hS' := hm.heap S _ hSw hS
    refine wpAny_bind (wpAny_holding (wpAny_of_eq (rfl : asIndex (.int n t) = pure n) ?_))
    refine wpAny_bind (wpAny_letGo ?_)
    refine bm_if_false (by simp only [Bool.or_eq_false_iff, decide_eq_false_iff_not]; omega) ?_
    refine wpAny_bind ?_
    show wpAny _ _ (updateBytearray S (·.push n.toNat.toUInt8)) _ _ _
    unfold updateBytearray
    refine wpAny_bind (wpAny_load hS' ?_)
    show wpAny _ _ (update S (Obj.mapBytearray (·.push n.toNat.toUInt8)) >>= fun _ => lookBehind S) _ _ _
    refine wpAny_bind (wpAny_update hS' ?_)
    have hS₂ : (s'.heap.update S (Obj.mapBytearray (·.push n.toNat.toUInt8))).get? S = some { cls := .type "bytearray", data := .bytearray (byteArr (ns.take (i + 1))) } := by
      rw [byteArr_take hn]
      exact Heap.get?_update_self (Obj.mapBytearray (·.push n.toNat.toUInt8)) hS' rfl
    refine wpAny_lookBehind hS₂ ?_ ?_
    · show (if (byteArr (ns.take (i + 1))).size > sizeLine then some "bytearray:memory" else none) = none
      rw [if_neg]
      rw [byteArr_size, List.length_take, sizeLine_eq]
      omega
    · refine wpAny_pure ⟨plainId_quiet F.bm_plain_loop _, ih (i + 1) { s' with heap := s'.heap.update S (Obj.mapBytearray (·.push n.toNat.toUInt8)) } (by omega) hlt ?_ hS₂ fun s3 t' hm3 => ?_⟩
      · exact W.frame (i + 1) s' _ s'.toks hst' (Nat.le_refl _) fun b hb o e => (Heap.get?_update_other _ _ (fun (q : S = b) => hS1 (by rw [q]; exact hb))).trans e
      · exact hR s3 t' ⟨fun b o hb hbS e => hm3.heap b o hb hbS ((Heap.get?_update_other _ _ (Ne.symm hbS)).trans (hm.heap b o hb e)), W.gtrans _ _ _ hm.gens hm3.gens, hm3.drawn.trans hm.drawn, hm3.os.trans hm.os⟩
theorem bg_new {ns : List Int} {Q : Value → Shared → Prop} (W : WalksS prog w A.in1 I fp wr (GenOnlyQ g) ns.length P St) (hT : ∀ i s, St i s → s.heap.IsGen I g) (hst : St 0 s)
    (hfp : ∀ b ∈ fp, b < s.heap.objs.size) (hP : ∀ i v, P i v → ∃ t, v = .int (ns.getD i 0) t) (hr : ∀ n ∈ ns, 0 ≤ n ∧ n < 256) (hz : ns.length ≤ 1000000)
    (hQ : ∀ s' t, MovedB wr g s.heap.objs.size s s' → Q (.bytes (byteArr ns) t) s') :
    codeAny (model prog w) A (.call (.builtin "bytes.__new__") ⟨[.type "bytes", .ref I], []⟩) (wants Q E) s := by
  refine codeAny_of_tree ?_
  show wpAny _ A.in1 (do checkBuiltinCall "bytes.__new__" ⟨[.type "bytes", .ref I], []⟩; again (.builtin "bytes.__new__" ⟨[.type "bytes", .ref I], []⟩)) _ _ s
  refine wpAny_bind (wpAny_of_eq (F.bm_newCall _) (wpAny_pure ⟨plainId_quiet F.bm_plain _, codeAny_builtin F.bm_entry ?_⟩))
  rw [Around.under_plainId F.bm_plain _]
  have hTI := (hT 0 s hst).typeIs
  obtain ⟨og, nm, qn, hog, hoc, hod, _⟩ := hT 0 s hst
  unfold Builtin.«bytes.__new__»
  refine wpAny_bind (wpAny_of_eq (a := true) rfl ?_)
  refine bm_if_false rfl ?_
  refine wpAny_bind (wpAny_of_eq F.bm_sub ?_)
  refine bm_if_false rfl ?_
  refine wpAny_bind (wpAny_of_eq (F.bm_bind _) ?_)
  refine wpAny_bind (wpAny_of_eq (a := ()) rfl ?_)
  refine wpAny_bind (wpAny_of_eq (a := ()) rfl ?_)
  refine bm_if_false rfl ?_
  refine wpAny_bind (wpAny_specialOf hTI gen_no_bytes ?_)
  refine wpAny_bind (wpAny_bind ?_)
  show wpAny _ _ (load I >>= _) _ _ _
  refine wpAny_bind (wpAny_load hog ?_)
  rw [hod]
  refine wpAny_pure (wpAny_pure ?_)
  refine bm_if_false rfl ?_
  refine wpAny_bind (wpAny_specialOf hTI gen_no_index ?_)
  refine bm_if_true rfl ?_
  first
    | show wpAny _ _ (Builtin.Bytes.buffer? "bytes.__new__" (.ref I) true >>= _) _ _ _
    | (refine wpAny_bind ?_; show wpAny _ _ (Builtin.Bytes.buffer? "bytes.__new__" (.ref I) true >>= _) _ _ _)
  refine wpAny_bind ?_
  unfold Builtin.Bytes.buffer?
  refine wpAny_bind (wpAny_specialOf hTI gen_no_buffer ?_)
  refine wpAny_bind (wpAny_specialOf hTI gen_no_buffer ?_)
  refine wpAny_pure ?_
  refine wpAny_bind (wpAny_tryCatch (W.self 0 _ _ _ hst ?_))
  refine wpAny_bind (wpAny_holding ?_)
  unfold Builtin.Bytes.lengthHint
  refine wpAny_bind (wpAny_specialOf hTI gen_no_len ?_)
  dsimp only
  refine bm_if_false (by decide +kernel) ?_
  refine bm_if_false rfl ?_
  refine wpAny_bind (wpAny_specialOf hTI gen_no_hint ?_)
  refine wpAny_pure ?_
  refine wpAny_bind ?_
  unfold Builtin.Bytes.newBytearray
  refine wpAny_newObj_type ?_ (Nat.zero_le _)
  have hk0 : ∀ b o, s.heap.get? b = some o → (s.heap.push { cls := .type "bytearray", data := .bytearray #[] }).get? b = some o := fun b o e => Heap.get?_push_of_some _ e
  have main := bg_loop (prog := prog) (w := w) (A := A) (R := wants Q E) (S := s.heap.objs.size) W hP hr hz (fun h => Nat.lt_irrefl _ (hfp _ h))
    ns.length 0 { s with heap := s.heap.push { cls := .type "bytearray", data := .bytearray #[] } } rfl (Nat.zero_le _) (W.frame 0 s _ s.toks hst (Nat.le_refl _) fun b _ o e => hk0 b o e) (Heap.get?_push_size _ rfl)
    fun s' t hm => hQ s' t ⟨fun b o hb hbS e => hm.heap b o hb hbS (hk0 b o e), hm.gens, hm.drawn, hm.os⟩
  first
    | exact wpAny_pure ⟨plainId_quiet F.bm_plain_loop _, main⟩
    | exact wpAny_pure (wpAny_pure ⟨plainId_quiet F.bm_plain_loop _, main⟩)
theorem call_bytes_gen {ns : List Int} {Q : Value → Shared → Prop} (W : WalksS prog w A.in1.in1 I fp wr (GenOnlyQ g) ns.length P St) (hT : ∀ i s, St i s → s.heap.IsGen I g) (hst : St 0 s)
    (hfp : ∀ b ∈ fp, b < s.heap.objs.size) (hP : ∀ i v, P i v → ∃ t, v = .int (ns.getD i 0) t) (hr : ∀ n ∈ ns, 0 ≤ n ∧ n < 256) (hz : ns.length ≤ 1000000)
    (hQ : ∀ s' t, MovedB wr g s.heap.objs.size s s' → Q (.bytes (byteArr ns) t) s') : wpAny (model prog w) A (call (.type "bytes") [.ref I]) Q E s := by
  refine callType_codes (Q₁ := fun obj s₁ => s₁.TypeIs obj "bytes" ∧ Q obj s₁) F.bm_called (F.bm_typeCall _) F.entry_object_init
    (bg_new W hT hst hfp hP hr hz fun s' t hk => ⟨PySem.W.typeIs_bytes _ _ _, hQ s' t hk⟩) fun obj s₁ h₁ => ?_
  exact ⟨h₁.1, F.args_object_init_2 obj _, object_init_meets F.bm_called.init.lookup F.bm_called.made (by decide) prog w A.in1 _ s₁ ⟨h₁.1, rfl, h₁.2⟩⟩
end
end Mine
end
section
open PySem PySem.W PyProof.Rows PySem.Calls PySem.Spec
set_option Elab.async false
set_option maxRecDepth 100000
set_option maxHeartbeats 1000000
namespace Mine
def xorInts (xs ys : Array UInt8) : List Int := List.zipWith (fun x y => Builtin.bitXor ((x.toNat : Nat) : Int) ((y.toNat : Nat) : Int)) xs.toList ys.toList
section
variable {prog : Program} {w : World} {A : Around} {E : Value → Shared → Prop} {s : Shared} {h₀ : Heap} {L : Addr} {m mg mb : PySem.Str → Option Value} {news : List (Addr × Obj)} {p : Program} {loose : List PySem.Str} {mean : ExcName → Option Value}
theorem code_any {M : Model} {env : Env} {c P : Addr} {ps : Array Value} {pos : Pos} {qual : PySem.Str} {scope : Scope} {Q : Value → Shared → Prop} (hc : env.code = .ref c) (C : CodeHd s.heap c P) (hP : s.heap.get? P = some (tabObj ps)) (ht : TriplesOk ps.toList)
    (hQ : ∀ code h' tk ps', Heap.ExtBut P s.heap h' → h'.get? P = some (tabObj ps') → TriplesOk ps'.toList → s.heap.objs.size ≤ h'.objs.size → Q code { s with heap := h', toks := tk }) :
    wpAny M A (genexprCode env pos qual scope) Q E s := by
  cases hf : codeAmong pos ps.toList with
  | some c' => exact wpAny_genexprCode_hit hc (C.code hP ht) hf (hQ c' s.heap s.toks ps (Heap.ExtBut.refl _ _) hP ht (Nat.le_refl _))
  | none =>
    refine wpAny_genexprCodeX hc (C.code hP ht) (C.tab hP) hf fun c' h' tk hx hge hlt hcode _ htab _ => ?_
    obtain ⟨_, _, _, _, _, _, _, _, _, _, _, _, _, _, _, _, _, hop, hpd, htr, _⟩ := hcode
    have e := htab.2
    have e2 := Option.some.inj (hop.symm.trans e)
    subst e2
    exact hQ (.ref c') h' tk _ hx htab.2 htr (Nat.le_trans hge (Nat.le_of_lt hlt))
theorem bmod_any (T : Top p loose mean mg mb h₀) : ∃ bm ob, BMod h₀ mainGlobals mg bm ob :=
  let ⟨bm, ob, a1, a2, a3, a4, a5, a6⟩ := T.bmain
  ⟨bm, ob, T.g, a1, a2, a3, a4, a5, a6⟩
theorem passing_all (n : Nat) : passing (fun _ => true) n 0 = List.range n := by
  unfold passing
  rw [List.drop_zero, List.filter_eq_self.mpr (fun _ _ => rfl)]
theorem gen_xor {env : Env} {c P : Addr} {ps : Array Value} {iter : Expr} {pa pb pt p1 p2 p3 pos : Pos} {kt : Nat} {scope : Scope} {cl : List (PySem.Str × Addr)} {Q : Value → Shared → Prop}
    (_F : Fr h₀ L s.heap m) (T : Top p loose mean mg mb h₀) (C : CodeHd h₀ c P) (hcode : env.code = .ref c) (hgl : env.globals = mainGlobals)
    (hh : A.handled = none) (hco : scope.isCoroutine = false) (hclos : closureFor scope env = pure cl) (hcell : ∀ y ∈ scope.names, y.2 ≠ .cell) (h0 : scope.names.lookup (".0" : PySem.Str) = some NameKind.local)
    (hxa : scope.names.lookup (PySem.Str.ofString "_a") = some .local) (hxb : scope.names.lookup (PySem.Str.ofString "_b") = some .local) (hkind : scope.kind = .function) (hroom : A.depth < recursionLimit)
    (h : wpAny (model prog w) A (eval iter env) (fun xv s₁ => ∃ z TI TO i1 i2 xs ys ta tb, xv = .ref z ∧ ZAp z TI TO i1 i2 ∧ ZSt z TI TO i1 i2 xs ys ta tb 0 s₁.heap ∧ xs.size = ys.size ∧ Fr h₀ L s₁.heap m ∧
      News h₀ L s₁.heap ((P, tabObj ps) :: news) ∧ TriplesOk ps.toList ∧ AllBare s₁.gens ∧ (L < i1 ∧ P < i1 ∧ i1 < i2 ∧ i2 < TI ∧ TI < TO ∧ TO < z) ∧ (∀ q ∈ news, q.1 < i1 ∧ q.1 ≠ P) ∧
      (∀ (a : Addr) (g : Nat) fp wr St (ps' : Array Value) h5 tk5 g5, WalksS prog w A.in4 a fp wr (GenOnlyQ g) xs.size (fun i v => ∃ t, v = .int ((xorInts xs ys).getD i 0) t) St → (∀ i s', St i s' → s'.heap.IsGen a g) → St 0 { s₁ with heap := h5, toks := tk5, gens := g5 } →
        (∀ b ∈ fp, b < h5.objs.size) → (∀ b ∈ wr, i1 ≤ b) → Fr h₀ L h5 m → News h₀ L h5 ((P, tabObj ps') :: news) → TriplesOk ps'.toList → AllBare g5 → Q (.ref a) { s₁ with heap := h5, toks := tk5, gens := g5 })) E s)
    (hs : ∀ x, genFold iter env x = pure x) :
    wpAny (model prog w) A (eval (.GeneratorExp (.BinOp (.Name (PySem.Str.ofString "_a") p1) .BitXor (.Name (PySem.Str.ofString "_b") p2) p3) [⟨.Tuple [.Name (PySem.Str.ofString "_a") pa, .Name (PySem.Str.ofString "_b") pb] kt pt, iter, [], 0⟩] scope pos) env) Q E s := by
  refine wpAny_GeneratorExp_walksQTD hh hco hclos hcell h0 hxa hxb (by decide) hkind hroom (wpAny_mono h (fun xv s₁ h₁ => ?_) fun _ _ e => e) hs
  obtain ⟨z, TI, TO, i1, i2, xs, ys, ta, tb, rfl, D, hst, hxy, F, N, hps, G, ⟨o1, o2, o3, o4, o5, o6⟩, hnw, hQ⟩ := h₁
  replace o1 := ltN o1
  replace o2 := ltN o2
  replace o3 := ltN o3
  replace o4 := ltN o4
  replace o5 := ltN o5
  replace o6 := ltN o6
  have hlim : s₁.heap.NoLimit := T.nolimit.keeps F.keep
  refine wpAny_pyIter_zip hst.1 ⟨hlim, ?_⟩
  have hP := (N _ (.head _)).1
  have C₁ : CodeHd s₁.heap c P := C.keeps F.keep
  refine code_any hcode C₁ hP hps fun code h₃ tk₃ ps' hx₃ hP₃ hps₃ hsz₃ => ?_
  obtain ⟨bm, ob, M⟩ := bmod_any T
  have M₃ : BMod h₃ mainGlobals mg bm ob := (M.keeps F.keep).extBut (C₁.tab hP) hx₃
  have hne : ∀ b, i1 ≤ b → b ≠ P := fun b hb e => Nat.lt_irrefl _ (Nat.lt_of_lt_of_le o2 (e ▸ hb))
  have hcs : @LT.lt Nat _ cStatics i1 := by
    obtain ⟨_, hn⟩ := T.nolimit
    have := hn.1.lt
    exact Nat.lt_trans (Nat.lt_of_lt_of_le this F.above) o1
  have hcP : cStatics ≠ P := fun e => by
    obtain ⟨_, hns, _⟩ := hlim
    obtain ⟨o, es, ep, ho, hd, _⟩ := hns
    rw [e, hP] at ho; cases ho; cases hd
  have hl₃ : h₃.NoLimit := hlim.extBut hx₃ hcP
  rw [hgl]
  refine wpAny_builtinsFor M₃.ns M₃.name M₃.ne M₃.obj M₃.cls M₃.dict M₃.data ?_
  have W := fun (A' : Around) (hA : A'.handled = none) => (walks_zipB (prog := prog) (w := w) hA z TI TO i1 i2 D xs ys ta tb hxy).toU
  have hst₃ : ZSt z TI TO i1 i2 xs ys ta tb 0 h₃ := (W A hh).frame _ _ _ hst fun b hb o e => hx₃ b o (hne b (by
    simp only [List.mem_cons, List.not_mem_nil, or_false] at hb
    rcases hb with rfl | rfl | rfl | rfl | rfl <;> (show (_ : Nat) ≤ _; omega))) e
  have hfp : ∀ b ∈ [z, TI, TO, i1, i2], b < h₃.objs.size := fun b hb => by
    obtain ⟨q1, q2, ⟨_, _, q3⟩, ⟨_, q4, _⟩, ⟨_, q5, _⟩⟩ := hst₃
    simp only [List.mem_cons, List.not_mem_nil, or_false] at hb
    rcases hb with rfl | rfl | rfl | rfl | rfl
    · exact Heap.lt_size q1
    · exact Heap.lt_size q2
    · exact Heap.lt_size q3
    · exact Heap.lt_size q4
    · exact Heap.lt_size q5
  have F₃ : Fr h₀ L h₃ m := ⟨F.ns.at fun o e => hx₃ L o (fun q => (N _ (.head _)).2.1 q.symm) e, fun b o e => hx₃ b o (fun q => by rw [q, (N _ (.head _)).2.2] at e; cases e) (F.keep b o e), F.above⟩
  have N₃ : News h₀ L h₃ ((P, tabObj ps') :: news) := fun q hq => by
    rcases List.mem_cons.mp hq with rfl | hq
    · exact ⟨hP₃, (N _ (.head _)).2⟩
    · exact ⟨hx₃ _ _ (hnw q hq).2 (N q (.tail _ hq)).1, (N q (.tail _ hq)).2⟩
  have hxl : (xorInts xs ys).length = xs.size := by
    unfold xorInts
    rw [List.length_zipWith, Array.length_toList, Array.length_toList, ← hxy, Nat.min_self]
  refine ⟨z, _, _, _, _, _, _, (fun _ => true), (fun i v => ∃ t, v = .int ((xorInts xs ys).getD i 0) t), rfl, W, (fun i vals hv => by obtain ⟨_, _, _, _, _, _, e⟩ := hv; exact ⟨_, _, e⟩), hst₃, hfp, hl₃, ?_, (fun href hhref => ?_), fun a h₅ tk gs hgb hag hsz₅ hk₅ Wg hat => ?_⟩
  · intro hm
    simp only [List.mem_cons, List.not_mem_nil, or_false] at hm
    rcases hm with q | q | q | q <;> (rw [q] at hcs; exact absurd hcs (by show ¬ (_ : Nat) < _; omega))
  · refine ⟨fun A' E' i va vb u m₂ hA hD hU hPt hn hma hmb hkp => ?_, fun A' E' i va vb u m₂ hA hD hU hPt hp hn hma hmb hkp => ?_⟩
    · exact wpAny_pure ⟨rfl, u.heap, u.toks, rfl, fun _ _ e => e⟩
    · obtain ⟨x, y, u1, v1, hx, hy, e⟩ := hPt
      obtain ⟨rfl, rfl⟩ : va = _ ∧ vb = _ := by simpa using congrArg Array.toList e
      have hka : (genEnv scope cl h₃.objs.size code builtinsNs env).kindOf (PySem.Str.ofString "_a") = some .local := hxa
      have hkb : (genEnv scope cl h₃.objs.size code builtinsNs env).kindOf (PySem.Str.ofString "_b") = some .local := hxb
      refine wpAny_BinOp (wpAny_Name (wpAny_loadName_local hkind hka hn hma ?_) (by decide))
      refine wpAny_Name (wpAny_loadName_local hkind hkb hn hmb ?_) (by decide)
      refine xor_int ⟨⟨u.toks, congrArg (fun q => Value.int q u.toks) ?_⟩, _, _, rfl, fun _ _ e => e⟩
      have hx' : xs.toList[i]? = some x := by rw [Array.getElem?_toList]; exact hx
      have hy' : ys.toList[i]? = some y := by rw [Array.getElem?_toList]; exact hy
      unfold xorInts
      rw [List.getD_eq_getElem?_getD, List.getElem?_zipWith, hx', hy']
      rfl
  · rw [passing_all] at Wg
    rw [List.length_range] at Wg
    have hi1 : i1 < h₃.objs.size := hfp i1 (by simp)
    refine hQ a _ _ _ _ ps' h₅ tk _ (Wg.imp fun j v hv => ?_) (fun i s' st => st.1) hat ?_ ?_ (F₃.keeps hk₅) (fun q hq => ⟨hk₅ _ _ (N₃ q hq).1, (N₃ q hq).2⟩) hps₃ (G.push hgb)
    · obtain ⟨i, hi, hF⟩ := hv
      have e := (List.getElem?_eq_some_iff.mp hi).2
      rw [List.getElem_range] at e
      rw [e]
      exact hF
    · intro b hb
      show b < h₅.objs.size
      rw [hsz₅]
      rcases List.mem_cons.mp hb with rfl | hb
      · exact Nat.lt_succ_self _
      · rcases List.mem_cons.mp hb with rfl | hb
        · exact Nat.lt_succ_of_lt hag
        · exact Nat.lt_succ_of_lt (Nat.lt_trans (List.mem_range.mp hb) hag)
    · intro b hb
      rcases List.mem_cons.mp hb with rfl | hb
      · exact Nat.le_of_lt hi1
      · simp only [List.mem_cons, List.not_mem_nil, or_false] at hb
        rcases hb with rfl | rfl | rfl | rfl <;> (show (_ : Nat) ≤ _; omega)
end
end Mine
end
section
open PySem PySem.W PyProof.Rows PySem.Calls
set_option maxRecDepth 100000
namespace Mine
/-! ## plain facts of octets -/
theorem xor_and (a : Nat) : ∀ b : Nat, (a ^^^ b) + 2 * (a &&& b) = a + b := by
  induction a using Nat.strongRecOn with
  | _ a ih =>
    intro b
    by_cases h0 : a = 0
    · subst h0; simp
    · have h := ih (a / 2) (by omega) (b / 2)
      have e1 : (a ^^^ b) / 2 = (a / 2) ^^^ (b / 2) := Nat.xor_div_two
      have e2 : (a &&& b) / 2 = (a / 2) &&& (b / 2) := Nat.and_div_two
      have e3 : (a ^^^ b) % 2 = (a % 2) ^^^ (b % 2) := Nat.xor_mod_two_pow (n := 1)
      have e4 : (a &&& b) % 2 = (a % 2) &&& (b % 2) := Nat.and_mod_two_pow (n := 1)
      have m : (a % 2 = 0 ∨ a % 2 = 1) ∧ (b % 2 = 0 ∨ b % 2 = 1) := by omega
      rw [← e1, ← e2] at h
      obtain ⟨ha | ha, hb | hb⟩ := m <;> rw [ha, hb] at e3 e4 <;> simp only [Nat.xor_self, Nat.and_self, Nat.zero_xor, Nat.xor_zero, Nat.zero_and, Nat.and_zero] at e3 e4 <;> omega
theorem bitXor_nat (a b : Nat) : Builtin.bitXor (a : Int) (b : Int) = ((a ^^^ b : Nat) : Int) := by
  have h : Builtin.bitAnd (a : Int) (b : Int) = ((a &&& b : Nat) : Int) := by
    unfold Builtin.bitAnd
    rw [decide_eq_true (Int.natCast_nonneg a), decide_eq_true (Int.natCast_nonneg b)]
    rfl
  rw [bitXor_and, h]
  have := xor_and a b
  omega
def xorL (xs ys : List UInt8) : List UInt8 := List.zipWith (· ^^^ ·) xs ys
theorem xorL_length {xs ys : List UInt8} (h : xs.length = ys.length) : (xorL xs ys).length = xs.length := by
  unfold xorL
  rw [List.length_zipWith, ← h, Nat.min_self]
theorem xorInts_eq (xs ys : Array UInt8) : xorInts xs ys = (xorL xs.toList ys.toList).map fun c => ((c.toNat : Nat) : Int) := by
  unfold xorInts xorL
  rw [List.map_zipWith]
  congr 1
  funext x y
  rw [bitXor_nat, UInt8.toNat_xor]
theorem byteArr_of (l : List UInt8) : byteArr (l.map fun c => ((c.toNat : Nat) : Int)) = l.toArray := by
  unfold byteArr
  rw [List.map_map]
  congr 1
  conv => rhs; rw [← List.map_id l]
  refine List.map_congr_left fun c _ => ?_
  show ((c.toNat : Int)).toNat.toUInt8 = c
  rw [Int.toNat_natCast]
  exact UInt8.ofNat_toNat
theorem xorInts_in {xs ys : Array UInt8} : ∀ n ∈ xorInts xs ys, 0 ≤ n ∧ n < 256 := by
  intro n hn
  rw [xorInts_eq] at hn
  obtain ⟨c, _, rfl⟩ := List.mem_map.mp hn
  have := c.toNat_lt
  omega
theorem xorInts_length {xs ys : Array UInt8} (h : xs.size = ys.size) : (xorInts xs ys).length = xs.size := by
  rw [xorInts_eq, List.length_map, xorL_length (by rw [Array.length_toList, Array.length_toList]; exact h), Array.length_toList]
/-! numbers -/
theorem val_append (l : List UInt8) (c : UInt8) : val (l ++ [c]) = val l * 256 + c.toNat := by
  unfold val
  rw [List.foldl_append]
  rfl
theorem val_cons_aux : ∀ (l : List UInt8) (a : Nat), l.foldl (fun a c => a * 256 + c.toNat) a = a * 256 ^ l.length + val l
  | [], a => by simp [val]
  | c :: r, a => by
    unfold val
    rw [List.foldl_cons, List.foldl_cons, val_cons_aux r, val_cons_aux r (0 * 256 + c.toNat), List.length_cons, Nat.pow_succ, Nat.zero_mul, Nat.zero_add, Nat.add_mul, Nat.mul_assoc, Nat.mul_comm 256, Nat.add_assoc]
theorem val_leB : ∀ (n x : Nat), val (leB n x).reverse = x % 256 ^ n
  | 0, x => by simp [leB, val, Nat.mod_one]
  | n + 1, x => by
    show val (UInt8.ofNat (x % 256) :: leB n (x / 256)).reverse = _
    rw [List.reverse_cons, val_append, val_leB n, Nat.pow_succ, Nat.mul_comm (256 ^ n) 256, Nat.mod_mul, UInt8.toNat_ofNat']
    omega
theorem val_beB (n x : Nat) : val (beB n x) = x % 256 ^ n := val_leB n x
theorem leB_val : ∀ (l : List UInt8), leB l.length (val l.reverse) = l
  | [] => rfl
  | c :: r => by
    rw [List.reverse_cons, val_append]
    show UInt8.ofNat ((val r.reverse * 256 + c.toNat) % 256) :: leB r.length ((val r.reverse * 256 + c.toNat) / 256) = c :: r
    have hc := c.toNat_lt
    have e1 : (val r.reverse * 256 + c.toNat) % 256 = c.toNat := by omega
    have e2 : (val r.reverse * 256 + c.toNat) / 256 = val r.reverse := by omega
    rw [e1, e2, leB_val r]
    congr 1
    exact UInt8.ofNat_toNat
theorem beB_val (l : List UInt8) : beB l.length (val l) = l := by
  have h := leB_val l.reverse
  rw [List.reverse_reverse, List.length_reverse] at h
  unfold beB
  rw [h, List.reverse_reverse]
theorem val_xor : ∀ (xs ys : List UInt8), xs.length = ys.length → val (xorL xs.reverse ys.reverse) = val xs.reverse ^^^ val ys.reverse
  | [], [], _ => rfl
  | c :: r, d :: r', h => by
    have hl : r.length = r'.length := Nat.succ.inj h
    have e : xorL (c :: r).reverse (d :: r').reverse = xorL r.reverse r'.reverse ++ [c ^^^ d] := by
      unfold xorL
      rw [List.reverse_cons, List.reverse_cons, List.zipWith_append (by rw [List.length_reverse, List.length_reverse]; exact hl)]
      rfl
    rw [e, val_append, val_xor r r' hl, List.reverse_cons, List.reverse_cons, val_append, val_append, UInt8.toNat_xor]
    have hc := c.toNat_lt
    have hd := d.toNat_lt
    have hcd : c.toNat ^^^ d.toNat < 256 := Nat.xor_lt_two_pow (n := 8) hc hd
    generalize val r.reverse = A
    generalize val r'.reverse = B
    have e1 : ((A * 256 + c.toNat) ^^^ (B * 256 + d.toNat)) / 2 ^ 8 = (A * 256 + c.toNat) / 2 ^ 8 ^^^ (B * 256 + d.toNat) / 2 ^ 8 := Nat.xor_div_two_pow
    have e2 : ((A * 256 + c.toNat) ^^^ (B * 256 + d.toNat)) % 2 ^ 8 = (A * 256 + c.toNat) % 2 ^ 8 ^^^ (B * 256 + d.toNat) % 2 ^ 8 := Nat.xor_mod_two_pow
    have a1 : (A * 256 + c.toNat) / 2 ^ 8 = A := by omega
    have a2 : (A * 256 + c.toNat) % 2 ^ 8 = c.toNat := by omega
    have b1 : (B * 256 + d.toNat) / 2 ^ 8 = B := by omega
    have b2 : (B * 256 + d.toNat) % 2 ^ 8 = d.toNat := by omega
    rw [a1, b1] at e1
    rw [a2, b2] at e2
    omega
theorem val_xorL {xs ys : List UInt8} (h : xs.length = ys.length) : val (xorL xs ys) = val xs ^^^ val ys := by
  have := val_xor xs.reverse ys.reverse (by rw [List.length_reverse, List.length_reverse]; exact h)
  rw [List.reverse_reverse, List.reverse_reverse] at this
  exact this
theorem flat_rep1 (c : UInt8) : ∀ k : Nat, (List.replicate k [c]).flatten = List.replicate k c
  | 0 => rfl
  | k + 1 => by
    rw [List.replicate_succ, List.flatten_cons, flat_rep1 c k, List.replicate_succ]
    rfl
theorem len_rep1 (c : UInt8) (k : Nat) : ((List.replicate k [c]).flatten).length = k := by rw [flat_rep1, List.length_replicate]
/-! how many blocks -/
def ellN (len n : Nat) : Nat := (len + n - 1) / n
theorem ell_eq {len n : Nat} (hn : 1 ≤ n) : -(Int.fdiv (-(len : Int)) (n : Int)) = ((ellN len n : Nat) : Int) := by
  have hp : (0 : Int) < n := by omega
  have h1 := Int.fmod_add_mul_fdiv (-(len : Int)) (n : Int)
  have h2 := Int.fmod_nonneg_of_pos (-(len : Int)) hp
  have h3 := Int.fmod_lt_of_pos (-(len : Int)) hp
  generalize Int.fdiv (-(len : Int)) (n : Int) = q at *
  generalize Int.fmod (-(len : Int)) (n : Int) = m at *
  obtain ⟨k, hk⟩ : ∃ k : Nat, -q = (k : Int) := by
    refine ⟨(-q).toNat, ?_⟩
    rw [Int.toNat_of_nonneg]
    by_cases h : 0 ≤ -q
    · exact h
    · exfalso
      have : (1 : Int) ≤ q := by omega
      have h4 : (n : Int) * 1 ≤ (n : Int) * q := Int.mul_le_mul_of_nonneg_left this (by omega)
      omega
  have hq : q = -(k : Int) := by omega
  subst hq
  rw [hk]
  have h5 : (n : Int) * -(k : Int) = -((n * k : Nat) : Int) := by push_cast; rw [Int.mul_neg]
  rw [h5] at h1
  unfold ellN
  have e : (len + n - 1) / n = k := by
    have h6 : n * k = len + m.toNat := by omega
    have h7 : m.toNat < n := by omega
    refine Nat.div_eq_of_lt_le ?_ ?_
    · rw [Nat.mul_comm]; omega
    · rw [Nat.mul_comm, Nat.mul_add]; omega
  rw [e]
theorem ell_mul {len n : Nat} (hn : 1 ≤ n) : len ≤ ellN len n * n ∧ ellN len n * n < len + n := by
  unfold ellN
  have h := Nat.div_add_mod (len + n - 1) n
  have h2 := Nat.mod_lt (len + n - 1) hn
  rw [Nat.mul_comm n] at h
  omega
theorem ell_le {len n : Nat} (hn : 16 ≤ n) (hl : len ≤ 256) : ellN len n ≤ 16 := by
  unfold ellN
  rw [Nat.div_le_iff_le_mul_add_pred (by omega)]
  have : 16 * n ≥ 16 * 16 := Nat.mul_le_mul_left 16 hn
  rw [Nat.mul_comm]
  omega
/-! what stays below a line -/
section
variable {h₀ h h' : Heap} {L : Addr} {m : PySem.Str → Option Value} {news : List (Addr × Obj)} {i1 : Nat}
theorem fr_kept (F : Fr h₀ L h m) (lL : @LT.lt Nat _ L i1) (kp : ∀ b o, @LT.lt Nat _ b i1 → h.get? b = some o → h'.get? b = some o) : Fr h₀ L h' m :=
  ⟨F.ns.at fun o e => kp L o lL e, fun b o e => kp b o (Nat.lt_trans (Nat.lt_of_lt_of_le (Heap.lt_size e) F.above) lL) (F.keep b o e), F.above⟩
theorem news_kept (N : News h₀ L h news) (hl : ∀ q ∈ news, @LT.lt Nat _ q.1 i1) (kp : ∀ b o, @LT.lt Nat _ b i1 → h.get? b = some o → h'.get? b = some o) : News h₀ L h' news :=
  fun q hq => ⟨kp _ _ (hl q hq) (N q hq).1, (N q hq).2⟩
end
/-! calls with keywords -/
section
variable {prog : Program} {w : World} {M : Model} {A : Around} {E : Value → Shared → Prop} {s : Shared} {h₀ : Heap} {L : Addr} {m : PySem.Str → Option Value} {news : List (Addr × Obj)} {env : Env}
theorem callWith_bkw {pos : Pos} {id : String} {first : List Value} {e : Expr} {rest : List Expr} {kws : List Keyword} {Q : Value → Shared → Prop}
    (h : wpAny M A (spliced (backTo pos (starEach (e :: rest) env))) (fun vs s₁ => wpAny M A (evalAll ((backToKw pos (keywordEach kws env)).map (·.2)))
      (fun ks s₂ => wpAny M A (call (.builtin id) (first ++ vs) (((backToKw pos (keywordEach kws env)).filterMap (·.1)).zip ks)) Q E s₂) E s₁) E s)
    (hplain : (backTo pos (starEach (e :: rest) env)).any (·.1) = false := by rfl) (hkw : (backToKw pos (keywordEach kws env)).any (·.1.isNone) = false := by rfl)
    (hall : (backToKw pos (keywordEach kws env)).all (·.1.isSome) = true := by rfl) (he : starEach (e :: rest) env = (false, eval e env) :: starEach rest env := by rfl) :
    wpAny M A (callWith pos (.builtin id) first (backTo pos (starEach (e :: rest) env)) (backToKw pos (keywordEach kws env))) Q E s :=
  callWith_builtin_kwB hplain hkw (evalArgs_kw2 hall h he)
theorem callWith_boundK {pos : Pos} {u : Addr} {first : List Value} {e : Expr} {rest : List Expr} {kws : List Keyword} {Q : Value → Shared → Prop}
    (h : wpAny M A (spliced (backTo pos (starEach (e :: rest) env))) (fun vs s₁ => wpAny M A (evalAll ((backToKw pos (keywordEach kws env)).map (·.2)))
      (fun ks s₂ => KFB.StandsAt u s₂.heap ∧ wpAny M A (call (.ref u) (first ++ vs) (((backToKw pos (keywordEach kws env)).filterMap (·.1)).zip ks)) Q E s₂) E s₁) E s)
    (hplain : (backTo pos (starEach (e :: rest) env)).any (·.1) = false := by rfl) (hkw : (backToKw pos (keywordEach kws env)).any (·.1.isNone) = false := by rfl)
    (hall : (backToKw pos (keywordEach kws env)).all (·.1.isSome) = true := by rfl) (he : starEach (e :: rest) env = (false, eval e env) :: starEach rest env := by rfl) :
    wpAny M A (callWith pos (.ref u) first (backTo pos (starEach (e :: rest) env)) (backToKw pos (keywordEach kws env))) Q E s := by
  have h' := evalArgs_kw2 (f := .ref u) (Q := fun x s₂ => KFB.StandsAt u s₂.heap ∧ wpAny M A (call (.ref u) (first ++ x.pos) x.kw) Q E s₂) hall h he
  unfold callWith
  refine wpAny_bind (wpAny_holding (wpAny_mono h' (fun x s₁ h₁ => wpAny_bind (wpAny_standAt ?_)) fun _ _ x => x))
  obtain ⟨ho, hcall⟩ := h₁
  simp only [hplain, hkw, Bool.or_false]
  refine wpAny_bind (m := keeperOf (.ref u)) ?_
  unfold keeperOf
  refine wpAny_bind (wpAny_load ho ?_)
  simp only [KFB.bound, show (Value.type "builtin_function_or_method" != Value.type "method") = true by decide, show (Value.type "builtin_function_or_method" == Value.type "builtin_function_or_method" || Value.type "builtin_function_or_method" == Value.type "method-wrapper") = true by decide, if_true]
  refine wpAny_pure ?_
  exact wpAny_bind (wpAny_mono hcall (fun r s₂ hr => wpAny_bind (wpAny_holding (wpAny_point (wpAny_pure hr)))) fun _ _ x => x)
theorem badd {b c : Array UInt8} {t u : Tok} {Q : Value → Shared → Prop} (hz : b.size + c.size ≤ 1000000) (h : ∀ t' k, Q (.bytes (b ++ c) t') { s with toks := k }) :
    wpAny (model prog w) A (binaryOp .Add (.bytes b t) (.bytes c u)) Q E s :=
  KBa.add_K (ks := KBw.bInts b) (ls := KBw.bInts c) rfl rfl (by rw [KBw.ints_length, KBw.ints_length]; omega) fun t' k _ => h t' k
end
end Mine
end
section
open PySem PySem.W PyProof.Rows PySem.Calls PySem.Spec
set_option Elab.async false
set_option maxRecDepth 100000
set_option maxHeartbeats 1000000
namespace Mine
/-! ## a for over a range whose turns may make generators -/
abbrev rIt (x left : Int) : Obj := { cls := .type "range_iterator", dict := none, data := .fields #[rawInt x, rawInt left, rawInt 1], slots := #[] }
section
variable {prog : Program} {w : World} {A : Around} {E : Value → Shared → Prop} {s : Shared} {env : Env} {h₀ : Heap} {x : PySem.Str} {body : List Stmt} {Q : Flow → Shared → Prop}
def StepR (h₀ : Heap) (env : Env) (s₁ : Shared) (n : Nat) (a₀ : Int) (i : Nat) (J : (PySem.Str → Option Value) → List (Addr × Obj) → Array GenState → Prop) (f : Flow) (s' : Shared) : Prop :=
  f = .next ∧ ∃ h' tk' g' m' news', s' = { s₁ with heap := h', toks := tk', gens := g' } ∧ Fr h₀ env.locals h' m' ∧
    News h₀ env.locals h' ((s₁.heap.objs.size, rIt (a₀ + ((i + 1 : Nat) : Int)) ((n : Int) - ((i + 1 : Nat) : Int))) :: news') ∧ (∀ p ∈ news', p.1 ≠ s₁.heap.objs.size) ∧ J m' news' g'
def LoopR (prog : Program) (w : World) (A : Around) (h₀ : Heap) (env : Env) (x : PySem.Str) (body : List Stmt) (Q : Flow → Shared → Prop) (n : Nat) (a₀ : Int) (J : (PySem.Str → Option Value) → Nat → (PySem.Str → Option Value) → List (Addr × Obj) → Array GenState → Prop) (xv : Value) (s₁ : Shared) : Prop :=
  ∃ (r : Addr) (b₀ : Int) (t₀ u₀ v₀ : Tok) (m₀ : PySem.Str → Option Value) (news₀ : List (Addr × Obj)), xv = .ref r ∧ IsRange s₁.heap r a₀ b₀ 1 t₀ u₀ v₀ ∧ Builtin.Range.small a₀ b₀ 1 = true ∧ Builtin.Range.rangeSize a₀ b₀ 1 = (n : Int) ∧
    Fr h₀ env.locals s₁.heap m₀ ∧ News h₀ env.locals s₁.heap news₀ ∧ J m₀ 0 m₀ news₀ s₁.gens ∧
    (∀ (i : Nat) m₁ news₁ g h tk t, i < n → J m₀ i m₁ news₁ g → (∀ p ∈ news₁, p.1 ≠ s₁.heap.objs.size) → Fr h₀ env.locals h (fun y => if y = x then some (.int (a₀ + (i : Int)) t) else m₁ y) → News h₀ env.locals h ((s₁.heap.objs.size, rIt (a₀ + ((i + 1 : Nat) : Int)) ((n : Int) - ((i + 1 : Nat) : Int))) :: news₁) →
      wpAny (model prog w) A (execs body env) (StepR h₀ env s₁ n a₀ i (J m₀ (i + 1))) (fun _ _ => False) { s₁ with heap := h, toks := tk, gens := g }) ∧
    (∀ m₁ news₁ g h tk, J m₀ n m₁ news₁ g → Fr h₀ env.locals h m₁ → News h₀ env.locals h news₁ → Q .next { s₁ with heap := h, toks := tk, gens := g })
theorem for_rangeG {px pos : Pos} {iter : Expr} {n : Nat} {a₀ : Int} {mm : PySem.Str → Option Value} (_F : Fr h₀ env.locals s.heap mm) (J : (PySem.Str → Option Value) → Nat → (PySem.Str → Option Value) → List (Addr × Obj) → Array GenState → Prop) (hh : A.handled = none) (hx : env.kindOf x = some .local)
    (hp : (env.scope.kind == .class || (env.scope.kind == .module && env.locals != env.globals)) = false)
    (h : wpAny (model prog w) A (eval iter env) (fun xv s₁ => LoopR prog w A h₀ env x body Q n a₀ J xv s₁) E s)
    (hs : ∀ x, foldedSetIterable iter env x = pure x := by intro _; rfl) :
    wpAny (model prog w) A (exec (.For (.Name x px) iter body [] pos) env) Q E s := by
  refine wpAny_For (wpAny_mono h (fun xv s₁ h₁ => ?_) fun _ _ e => e) hs
  obtain ⟨r, b₀, t₀, u₀, v₀, m₀, news₀, rfl, hr, hsmall, hsz, F, N, hJ, turn, done⟩ := h₁
  refine wpAny_pyIter_range hr hsmall ?_
  rw [hsz]
  have FI := F.push (rIt a₀ (n : Int))
  have NI : News h₀ env.locals (s₁.heap.push (rIt a₀ (n : Int))) ((s₁.heap.objs.size, rIt a₀ (n : Int)) :: news₀) := News.push F N _
  refine codeAny_forLoop (fun k s' => ∃ (i : Nat), ∃ m₁ news₁ g h tk, s' = { s₁ with heap := h, toks := tk, gens := g } ∧ Fr h₀ env.locals h m₁ ∧ News h₀ env.locals h ((s₁.heap.objs.size, rIt (a₀ + (i : Int)) ((n : Int) - (i : Int))) :: news₁) ∧ (∀ p ∈ news₁, p.1 ≠ s₁.heap.objs.size) ∧ J m₀ i m₁ news₁ g ∧ i ≤ n ∧ k = n + 1 - i) ?_ (n + 1)
    ⟨0, m₀, news₀, s₁.gens, _, _, rfl, FI, by simpa using NI, fun p hp => Nat.ne_of_lt (Heap.lt_size (N p hp).1), hJ, Nat.zero_le _, rfl⟩
  rintro k s' ⟨i, m₁, news₁, g, h, tk, rfl, F₁, N₁, hne, hJ₁, hi, rfl⟩
  have hit : IsRangeIter h s₁.heap.objs.size (a₀ + (i : Int)) ((n : Int) - (i : Int)) 1 := (N₁ _ (.head _)).1
  have hIL : s₁.heap.objs.size ≠ env.locals := (N₁ _ (.head _)).2.1
  have hI0 : h₀.get? s₁.heap.objs.size = none := (N₁ _ (.head _)).2.2
  by_cases hlt : i < n
  · refine wpAny_pyNext_range_item hit (by omega) fun h₂ hit₂ hs₂ => ?_
    have F₂ : Fr h₀ env.locals h₂ m₁ := ⟨F₁.ns.at fun o e => (hs₂.2 _ hIL.symm).trans e, fun b o e => (hs₂.2 b (fun q => by rw [q, hI0] at e; cases e)).trans (F₁.keep b o e), F₁.above⟩
    have N₂ : News h₀ env.locals h₂ ((s₁.heap.objs.size, rIt (a₀ + ((i + 1 : Nat) : Int)) ((n : Int) - ((i + 1 : Nat) : Int))) :: news₁) := fun p hp => by
      rcases List.mem_cons.mp hp with rfl | hp
      · have e1 : a₀ + ((i + 1 : Nat) : Int) = a₀ + (i : Int) + 1 := by omega
        have e2 : (n : Int) - ((i + 1 : Nat) : Int) = (n : Int) - (i : Int) - 1 := by omega
        rw [e1, e2]
        exact ⟨hit₂, hIL, hI0⟩
      · exact ⟨(hs₂.2 _ (hne p hp)).trans (N₁ p (.tail _ hp)).1, (N₁ p (.tail _ hp)).2⟩
    refine wpAny_assign_Name (wpAny_storeName_local hx F₂.ns (fun h₃ hn₃ hs₃ => ?_) hp)
    have F₃ := F₂.set hn₃ hs₃
    refine wpAny_mono (turn i m₁ news₁ g h₃ _ _ hlt hJ₁ hne F₃ (N₂.set hs₃)) (fun f s₄ h₄ => ?_) fun _ _ e => e.elim
    obtain ⟨rfl, h', tk', g', m', news', rfl, F', N', hne', hJ'⟩ := h₄
    exact ⟨n + 1 - (i + 1), by omega, i + 1, m', news', g', h', tk', rfl, F', N', hne', hJ', hlt, rfl⟩
  · have hin : i = n := by omega
    subst hin
    refine wpAny_pyNext_range_end hh hit (by omega) fun h₂ hx₂ => wpAny_execs_nil ?_
    refine done m₁ news₁ g h₂ tk hJ₁ ⟨F₁.ns.at fun o e => hx₂ _ o hIL.symm e, fun b o e => hx₂ b o (fun q => by rw [q, hI0] at e; cases e) (F₁.keep b o e), F₁.above⟩ fun p hp => ⟨hx₂ _ _ (hne p hp) (N₁ p (.tail _ hp)).1, (N₁ p (.tail _ hp)).2⟩
theorem upd_eq {x : PySem.Str} {v : PySem.Str → Option Value} {m₁ m₀ : PySem.Str → Option Value} (h : ∀ y, y ≠ x → m₁ y = m₀ y) : (fun y => if y = x then v y else m₁ y) = fun y => if y = x then v y else m₀ y := by
  funext y
  by_cases hy : y = x
  · rw [if_pos hy, if_pos hy]
  · rw [if_neg hy, if_neg hy, h y hy]
theorem upd_self {x : PySem.Str} {m₁ m₀ : PySem.Str → Option Value} (h : ∀ y, y ≠ x → m₁ y = m₀ y) : m₁ = fun y => if y = x then m₁ y else m₀ y := by
  funext y
  by_cases hy : y = x
  · rw [if_pos hy]
  · rw [if_neg hy, h y hy]
theorem off_eq3 {a b c : PySem.Str} {m₁ m₀ : PySem.Str → Option Value} (h : ∀ y, y ≠ a → y ≠ b → y ≠ c → m₁ y = m₀ y) : m₁ = fun y => if y = a then m₁ y else if y = b then m₁ y else if y = c then m₁ y else m₀ y := by
  funext y
  by_cases ha : y = a
  · rw [if_pos ha]
  · by_cases hb : y = b
    · rw [if_neg ha, if_pos hb]
    · by_cases hc : y = c
      · rw [if_neg ha, if_neg hb, if_pos hc]
      · rw [if_neg ha, if_neg hb, if_neg hc, h y ha hb hc]
/-! ## a list of octets' runs -/
inductive ByAre : List Value → List (List UInt8) → Prop
  | nil : ByAre [] []
  | cons {b : List UInt8} {t : Tok} {vs : List Value} {bs : List (List UInt8)} : ByAre vs bs → ByAre (.bytes b.toArray t :: vs) (b :: bs)
theorem ByAre.length {vs : List Value} {bs : List (List UInt8)} (h : ByAre vs bs) : vs.length = bs.length := by
  induction h with
  | nil => rfl
  | cons _ ih => rw [List.length_cons, List.length_cons, ih]
theorem ByAre.get {vs : List Value} {bs : List (List UInt8)} (h : ByAre vs bs) : ∀ {i : Nat} {b : List UInt8}, bs[i]? = some b → ∃ t, vs[i]? = some (.bytes b.toArray t) := by
  induction h with
  | nil => intro i b e; cases e
  | @cons c t vs bs _ ih =>
    intro i b e
    cases i with
    | zero => cases e; exact ⟨t, rfl⟩
    | succ i => exact ih e
theorem ByAre.append {vs : List Value} {bs : List (List UInt8)} (h : ByAre vs bs) (b : List UInt8) (t : Tok) : ByAre (vs ++ [.bytes b.toArray t]) (bs ++ [b]) := by
  induction h with
  | nil => exact .cons .nil
  | cons _ ih => exact .cons ih
theorem allLt_mem {d : Nat} {l : List (Addr × Obj)} (h : AllLt d l) : ∀ p ∈ l, @LT.lt Nat _ p.1 d := by
  induction l with
  | nil => intro p hp; exact absurd hp List.not_mem_nil
  | cons q r ih =>
    intro p hp
    rcases List.mem_cons.mp hp with rfl | hp
    · exact h.1
    · exact ih h.2 p hp
theorem item_at {value slice : Expr} {l : Addr} {vs : List Value} {nn : Nat} {k : Int} {u : Tok} {v : Value} {L : Addr} {news : List (Addr × Obj)} {QQ : Value → Shared → Prop} (N : News h₀ L s.heap news) (hm : (l, listOf vs.toArray nn) ∈ news) (h0 : 0 ≤ k) (hhi : k < 2 ^ 63) (hx : vs[k.toNat]? = some v) (h : QQ v s)
    (hs : subscripted slice false (.ref l) (.int k u) = operate [.ref l, .int k u] (getItem (.ref l) (.int k u)) := by with_unfolding_all rfl) :
    wpAny (model prog w) A (subscriptTail value slice (.ref l) (.int k u)) QQ E s :=
  have hl : s.heap.IsList l vs.toArray := ⟨_, (N _ hm).1, rfl, nn, rfl⟩
  tail_any hl.typeIs slot_list_getitem.lookup (wpAny_getItem_list hl h0 hhi (by simpa using hx) h) hs
theorem append_at' {L l : Addr} {m : PySem.Str → Option Value} {vs : List Value} {nn : Nat} {x : Value} {news : List (Addr × Obj)} {QQ : Value → Shared → Prop} (F : Fr h₀ L s.heap m) (N : News h₀ L s.heap ((l, listOf vs.toArray nn) :: news)) (hne : ∀ q ∈ news, q.1 ≠ l) (hz : vs.length ≤ 100000)
    (h : ∀ h', Fr h₀ L h' m → News h₀ L h' ((l, listOf (vs ++ [x]).toArray (nn + 1)) :: news) → QQ .none { s with heap := h' }) : wpAny (model prog w) A (call (.builtin "list.append") [.ref l, x]) QQ E s :=
  append_K F N (.head hne) (fun h' F' N' => h h' F' (by
    have e : (vs.toArray.push x) = (vs ++ [x]).toArray := by simp
    rw [e] at N'
    exact N')) (by rw [sizeLine_eq, List.size_toArray]; omega)
end
theorem mem_rot3 {α : Type} {q x y z : α} {r : List α} (h : q ∈ x :: y :: z :: r) : q ∈ y :: z :: x :: r := by
  simp only [List.mem_cons] at h ⊢
  rcases h with h | h | h | h
  · exact .inr (.inr (.inl h))
  · exact .inl h
  · exact .inr (.inl h)
  · exact .inr (.inr (.inr h))
end Mine
end
section
open PySem PySem.W PyProof.Rows PySem.Calls PySem.Spec
set_option Elab.async false
set_option maxRecDepth 100000
set_option maxHeartbeats 400000
namespace Mine
theorem slot_join : Slot "bytes" "join" "bytes.join" :=
  .of (owner := "bytes") (n := "join") (by rw [typeLookup_type, builtinLookup_eq_fast]; kernel_rfl) (by decide +kernel) (by decide +kernel) (by decide +kernel)
    (by first | exact .inl (by decide +kernel) | exact .inr (by decide +kernel)) (by rw [isSubtype_type]; kernel_rfl)
theorem type_join : typeOf (.builtin "bytes.join") = pure (.type "method_descriptor") := by show builtinType _ = _; rw [builtinType_eq_fast]; kernel_rfl
theorem entry_join : entryFor table "bytes.join" = some Builtin.«bytes.join» := by first | exact entryFor_of_tree (by kernel_rfl) | exact entryFor_of_fast (by kernel_rfl)
theorem args_join (a b : Value) : argsOk "bytes.join" ⟨[a, b], []⟩ := by unfold argsOk; kernel_rfl
theorem take_eq {id : String} {b : Array UInt8} {t : Tok} : Builtin.Bytes.takeBufferQuiet? id (.bytes b t) 0 = pure (some (b, none)) := by
  unfold Builtin.Bytes.takeBufferQuiet? Builtin.Bytes.takeBuffer?
  have hf : ((0 : Int) == Builtin.Bytes.fullReadOnly) = false := by decide
  rw [KBy.special_eq KBy.look_buffer, KBy.own_buffer]
  simp only [pure_bind, hf, KBy.buffer_eq]
  rfl
theorem joined_aux : ∀ (l : List (Array UInt8)) (k : Nat) (acc : Array UInt8), (l.zipIdx k).foldl (fun out (x : Array UInt8 × Nat) => (if x.2 > 0 then out ++ (#[] : Array UInt8) else out) ++ x.1) acc = acc ++ (l.map Array.toList).flatten.toArray
  | [], _, acc => by simp
  | p :: r, k, acc => by
    rw [List.zipIdx_cons, List.foldl_cons, joined_aux r]
    have e : (if k > 0 then acc ++ (#[] : Array UInt8) else acc) = acc := by split <;> simp
    dsimp only
    rw [e, List.map_cons, List.flatten_cons, Array.append_assoc]
    congr 1
    refine Array.ext' ?_
    simp
theorem joined_nil (l : List (Array UInt8)) : Builtin.Bytes.joined #[] l = (l.map Array.toList).flatten.toArray := by
  unfold Builtin.Bytes.joined
  have h := joined_aux l 0 #[]
  rw [Array.empty_append] at h
  exact h
theorem sizes_eq : ∀ (l : List (List UInt8)) (a : Nat), (l.map List.toArray).foldl (fun (x : Nat) (y : Array UInt8) => x + y.size) a = a + l.flatten.length
  | [], a => rfl
  | p :: r, a => by
    rw [List.map_cons, List.foldl_cons, sizes_eq r, List.flatten_cons, List.length_append, List.size_toArray, Nat.add_assoc]
theorem letGo_all {M : Model} {A : Around} {E : Value → Shared → Prop} {s : Shared} {keep : List Value} {Q : Unit → Shared → Prop} (h : Q () s) : ∀ (vs : List Value), wpAny M A (Builtin.Bytes.joinLetGo (vs.map fun v => (v, none)) keep) Q E s
  | [] => wpAny_pure h
  | v :: r => by
    show wpAny M A (letGo (v :: []) _ >>= fun _ => Builtin.Bytes.joinLetGo (r.map fun v => (v, none)) keep) Q E s
    exact wpAny_bind (wpAny_letGo (letGo_all h r))
theorem ByAre.noHeap {vs : List Value} {bs : List (List UInt8)} (h : ByAre vs bs) : ∀ v ∈ vs, v.onHeap = false := by
  induction h with
  | nil => intro v hv; exact absurd hv List.not_mem_nil
  | cons _ ih =>
    intro v hv
    rcases List.mem_cons.mp hv with rfl | hv
    · rfl
    · exact ih v hv
section
variable {prog : Program} {w : World} {A : Around} {E : Value → Shared → Prop} {s : Shared} {h₀ : Heap} {L : Addr} {m : PySem.Str → Option Value} {news : List (Addr × Obj)}
theorem join_method {M : Model} {b : Array UInt8} {t : Tok} {pl : Sem Bool} {Q : Value × List Value → Shared → Prop} (h : Q (.builtin "bytes.join", [.bytes b t]) s) : wpAny M A (getMethod (.bytes b t) (PySem.Str.ofString "join") pl) Q E s := by
  with_reducible exact KBd.method_of (.bytes b t) (typeIs_bytes _ _ _) slot_join type_join KBd.noRef h
theorem join_call {l : Addr} {vs : List Value} {bs : List (List UInt8)} {nn : Nat} {t : Tok} {Q : Value → Shared → Prop} (N : News h₀ L s.heap news) (hm : (l, listOf vs.toArray nn) ∈ news) (hb : ByAre vs bs) (hz : bs.flatten.length ≤ 100000) (h1 : 1 ≤ bs.length) (h2 : bs.length ≤ 1000)
    (h : ∀ t' k, Q (.bytes bs.flatten.toArray t') { s with toks := k }) : wpAny (model prog w) A (call (.builtin "bytes.join") [.bytes #[] t, .ref l]) Q E s := by
  have hget := (N _ hm).1
  refine wpAny_call_entry slot_join (typeIs_bytes s #[] t) entry_join ?_ (args_join _ _)
  show wpAny _ _ (Builtin.Bytes.joinM .bytes ⟨[.bytes #[] t, .ref l], []⟩) _ _ s
  unfold Builtin.Bytes.joinM
  refine wpAny_bind (wpAny_of_eq (a := (Value.bytes #[] t, Value.ref l)) (by first | rfl | kernel_rfl) ?_)
  have hT : s.TypeIs (.ref l) "list" := ⟨_, hget, rfl⟩
  dsimp only
  refine KFB.if_so (by decide +kernel) ?_
  unfold Builtin.Bytes.joinItems
  refine wpAny_bind (wpAny_bind (wpAny_typeOf hT ?_))
  refine KFB.if_so (by decide) ?_
  refine wpAny_pure ?_
  refine wpAny_bind (wpAny_seqItems hget rfl ?_)
  dsimp only
  refine KFB.if_so (by decide +kernel) ?_
  cases hb with
  | nil => exact absurd h1 (by decide)
  | @cons b t0 vs1 bs1 hb1 =>
    cases hb1 with
    | nil =>
      show wpAny _ _ (typeOf (.bytes b.toArray t0) >>= _) _ _ _
      refine wpAny_bind (wpAny_typeOf (typeIs_bytes s b.toArray t0) ?_)
      refine KFB.if_so (by decide) ?_
      refine wpAny_bind (wpAny_rule (wpAny_pure ⟨_, rfl, ?_⟩))
      have e : [b].flatten = b := by rw [List.flatten_cons, List.flatten_nil, List.append_nil]
      rw [e] at h
      exact h t0 s.toks
    | @cons b2 t2 vs2 bs2 hb2 =>
      show wpAny _ _ (forIn [:(Value.bytes b.toArray t0 :: Value.bytes b2.toArray t2 :: vs2).toArray.size] _ _ >>= _) _ _ _
      have hb : ByAre (Value.bytes b.toArray t0 :: Value.bytes b2.toArray t2 :: vs2) (b :: b2 :: bs2) := .cons (.cons hb2)
      generalize Value.bytes b.toArray t0 :: Value.bytes b2.toArray t2 :: vs2 = vs at *
      generalize b :: b2 :: bs2 = bs at *
      have hlen := hb.length
      rw [Std.Legacy.Range.forIn_eq_forIn_range']
      refine wpAny_bind (wpAny_forIn_list _ (fun rest (st : Array (Array UInt8) × List (Value × Option Value)) s' => s' = s ∧ ∃ i, i ≤ vs.length ∧ rest = List.range' i (vs.length - i) 1 ∧ st.1 = ((bs.take i).map List.toArray).toArray ∧ st.2 = (vs.take i).map fun v => (v, none)) _ ?_ ?_ _ _ ⟨rfl, 0, Nat.zero_le _, ?_, rfl, rfl⟩)
      · rintro x rest ⟨parts, taken⟩ s' ⟨rfl, i, hi, hrest, hp, ht⟩
        dsimp only at hp ht
        have hlt : i < vs.length := by
          rcases Nat.lt_or_ge i vs.length with h' | h'
          · exact h'
          · rw [show vs.length - i = 0 by omega] at hrest
            cases hrest
        obtain ⟨n, hn⟩ : ∃ n, vs.length - i = n + 1 := ⟨vs.length - i - 1, by omega⟩
        rw [hn, List.range'_succ] at hrest
        obtain ⟨rfl, rfl⟩ := List.cons.inj hrest
        have hbi : bs[x]? = some (bs[x]'(by omega)) := List.getElem?_eq_getElem (by omega)
        generalize bs[x]'(by omega) = bx at hbi
        obtain ⟨tx, htx⟩ := hb.get hbi
        have hx : vs.toArray.getD x Value.none = .bytes bx.toArray tx := by
          rw [Array.getD_eq_getD_getElem?, List.getElem?_toArray, htx]
          rfl
        refine wpAny_bind (wpAny_seqItems hget rfl ?_)
        dsimp only
        refine KFB.if_not ?_ ?_
        · rw [ht]
          have e : (Builtin.Bytes.Kind.bytes == Builtin.Bytes.Kind.bytearray) = false := by decide +kernel
          rw [e, Bool.false_or, List.any_eq_false]
          intro y hy
          obtain ⟨v, hv, rfl⟩ := List.mem_map.mp hy
          rw [hb.noHeap v (List.mem_of_mem_take hv)]
          exact Bool.false_ne_true
        rw [hx]
        refine wpAny_bind (wpAny_holding (wpAny_of_eq take_eq ?_))
        dsimp only
        refine wpAny_bind (wpAny_seqItems hget rfl ?_)
        dsimp only
        refine KFB.if_not (by simp) ?_
        refine wpAny_pure ⟨rfl, x + 1, hlt, ?_, ?_, ?_⟩
        · rw [show vs.length - (x + 1) = n by omega]
        · dsimp only
          rw [hp, List.take_add_one, hbi, List.map_append, List.push_toArray]
          rfl
        · dsimp only
          rw [ht, List.take_add_one, htx, List.map_append]
          rfl
      · rintro ⟨parts, taken⟩ s' ⟨rfl, i, hi, hrest, hp, ht⟩
        dsimp only at hp ht
        have hin : i = vs.length := by
          rcases Nat.lt_or_ge i vs.length with h' | h'
          · obtain ⟨n, hn⟩ : ∃ n, vs.length - i = n + 1 := ⟨vs.length - i - 1, by omega⟩
            rw [hn, List.range'_succ] at hrest
            cases hrest
          · omega
        subst hin
        rw [List.take_of_length_le (by omega)] at hp
        rw [List.take_of_length_le (Nat.le_refl _)] at ht
        subst hp ht
        dsimp only
        refine wpAny_bind (wpAny_of_eq (a := (#[] : Array UInt8)) rfl ?_)
        have hsum : Array.foldl (fun (x1 : Nat) (x2 : Array UInt8) => x1 + x2.size) ((#[] : Array UInt8).size * ((List.map List.toArray bs).toArray.size - 1)) (List.map List.toArray bs).toArray = bs.flatten.length := by
          rw [List.foldl_toArray, sizes_eq]
          simp
        refine KFB.if_not (by rw [hsum]; exact KBy.tooLong_not (by omega)) ?_
        have hj : Builtin.Bytes.joined #[] (List.map List.toArray bs).toArray.toList = bs.flatten.toArray := by
          rw [joined_nil]
          congr 2
          rw [List.map_map]
          conv => rhs; rw [← List.map_id bs]
          exact List.map_congr_left fun _ _ => rfl
        rw [hj]
        show wpAny _ _ (mkBytes bs.flatten.toArray >>= _) _ _ _
        refine wpAny_bind (wpAny_mkBytes ?_ (by rw [List.size_toArray, sizeLine_eq]; omega))
        refine wpAny_bind (wpAny_holding (wpAny_point ?_))
        refine wpAny_bind (letGo_all ?_ vs)
        exact wpAny_pure ⟨_, rfl, h _ _⟩
      · show List.range' 0 ([:vs.toArray.size] : Std.Legacy.Range).size 1 = _
        congr 1
        simp [Std.Legacy.Range.size]
end
/-! slices of octets -/
theorem bInts_inj {a b : List UInt8} (h : a.map (fun c => (c.toNat : Int)) = b.map fun c => (c.toNat : Int)) : a = b := octets_inj h
theorem picked_some (b : Array UInt8) (j k : Nat) : (KBy.picked b (some (j : Int)) (some (k : Int))).toList = (b.toList.drop j).take (k - j) := by
  have h := KBc.ints_picked (b := b) rfl (some (j : Int)) (some (k : Int))
  refine bInts_inj (h.trans ?_)
  show List.take (clipAt _ _ - clipAt _ _) (List.drop (clipAt _ _) _) = _
  rw [clipAt_nat, clipAt_nat]
  unfold KBw.bInts
  rw [List.length_map, ← List.map_drop, ← List.map_take]
  congr 1
  by_cases hj : j ≤ b.toList.length
  · rw [Nat.min_eq_left hj]
    by_cases hk : k ≤ b.toList.length
    · rw [Nat.min_eq_left hk]
    · rw [Nat.min_eq_right (by omega), List.take_of_length_le (by rw [List.length_drop]; omega), List.take_of_length_le (by rw [List.length_drop]; omega)]
  · have e : min j b.toList.length = b.toList.length := by omega
    rw [e, List.drop_of_length_le (Nat.le_refl _), List.drop_of_length_le (by omega), List.take_nil, List.take_nil]
theorem picked_none (b : Array UInt8) (k : Nat) : (KBy.picked b none (some (k : Int))).toList = b.toList.take k := by
  have h := KBc.ints_picked (b := b) rfl none (some (k : Int))
  refine bInts_inj (h.trans ?_)
  show List.take (clipAt _ _ - 0) (List.drop 0 _) = _
  rw [clipAt_nat, Nat.sub_zero, List.drop_zero]
  unfold KBw.bInts
  rw [List.length_map, ← List.map_take]
  congr 1
  by_cases hk : k ≤ b.toList.length
  · rw [Nat.min_eq_left hk]
  · rw [Nat.min_eq_right (by omega), List.take_of_length_le (Nat.le_refl _), List.take_of_length_le (by omega)]
end Mine
end
section
open PySem PySem.W PyProof.Rows PySem.Calls PySem.Spec
set_option Elab.async false
set_option maxRecDepth 100000
set_option maxHeartbeats 8000000
namespace Mine
theorem fill : True := by
  have h : (type_of% @Mine.hd) → True := by k_fill; intro _; trivial
  trivial
abbrev P17 : Program := PySem.Challenge.rw_kh0017_01.row.prog
end Mine
end
section
open PySem PySem.W PyProof.Rows PySem.Calls
open AutoSeq1 (wpAny_loadPart')
set_option Elab.async false
set_option maxRecDepth 100000
set_option maxHeartbeats 1000000
namespace Mine
/-! ## enumerate over a tuple -/
section
variable {prog : Program} {w : World} {A : Around} {E : Value → Shared → Prop} {s : Shared}
theorem nextOf_tup_item {it t : Addr} {i : Nat} {items : Array Value} {x : Value} {Q : Value → Shared → Prop} (hit : s.heap.IsTupleIter it t i) (ht : s.heap.IsTuple t items) (hx : items[i]? = some x)
    (hQ : ∀ h', h'.IsTupleIter it t (i + 1) → Heap.SameBut it s.heap h' → Q x { s with heap := h' }) : wpAny (model prog w) A (Builtin.SmallTypes.nextOf (.ref it)) Q E s := by
  obtain ⟨o, ho, hc, hd⟩ := id hit
  obtain ⟨ol, hol, _, nl, hdl⟩ := ht
  unfold Builtin.SmallTypes.nextOf
  refine wpAny_bind (wpAny_callSpecial?_slot (name := PySem.Str.ofString "__next__") hit.typeIs PySem.F.slot_tuple_iterator_next
    (wpAny_call_entry PySem.F.slot_tuple_iterator_next hit.typeIs PySem.F.entry_tuple_iterator_next ?_ (PySem.F.args_tuple_iterator_next_1 _)))
  show wpAny _ _ (field (.ref it) 0 >>= _) _ _ s
  refine wpAny_bind (wpAny_field ho hd (x := .ref t) rfl ?_)
  show wpAny _ _ (if (Value.ref t == Value.none) = true then _ else _) _ _ s
  rw [if_neg (show ¬ ((Value.ref t == Value.none) = true) from Bool.false_ne_true)]
  show wpAny _ _ (field (.ref it) 1 >>= _) _ _ s
  refine wpAny_bind (wpAny_field ho hd (x := .int i 0) rfl ?_)
  show wpAny _ _ (seqItems? (.ref t) >>= _) _ _ s
  refine wpAny_bind (wpAny_seqItems hol hdl ?_)
  simp only [Int.toNat_natCast, hx]
  refine wpAny_bind (wpAny_setField ho hd (by simp) (wpAny_pure ⟨x, rfl, wpAny_pure (hQ _ ?_ (Heap.SameBut.update ..))⟩))
  exact ⟨_, Heap.get?_update_self _ ho (Obj.isFreed_of_fields (Obj.data_mapFields hd _)), (Obj.cls_mapFields ..).trans hc, by
    rw [Obj.data_mapFields hd]; simp [rawInt]⟩
theorem nextOf_tup_end {it t : Addr} {i : Nat} {items : Array Value} {Q : Value → Shared → Prop} (hh : A.handled = none) (hit : s.heap.IsTupleIter it t i) (ht : s.heap.IsTuple t items) (hx : items[i]? = none)
    (hE : ∀ h' e, Heap.ExtBut it s.heap h' → (∃ o, h'.get? e = some o ∧ o.cls = .type "StopIteration") → E (.ref e) { s with heap := h' }) :
    wpAny (model prog w) A (Builtin.SmallTypes.nextOf (.ref it)) Q E s := by
  obtain ⟨o, ho, hc, hd⟩ := id hit
  obtain ⟨ol, hol, _, nl, hdl⟩ := ht
  unfold Builtin.SmallTypes.nextOf
  refine wpAny_bind (wpAny_callSpecial?_slot (name := PySem.Str.ofString "__next__") hit.typeIs PySem.F.slot_tuple_iterator_next
    (wpAny_call_entry PySem.F.slot_tuple_iterator_next hit.typeIs PySem.F.entry_tuple_iterator_next ?_ (PySem.F.args_tuple_iterator_next_1 _)))
  show wpAny _ _ (field (.ref it) 0 >>= _) _ _ s
  refine wpAny_bind (wpAny_field ho hd (x := .ref t) rfl ?_)
  show wpAny _ _ (if (Value.ref t == Value.none) = true then _ else _) _ _ s
  rw [if_neg (show ¬ ((Value.ref t == Value.none) = true) from Bool.false_ne_true)]
  show wpAny _ _ (field (.ref it) 1 >>= _) _ _ s
  refine wpAny_bind (wpAny_field ho hd (x := .int i 0) rfl ?_)
  show wpAny _ _ (seqItems? (.ref t) >>= _) _ _ s
  refine wpAny_bind (wpAny_seqItems hol hdl ?_)
  simp only [Int.toNat_natCast, hx]
  refine wpAny_bind (wpAny_rule (wpAny_bind (wpAny_setField ho hd (by simp) ?_)))
  show wpAny _ _ (newExc (.type "StopIteration") [] >>= _) _ _ _
  refine wpAny_bind ?_
  simp only [newExc, newTuple]
  refine wpAny_bind (wpAny_newObj_type ?_ (by size_fits))
  refine wpAny_bind (m := firstArgMember _ _) (wpAny_of_eq (a := Value.none) (by first | rfl | (simp only [firstArgMember]; rfl)) ?_)
  refine wpAny_newObj_type ?_ (by size_fits)
  simp only [raiseNew]
  refine wpAny_bind (wpAny_handled ?_)
  rw [show A.in1.handled = none from hh]
  refine wpAny_bind (wpAny_pure (wpAny_throw ?_))
  exact hE _ _ (((Heap.SameBut.update ..).extBut.push _).push _) ⟨_, Heap.get?_push_size _ rfl, rfl⟩
theorem draws_tup {it t : Addr} (hh : A.handled = none) (hne : t ≠ it) (items : Array Value) :
    Draws prog w A it [it, t] items.size (fun i v => items[i]? = some v) (fun i h => h.IsTupleIter it t i ∧ h.IsTuple t items) where
  live := fun _ _ st => let ⟨o, ho, _⟩ := st.1; ⟨o, ho⟩
  frame := fun _ _ _ st hk => ⟨let ⟨o, ho, r⟩ := st.1; ⟨o, hk it (by simp) o ho, r⟩, let ⟨o, ho, r⟩ := st.2; ⟨o, hk t (by simp) o ho, r⟩⟩
  item := fun i s Q E hi st hQ => nextOf_tup_item st.1 st.2 (x := items[i]) (by simp [hi]) fun h' hit' hs' => hQ _ h' s.toks (by simp [hi]) ⟨hit', st.2.extBut hs'.extBut hne⟩ hs'
  done := fun s Q E st hE => nextOf_tup_end hh st.1 st.2 (by simp) hE
abbrev tupItO (t : Addr) : Obj := { cls := .type "tuple_iterator", data := .fields #[.ref t, .int 0 0] }
abbrev enumO (it : Addr) : Obj := { cls := .type "enumerate", data := .fields #[.none, .bool false, .ref it, rawInt 0, .none, .none] }
theorem meets_enum_tup (t : Addr) (items : Array Value) (n : Nat) (dct : Option Addr) (sl : Array (Option Value)) :
    Meets (Builtin.«enumerate.__new__» ⟨[.type "enumerate", .ref t], []⟩) (fun _ R s => s.heap.get? t = some { cls := .type "tuple", dict := dct, data := .seq items n, slots := sl } ∧
      R (.ok (.ret (.ref (s.heap.push (tupItO t)).objs.size))) { s with heap := (s.heap.push (tupItO t)).push (enumO s.heap.objs.size) }) :=
  .of_wp fun prog w A R s h => by
    obtain ⟨hp, g, d, tk, os⟩ := s; obtain ⟨hl, h⟩ := h
    have hsub := sub_enumerate
    have hL : Heap.IsTuple (Shared.heap ⟨hp, g, d, tk, os⟩) t items := ⟨_, hl, rfl, n, rfl⟩
    wp_walk using wpAny_loadPart' hl
    refine wpAny_stack_any fun st => wpAny_pure ?_
    split
    · rename_i c _ _ _ _ _
      cases (c == Value.type "enumerate")
      · wp_walk using wpAny_loadPart' hl, wpAny_pyIter_tuple hL
        exact ⟨_, rfl, h⟩
      · wp_walk using wpAny_loadPart' hl, wpAny_pyIter_tuple hL
        exact ⟨_, rfl, h⟩
    · wp_walk using wpAny_loadPart' hl, wpAny_pyIter_tuple hL
      exact ⟨_, rfl, h⟩
theorem call_enum_tup {t : Addr} {o : Obj} {items : Array Value} {n : Nat} {Q : Value → Shared → Prop} (ho : s.heap.get? t = some o) (hc : o.cls = .type "tuple") (hd : o.data = .seq items n)
    (h : Q (.ref (s.heap.objs.size + 1)) { s with heap := (s.heap.push (tupItO t)).push (enumO s.heap.objs.size) }) :
    wpAny (model prog w) A (call (.type "enumerate") [.ref t]) Q E s := by
  obtain ⟨c, dct, dt, sl⟩ := o
  replace hc : c = .type "tuple" := hc
  replace hd : dt = .seq items n := hd
  subst hc hd
  refine callType_new PySem.F.called_enumerate (by decide) (PySem.F.typeCall_enumerate_1 _) (PySem.F.newCall_enumerate_1 _) (fun obj => PySem.F.args_object_init_2 obj _) PySem.F.entry_enumerate_new
    (meets_enum_tup t items n dct sl) ⟨ho, ?_⟩
  have hz : (s.heap.push (tupItO t)).objs.size = s.heap.objs.size + 1 := Heap.size_push ..
  have he := Heap.get?_push_size (s.heap.push (tupItO t)) (o := enumO s.heap.objs.size) rfl
  show _ ∧ _
  refine ⟨⟨_, he, rfl⟩, ?_⟩
  rw [hz]
  exact h
end
end Mine
end
section
open PySem PySem.W PyProof.Rows PySem.Calls PySem.Spec
set_option Elab.async false
set_option maxRecDepth 100000
set_option maxHeartbeats 1000000
namespace Mine
/-! ## [(i, c) for i, c in enumerate(t) if c], for a tuple t of two ints 1, 0 -/
section
variable {prog : Program} {w : World} {A : Around} {E : Value → Shared → Prop} {s : Shared} {h₀ : Heap} {L : Addr} {m : PySem.Str → Option Value} {env : Env}
theorem comp_enum {iter : PySem.Expr} {pa pb tp p1 p2 p3 p4 pos : Pos} {kk kt : Nat} {scope : Scope} {cl : List (PySem.Str × Addr)} {Q : Value → Shared → Prop} (_F₀ : Fr h₀ L s.heap m)
    (hclos : closureFor scope env = pure cl) (hcell : ∀ y ∈ scope.names, y.2 ≠ .cell) (hkind : scope.kind = .function)
    (hnames : ∀ y ∈ scope.names, y.2 = .local → scope.names.lookup y.1 = some .local) (hxa : scope.names.lookup (PySem.Str.ofString "i") = some .local) (hxb : scope.names.lookup (PySem.Str.ofString "c") = some .local)
    (h : wpAny (model prog w) A (eval iter env) (fun xv s₁ => ∃ (e it t : Addr) (ot : Obj) (t1 t2 : Tok) (k : Nat) (news : List (Addr × Obj)), xv = .ref e ∧ A.handled = none ∧ Fr h₀ L s₁.heap m ∧ News h₀ L s₁.heap ((e, enumO it) :: (it, tupItO t) :: news) ∧
      (t, ot) ∈ news ∧ ot.cls = .type "tuple" ∧ ot.data = .seq #[.int 1 t1, .int 0 t2] k ∧ it < e ∧ (∀ q ∈ news, q.1 < it) ∧ (∀ D h tk, Fr h₀ L h m → News h₀ L h news → Q (.ref D) { s₁ with heap := h, toks := tk })) E s)
    (hs : ∀ x, foldedSetIterable iter env x = pure x := by intro _; rfl) :
    wpAny (model prog w) A (eval (.ListComp (.Tuple [.Name (PySem.Str.ofString "i") p1, .Name (PySem.Str.ofString "c") p2] kt p3) [⟨.Tuple [.Name (PySem.Str.ofString "i") pa, .Name (PySem.Str.ofString "c") pb] kk tp, iter, [.Name (PySem.Str.ofString "c") p4], 0⟩] scope pos) env) Q E s := by
  rw [eval_ListComp]
  refine wpAny_comprehension_free (use := none) rfl hs hclos hkind hnames (wpAny_mono h (fun xv s₁ h₁ => ?_) fun _ _ e => e)
  obtain ⟨e, it, t, ot, t1, t2, k, news, rfl, hh, F, N, hm, hc, hd, hie, hlt, hQ⟩ := h₁
  have he : IsEnum s₁.heap e it 0 .none := (N _ (.head _)).1
  have hti : s₁.heap.IsTupleIter it t 0 := ⟨_, (N _ (.tail _ (.head _))).1, rfl, rfl⟩
  have htu : s₁.heap.IsTuple t #[.int 1 t1, .int 0 t2] := ⟨_, (N _ (.tail _ (.tail _ hm))).1, hc, _, hd⟩
  have hti' : t ≠ it := Nat.ne_of_lt (hlt _ hm)
  have hte : t ≠ e := Nat.ne_of_lt (Nat.lt_trans (hlt _ hm) hie)
  have hei : e ≠ it := Nat.ne_of_gt hie
  have hLe : L ≠ e := Ne.symm (N _ (.head _)).2.1
  have hLi : L ≠ it := Ne.symm (N _ (.tail _ (.head _))).2.1
  have he₀ : h₀.get? e = none := (N _ (.head _)).2.2
  have hi₀ : h₀.get? it = none := (N _ (.tail _ (.head _))).2.2
  have W := WalksT.enumerateD (prog := prog) (w := w) (A := A) (draws_tup (A := A.in1) hh hti' #[.int 1 t1, .int 0 t2]) e hei (by
    simp only [List.mem_cons, List.not_mem_nil, or_false, not_or]; exact ⟨hei, Ne.symm hte⟩) (by simp)
  refine wpAny_pyIter_enum he ?_
  refine wpAny_newObj_type (wpAny_newFunctionEnv hcell (by intro y hy; simp at hy) (fun h₁ hns₁ hsb₁ => ?_) hkind)
  dsimp only at hns₁ hsb₁ ⊢
  generalize hH2 : s₁.heap.push { cls := .type "list", dict := none, data := .seq ([] : List Value).toArray } = H2 at hns₁ hsb₁ ⊢
  have hC : H2.objs.size = s₁.heap.objs.size + 1 := by rw [← hH2, Heap.size_push]
  have hDC : s₁.heap.objs.size ≠ H2.objs.size := by rw [hC]; exact Nat.ne_of_lt (Nat.lt_succ_self _)
  have below : ∀ b o, s₁.heap.get? b = some o → b ≠ H2.objs.size ∧ b ≠ s₁.heap.objs.size := fun b o e => ⟨by rw [hC]; exact Nat.ne_of_lt (Nat.lt_succ_of_lt (Heap.lt_size e)), Nat.ne_of_lt (Heap.lt_size e)⟩
  have old : ∀ b o, s₁.heap.get? b = some o → h₁.get? b = some o := fun b o e => hsb₁.extBut b o (below b o e).1 (Heap.get?_push_of_some _ (hH2 ▸ Heap.get?_push_of_some _ e))
  have hacc : h₁.get? s₁.heap.objs.size = some { cls := .type "list", data := .seq ([] : List Value).toArray 0 } := hsb₁.extBut _ _ hDC (Heap.get?_push_of_some _ (hH2 ▸ Heap.get?_push_size _ rfl))
  generalize hDe : s₁.heap.objs.size = D at *
  generalize hCe : H2.objs.size = C at *
  have hCel : C ≠ e := Ne.symm (below _ _ he).1
  have hCit : C ≠ it := by obtain ⟨o, ho, _⟩ := hti; exact Ne.symm (below _ _ ho).1
  have hDel : D ≠ e := Ne.symm (below _ _ he).2
  have hDit : D ≠ it := by obtain ⟨o, ho, _⟩ := hti; exact Ne.symm (below _ _ ho).2
  have kf : (compEnvC scope cl C env).scope.kind = .function := hkind
  have ka : (compEnvC scope cl C env).kindOf (PySem.Str.ofString "i") = some .local := lookup_relabel_local hxa
  have kb : (compEnvC scope cl C env).kindOf (PySem.Str.ofString "c") = some .local := lookup_relabel_local hxb
  have fin : ∀ h' tk, (∀ b o, b ≠ e → b ≠ it → s₁.heap.get? b = some o → h'.get? b = some o) → Q (.ref D) { s₁ with heap := h', toks := tk } := fun h' tk kp =>
    hQ D h' tk ⟨F.ns.at' fun o x => kp L o hLe hLi x, fun b o x => kp b o (fun q => by rw [q, he₀] at x; cases x) (fun q => by rw [q, hi₀] at x; cases x) (F.keep b o x), F.above⟩ fun q hq =>
      ⟨kp _ _ (Nat.ne_of_lt (Nat.lt_trans (hlt q hq) hie)) (Nat.ne_of_lt (hlt q hq)) (N q (.tail _ (.tail _ hq))).1, (N q (.tail _ (.tail _ hq))).2⟩
  have loop : ∀ (s₃ : Shared), s₃ = { s₁ with heap := h₁, toks := s₁.toks + ([] : List (PySem.Str × Value)).length } →
      codeAny (model prog w) A (.compLoop (.ListComp (.Tuple [.Name (PySem.Str.ofString "i") p1, .Name (PySem.Str.ofString "c") p2] kt p3) [⟨.Tuple [.Name (PySem.Str.ofString "i") pa, .Name (PySem.Str.ofString "c") pb] kk tp, iter, [.Name (PySem.Str.ofString "c") p4], 0⟩] scope pos) 0 (.ref e) (.ref D) (compEnvC scope cl C env))
        (compPost (model prog w) A E none Q (.ref D) C) s₃ := by
    rintro s₃ rfl
    refine kct_loop
      (fun kn s' => ∃ h' tk i ys m' n, s' = { s₁ with heap := h', toks := tk } ∧ i ≤ 2 ∧ kn = 3 - i ∧ ys.length ≤ i ∧ (∃ old, IsEnum h' e it (i : Nat) old) ∧ (h'.IsTupleIter it t i ∧ h'.IsTuple t #[.int 1 t1, .int 0 t2]) ∧ h'.Ns C m' ∧
        h'.get? D = some { cls := .type "list", data := .seq (List.toArray ys) n } ∧ (∀ b o, b ≠ e → b ≠ it → s₁.heap.get? b = some o → h'.get? b = some o)) ?_ 3
      ⟨h₁, _, 0, [], _, 0, rfl, by omega, rfl, Nat.le_refl _, ⟨_, old _ _ he⟩, ⟨let ⟨o, ho, r⟩ := hti; ⟨o, old _ _ ho, r⟩, let ⟨o, ho, r⟩ := htu; ⟨o, old _ _ ho, r⟩⟩, hns₁, hacc, fun b o _ _ x => old b o x⟩
    rintro kn s' ⟨h', tk, i, ys, m', n, rfl, hi, rfl, hyl, ⟨old', he'⟩, hst', hn', hD', kp'⟩
    by_cases hi2 : i < 2
    · refine W.item i _ _ _ hi2 ⟨⟨old', he'⟩, hst'⟩ fun T vals h₂ tk₂ hPt _ hT hMid hk₂ => ?_
      dsimp only
      have hTap := W.apart i T h₂ hMid
      refine W.go _ _ _ i T _ _ _ hMid fun h₃ hst₃ hk₃ => ?_
      obtain ⟨t', x, hx, rfl⟩ := hPt
      have hT₃ : h₃.IsTuple T #[.int i t', x] := let ⟨o, ho, r⟩ := hT; ⟨o, hk₃ T o hTap ho, r⟩
      have up₃ : ∀ b o, b ≠ e → b ≠ it → h'.get? b = some o → h₃.get? b = some o := fun b o b1 b2 z => hk₃ b o (by simp [b1, b2]) (hk₂ b o (by simp [b1, b2]) z)
      refine kcp_assign (env := compEnvC scope cl C env) hh hT₃ ka kb (by simp [compEnvC, relabel, hkind]) (hn'.at' fun o z => up₃ C o hCel hCit z) fun h₄ tk₄ hn₄ hs₄ => ?_
      have up₄ : ∀ b o, b ≠ e → b ≠ it → b ≠ C → h'.get? b = some o → h₄.get? b = some o := fun b o b1 b2 b3 z => hs₄ b o b3 (up₃ b o b1 b2 z)
      have hD₄ := up₄ D _ hDel hDit hDC hD'
      have kp₄ : ∀ b o, b ≠ e → b ≠ it → s₁.heap.get? b = some o → h₄.get? b = some o := fun b o b1 b2 z => up₄ b o b1 b2 (below b o z).1 (kp' b o b1 b2 z)
      obtain ⟨⟨old₃, he₃⟩, hti₃, htu₃⟩ := hst₃
      have he₄ : IsEnum h₄ e it ((i + 1 : Nat) : Int) old₃ := hs₄ e _ (Ne.symm hCel) he₃
      have hti₄ : h₄.IsTupleIter it t (i + 1) := let ⟨o, ho, r⟩ := hti₃; ⟨o, hs₄ it o (Ne.symm hCit) ho, r⟩
      have htu₄ : h₄.IsTuple t #[.int 1 t1, .int 0 t2] := let ⟨o, ho, r⟩ := htu; ⟨o, kp₄ t o hte hti' ho, r⟩
      refine isTrue_plain (wpAny_Name (wpAny_loadName_local kf kb hn₄ (if_pos rfl) ?_) (by decide))
      rcases (by omega : i = 0 ∨ i = 1) with rfl | rfl
      · obtain rfl : Value.int 1 t1 = x := by simpa using hx
        refine truthy_int ?_
        show (if ((1 : Int) != 0) = true then _ else _)
        rw [if_pos (by decide)]
        refine wpAny_Tuple_spliced (spliced_more (wpAny_Name (wpAny_loadName_local kf ka hn₄ ((if_neg (by decide)).trans (if_pos rfl)) ?_) (by decide)))
        refine spliced_more (wpAny_Name (wpAny_loadName_local kf kb hn₄ (if_pos rfl) ?_) (by decide))
        refine spliced_none ⟨by size_fits, ?_⟩
        have up₅ : ∀ b o, h₄.get? b = some o → (h₄.push { cls := .type "tuple", data := .seq (List.toArray [Value.int ((0 : Nat) : Int) t', Value.int 1 t1]) }).get? b = some o := fun b o z => Heap.get?_push_of_some _ z
        refine append_at (hsz := by rw [List.size_toArray, sizeLine_eq]; omega) (up₅ _ _ hD₄) fun h₆ hs₆ hD₆ => ?_
        have up₆ : ∀ b o, b ≠ D → h₄.get? b = some o → h₆.get? b = some o := fun b o b1 z => hs₆.extBut b o b1 (up₅ b o z)
        refine ⟨2, by decide, h₆, _, 1, ys ++ [.ref h₄.objs.size], _, n + 1, rfl, by omega, rfl, by rw [List.length_append, List.length_singleton]; omega, ⟨old₃, up₆ e _ (Ne.symm hDel) he₄⟩,
          ⟨let ⟨o, ho, r⟩ := hti₄; ⟨o, up₆ it o (Ne.symm hDit) ho, r⟩, let ⟨o, ho, r⟩ := htu₄; ⟨o, up₆ t o (below t _ (N _ (.tail _ (.tail _ hm))).1).2 ho, r⟩⟩, hn₄.at' fun o z => up₆ C o (Ne.symm hDC) z, hD₆.trans (by rw [List.push_toArray]), fun b o b1 b2 z => up₆ b o (below b o z).2 (kp₄ b o b1 b2 z)⟩
      · obtain rfl : Value.int 0 t2 = x := by simpa using hx
        refine truthy_int ?_
        show (if ((0 : Int) != 0) = true then _ else _)
        rw [if_neg (by decide)]
        exact ⟨1, by decide, h₄, _, 2, ys, _, n, rfl, by omega, rfl, by omega, ⟨old₃, he₄⟩, ⟨hti₄, htu₄⟩, hn₄, hD₄, kp₄⟩
    · have hin : i = 2 := by omega
      subst hin
      refine W.done _ _ _ ⟨⟨old', he'⟩, hst'⟩ fun h₂ tk₂ hk₂ => ?_
      refine ⟨m', hn'.at' fun o z => hk₂ C o (by simp [hCel, hCit]) z, fun h'' hs'' => ?_⟩
      exact fin h'' tk₂ fun b o b1 b2 z => hs''.extBut b o (below b o z).1 (hk₂ b o (by simp [b1, b2]) (kp' b o b1 b2 z))
  refine codeAny_compStart_list (loop _ rfl) (wpAny_pyIter_enum (old _ _ he) (loop _ rfl))
end
end Mine
end
section
open PySem PySem.W PyProof.Rows PySem.Calls PySem.Spec
set_option Elab.async false
set_option maxRecDepth 100000
set_option maxHeartbeats 1000000
namespace Mine
/-! ## (coeff % self.field_modulus for coeff in coeffs), for a list of two ints -/
section
variable {prog : Program} {w : World} {A : Around} {E : Value → Shared → Prop} {s : Shared} {h₀ : Heap} {L : Addr} {m mg mb : PySem.Str → Option Value} {p : Program} {loose : List PySem.Str} {mean : ExcName → Option Value}
theorem gen_mod {env : Env} {c P cc x : Addr} {ps : Array Value} {iter : Expr} {pa p1 p2 p3 p4 pos : Pos} {scope : Scope} {cl : List (PySem.Str × Addr)} {pm : Int} {tp : Tok} {Q : Value → Shared → Prop}
    (_F : Fr h₀ L s.heap m) (T : Top p loose mean mg mb h₀) (C : CodeHd h₀ c P) (hcode : env.code = .ref c) (hgl : env.globals = mainGlobals)
    (hh : A.handled = none) (hco : scope.isCoroutine = false) (hclos : closureFor scope env = pure cl) (hcell : ∀ y ∈ scope.names, y.2 ≠ .cell) (h0 : scope.names.lookup (".0" : PySem.Str) = some NameKind.local)
    (hxa : scope.names.lookup (PySem.Str.ofString "coeff") = some .local) (hxs : scope.names.lookup (PySem.Str.ofString "self") = some .free) (hcc : cl.lookup (PySem.Str.ofString "self") = some cc) (hkind : scope.kind = .function) (hroom : A.depth < recursionLimit) (hpm : pm ≠ 0)
    (h : wpAny (model prog w) A (eval iter env) (fun xv s₁ => ∃ (e : Addr) (v1 v2 : Int) (t1 t2 : Tok) (k : Nat) (oc : Obj) (news : List (Addr × Obj)), xv = .ref e ∧ Fr h₀ L s₁.heap m ∧ News h₀ L s₁.heap ((P, tabObj ps) :: news) ∧
      (e, listOf #[.int v1 t1, .int v2 t2] k) ∈ news ∧ (cc, oc) ∈ news ∧ oc.data = .cell (some (.ref x)) ∧ TriplesOk ps.toList ∧ AllBare s₁.gens ∧ (∀ q ∈ news, q.1 ≠ P) ∧
      (∀ (A' : Around) (E' Q' : Value → Shared → Prop) (u : Shared) (ps' : Array Value), Fr h₀ L u.heap m → News h₀ L u.heap ((P, tabObj ps') :: news) → Q' (.int pm tp) { u with toks := u.toks + 1 } → wpAny (model prog w) A' (getAttr (.ref x) (PySem.Str.ofString "field_modulus") true) Q' E' u) ∧
      (∀ (a : Addr) (g : Nat) fp wr St (ps' : Array Value) h5 tk5 g5, WalksS prog w A.in4 a fp wr (GenOnlyQ g) 2 (fun i v => ∃ t, v = .int ([v1.fmod pm, v2.fmod pm].getD i 0) t) St → (∀ i s', St i s' → s'.heap.IsGen a g) → St 0 { s₁ with heap := h5, toks := tk5, gens := g5 } →
        (∀ b ∈ fp, b < h5.objs.size) → (∀ b ∈ wr, s₁.heap.objs.size ≤ b) → Fr h₀ L h5 m → News h₀ L h5 ((P, tabObj ps') :: news) → TriplesOk ps'.toList → AllBare g5 → a ∈ fp → Q (.ref a) { s₁ with heap := h5, toks := tk5, gens := g5 })) E s)
    (hs : ∀ x, genFold iter env x = pure x) :
    wpAny (model prog w) A (eval (.GeneratorExp (.BinOp (.Name (PySem.Str.ofString "coeff") p1) .Mod (.Attribute (.Name (PySem.Str.ofString "self") p2) (PySem.Str.ofString "field_modulus") p3) p4) [⟨.Name (PySem.Str.ofString "coeff") pa, iter, [], 0⟩] scope pos) env) Q E s := by
  refine wpAny_GeneratorExp_walksQD hh hco hclos hcell h0 hxa hkind hroom (wpAny_mono h (fun xv s₁ h₁ => ?_) fun _ _ e => e) hs
  obtain ⟨e, v1, v2, t1, t2, k, oc, news, rfl, F, N, hme, hmc, hoc, hps, G, hnw, hget, hQ⟩ := h₁
  have hlim : s₁.heap.NoLimit := T.nolimit.keeps F.keep
  have hL : s₁.heap.IsList e #[.int v1 t1, .int v2 t2] := ⟨_, (N _ (.tail _ hme)).1, rfl, _, rfl⟩
  have hes : @LT.lt Nat _ e s₁.heap.objs.size := Heap.lt_size (N _ (.tail _ hme)).1
  have hPs : @LT.lt Nat _ P s₁.heap.objs.size := Heap.lt_size (N _ (.head _)).1
  have hLs : @LT.lt Nat _ L s₁.heap.objs.size := F.ns.lt
  refine wpAny_pyIter_list hL ⟨hlim.keeps fun b o z => Heap.get?_push_of_some _ z, ?_⟩
  have hI₂ : (s₁.heap.push { cls := .type "list_iterator", data := .fields #[.ref e, .int 0 0] }).IsListIter s₁.heap.objs.size e 0 := ⟨_, Heap.get?_push_size _ rfl, rfl, rfl⟩
  have up₂ : ∀ b o, s₁.heap.get? b = some o → (s₁.heap.push { cls := .type "list_iterator", data := .fields #[.ref e, .int 0 0] }).get? b = some o := fun b o z => Heap.get?_push_of_some _ z
  generalize s₁.heap.push { cls := .type "list_iterator", data := .fields #[.ref e, .int 0 0] } = H at hI₂ up₂ ⊢
  have FH : Fr h₀ L H m := F.keeps up₂
  have hP := up₂ _ _ (N _ (.head _)).1
  have C₁ : CodeHd H c P := C.keeps FH.keep
  refine code_any hcode C₁ hP hps fun code h₃ tk₃ ps' hx₃ hP₃ hps₃ hsz₃ => ?_
  obtain ⟨bm, ob, M⟩ := bmod_any T
  have M₃ : BMod h₃ mainGlobals mg bm ob := (M.keeps FH.keep).extBut (C₁.tab hP) hx₃
  have hIP : s₁.heap.objs.size ≠ P := Nat.ne_of_gt hPs
  have hlH : H.NoLimit := hlim.keeps up₂
  have hcP : cStatics ≠ P := fun q => by
    obtain ⟨_, hns, _⟩ := hlim
    obtain ⟨o, es, ep, ho, hd, _⟩ := hns
    rw [q, (N _ (.head _)).1] at ho; cases ho; cases hd
  have hcI : cStatics ≠ s₁.heap.objs.size := by
    obtain ⟨_, hns, _⟩ := hlim
    exact Nat.ne_of_lt hns.lt
  have hl₃ : h₃.NoLimit := hlH.extBut hx₃ hcP
  rw [hgl]
  refine wpAny_builtinsFor M₃.ns M₃.name M₃.ne M₃.obj M₃.cls M₃.dict M₃.data ?_
  have N₃ : News h₀ L h₃ ((P, tabObj ps') :: news) := fun q hq => by
    rcases List.mem_cons.mp hq with rfl | hq
    · exact ⟨hP₃, (N _ (.head _)).2⟩
    · exact ⟨hx₃ _ _ (hnw q hq) (up₂ _ _ (N q (.tail _ hq)).1), (N q (.tail _ hq)).2⟩
  have F₃ : Fr h₀ L h₃ m := ⟨FH.ns.at fun o z => hx₃ L o (fun q => (N _ (.head _)).2.1 q.symm) z, fun b o z => hx₃ b o (fun q => by rw [q, (N _ (.head _)).2.2] at z; cases z) (FH.keep b o z), F.above⟩
  have hI₃ : h₃.IsListIter s₁.heap.objs.size e 0 := hI₂.at fun o z => hx₃ _ o hIP z
  have hL₃ : h₃.IsList e #[.int v1 t1, .int v2 t2] := hL.at fun o z => hx₃ e o (hnw _ hme) (up₂ e o z)
  have hsI : s₁.heap.objs.size < h₃.objs.size := by obtain ⟨_, z, _⟩ := hI₃; exact Heap.lt_size z
  refine ⟨s₁.heap.objs.size, _, _, _, _, _, (fun _ => true), (fun i v => ∃ t, v = .int ([v1.fmod pm, v2.fmod pm].getD i 0) t), rfl, fun A' hA => Walks.list hA s₁.heap.objs.size e (Nat.ne_of_lt hes) #[.int v1 t1, .int v2 t2], ⟨hI₃, hL₃⟩, ?_, hl₃, ?_, (fun href hhref => ?_), fun a h₅ tk gs hgb hag hsz₅ hk₅ Wg hat => ?_⟩
  · intro b hb
    simp only [List.mem_cons, List.not_mem_nil, or_false] at hb
    rcases hb with rfl | rfl
    · exact hsI
    · exact Nat.lt_trans hes hsI
  · intro hm
    simp only [List.mem_cons, List.not_mem_nil, or_false] at hm
    exact hcI hm
  · refine ⟨fun A' E' i v u m₂ hA hD hU hPv hn hmv hkp => ?_, fun A' E' i v u m₂ hA hD hU hPv hpz hn hmv hkp => ?_⟩
    · exact wpAny_pure ⟨rfl, u.heap, u.toks, rfl, fun _ _ z => z⟩
    · have ku : ∀ b o, b ≠ s₁.heap.objs.size → h₃.get? b = some o → u.heap.get? b = some o := fun b o hb z => hkp b (List.mem_range.mpr (Heap.lt_size z)) (by simp only [List.mem_cons, List.not_mem_nil, or_false]; exact hb) o (hhref b o z)
      have hnI : ∀ q ∈ (P, tabObj ps') :: news, q.1 ≠ s₁.heap.objs.size := fun q hq => by
        rcases List.mem_cons.mp hq with rfl | hq
        · exact Nat.ne_of_lt hPs
        · exact Nat.ne_of_lt (Heap.lt_size (N q (.tail _ hq)).1)
      have Fu : Fr h₀ L u.heap m := ⟨F₃.ns.at fun o z => ku L o (Nat.ne_of_lt hLs) z, fun b o z => ku b o (Nat.ne_of_lt (Heap.lt_size (F.keep b o z))) (F₃.keep b o z), F.above⟩
      have Nu : News h₀ L u.heap ((P, tabObj ps') :: news) := fun q hq => ⟨ku _ _ (hnI q hq) (N₃ q hq).1, (N₃ q hq).2⟩
      have hka : (genEnv scope cl h₃.objs.size code builtinsNs env).kindOf (PySem.Str.ofString "coeff") = some .local := hxa
      have hks : (genEnv scope cl h₃.objs.size code builtinsNs env).kindOf (PySem.Str.ofString "self") = some .free := hxs
      refine wpAny_BinOp (wpAny_Name (wpAny_loadName_local hkind hka hn hmv ?_) (by decide))
      refine Attribute_name (wpAny_Name (wpAny_loadName_free hkind hks hcc ⟨oc, (Nu _ (.tail _ hmc)).1, hoc⟩ ?_ (by decide)) (by decide))
      refine hget _ _ _ u ps' Fu Nu ?_
      have hi : i < 2 := (Array.getElem?_eq_some_iff.mp hPv).1
      rcases (by omega : i = 0 ∨ i = 1) with rfl | rfl
      · obtain rfl : Value.int v1 t1 = v := by simpa using hPv
        exact mod_int hpm ⟨⟨_, rfl⟩, _, _, rfl, fun _ _ z => z⟩
      · obtain rfl : Value.int v2 t2 = v := by simpa using hPv
        exact mod_int hpm ⟨⟨_, rfl⟩, _, _, rfl, fun _ _ z => z⟩
  · rw [passing_all] at Wg
    rw [List.length_range] at Wg
    refine hQ a _ _ _ _ ps' h₅ tk _ (Wg.imp fun j v hv => ?_) (fun i s' st => st.1) hat ?_ ?_ (F₃.keeps hk₅) (fun q hq => ⟨hk₅ _ _ (N₃ q hq).1, (N₃ q hq).2⟩) hps₃ (G.push hgb) (.head _)
    · obtain ⟨i, hi, hF⟩ := hv
      have z := (List.getElem?_eq_some_iff.mp hi).2
      rw [List.getElem_range] at z
      rw [z]
      exact hF
    · intro b hb
      show b < h₅.objs.size
      rw [hsz₅]
      rcases List.mem_cons.mp hb with rfl | hb
      · exact Nat.lt_succ_self _
      · rcases List.mem_cons.mp hb with rfl | hb
        · exact Nat.lt_succ_of_lt hag
        · exact Nat.lt_succ_of_lt (Nat.lt_trans (List.mem_range.mp hb) hag)
    · intro b hb
      rcases List.mem_cons.mp hb with rfl | hb
      · exact Nat.le_of_lt hsI
      · simp only [List.mem_cons, List.not_mem_nil, or_false] at hb
        exact Nat.le_of_eq hb.symm
end
end Mine
end
section
open PySem PySem.W PyProof.Rows PySem.Calls PySem.Spec
set_option Elab.async false
set_option maxRecDepth 100000
set_option maxHeartbeats 1000000
namespace Mine
/-! ## a for over octets; its turns change the frame alone -/
section
variable {prog : Program} {w : World} {A : Around} {E : Value → Shared → Prop} {s : Shared} {env : Env} {h₀ : Heap} {x : PySem.Str} {body : List Stmt} {Q : Flow → Shared → Prop}
def StepB (h₀ : Heap) (env : Env) (s₁ : Shared) (I : Addr) (it : Obj) (news : List (Addr × Obj)) (J : (PySem.Str → Option Value) → Prop) (f : Flow) (s' : Shared) : Prop :=
  f = .next ∧ ∃ h' tk' m', s' = { s₁ with heap := h', toks := tk' } ∧ Fr h₀ env.locals h' m' ∧ News h₀ env.locals h' ((I, it) :: news) ∧ J m'
def LoopB (prog : Program) (w : World) (A : Around) (h₀ : Heap) (env : Env) (x : PySem.Str) (body : List Stmt) (Q : Flow → Shared → Prop) (b : Array UInt8) (J : (PySem.Str → Option Value) → Nat → (PySem.Str → Option Value) → Prop) (xv : Value) (s₁ : Shared) : Prop :=
  ∃ (tb : Tok) (m₀ : PySem.Str → Option Value) (news : List (Addr × Obj)), xv = .bytes b tb ∧ Fr h₀ env.locals s₁.heap m₀ ∧ News h₀ env.locals s₁.heap news ∧ J m₀ 0 m₀ ∧
      (∀ (i : Nat) (c : UInt8) m₁ it h tk t, b[i]? = some c → J m₀ i m₁ → Fr h₀ env.locals h (fun y => if y = x then some (.int (c.toNat : Int) t) else m₁ y) → News h₀ env.locals h ((s₁.heap.objs.size, it) :: news) →
        wpAny (model prog w) A (execs body env) (StepB h₀ env s₁ s₁.heap.objs.size it news (J m₀ (i + 1))) (fun _ _ => False) { s₁ with heap := h, toks := tk }) ∧
      (∀ m₁ h tk, J m₀ b.size m₁ → Fr h₀ env.locals h m₁ → News h₀ env.locals h news → Q .next { s₁ with heap := h, toks := tk })
theorem for_bytesB {px pos : Pos} {iter : Expr} {b : Array UInt8} {mm : PySem.Str → Option Value} (_F : Fr h₀ env.locals s.heap mm) (J : (PySem.Str → Option Value) → Nat → (PySem.Str → Option Value) → Prop) (hh : A.handled = none) (hx : env.kindOf x = some .local)
    (hp : (env.scope.kind == .class || (env.scope.kind == .module && env.locals != env.globals)) = false)
    (h : wpAny (model prog w) A (eval iter env) (fun xv s₁ => LoopB prog w A h₀ env x body Q b J xv s₁) E s)
    (hs : ∀ x, foldedSetIterable iter env x = pure x := by intro _; rfl) :
    wpAny (model prog w) A (exec (.For (.Name x px) iter body [] pos) env) Q E s := by
  refine wpAny_For (wpAny_mono h (fun xv s₁ h₁ => ?_) fun _ _ e => e) hs
  obtain ⟨tb, m₀, news, rfl, F, N, hJ, turn, done⟩ := h₁
  refine KBw.pyIter_bytes ?_
  have W := KBw.walks (prog := prog) (w := w) hh s₁.heap.objs.size b tb
  have FI := F.push { cls := .type "bytes_iterator", data := .fields #[.bytes b tb, .int 0 0] }
  have NI := News.push F N { cls := .type "bytes_iterator", data := .fields #[.bytes b tb, .int 0 0] }
  have hne : ∀ p ∈ news, p.1 ≠ s₁.heap.objs.size := fun p hp => Nat.ne_of_lt (Heap.lt_size (N p hp).1)
  have hIL : s₁.heap.objs.size ≠ env.locals := (NI _ (.head _)).2.1
  have hI0 : h₀.get? s₁.heap.objs.size = none := (NI _ (.head _)).2.2
  refine codeAny_forLoop (fun k s' => ∃ (i : Nat), ∃ m₁ h tk, s' = { s₁ with heap := h, toks := tk } ∧ Fr h₀ env.locals h m₁ ∧ News h₀ env.locals h news ∧ KBw.IsBytesIter h s₁.heap.objs.size b tb i ∧ J m₀ i m₁ ∧ i ≤ b.size ∧ k = b.size + 1 - i) ?_ (b.size + 1)
    ⟨0, m₀, _, _, rfl, FI, fun p hp => ⟨Heap.get?_push_of_some _ (N p hp).1, (N p hp).2⟩, ⟨_, Heap.get?_push_size _ rfl, rfl, rfl⟩, hJ, Nat.zero_le _, rfl⟩
  rintro k s' ⟨i, m₁, h, tk, rfl, F₁, N₁, hit, hJ₁, hi, rfl⟩
  by_cases hlt : i < b.size
  · refine W.item i _ _ _ hlt hit fun v h₂ tk₂ hP hit₂ hk₂ => ?_
    obtain ⟨c, u, hc, rfl⟩ := hP
    have up : ∀ a o, a ≠ s₁.heap.objs.size → h.get? a = some o → h₂.get? a = some o := fun a o ha e => hk₂ a o (fun hm => ha (List.mem_singleton.mp hm)) e
    have F₂ : Fr h₀ env.locals h₂ m₁ := ⟨F₁.ns.at fun o e => up _ o hIL.symm e, fun a o e => up a o (fun q => by rw [q, hI0] at e; cases e) (F₁.keep a o e), F₁.above⟩
    obtain ⟨it, hget, hcl, hd⟩ := hit₂
    have N₂ : News h₀ env.locals h₂ ((s₁.heap.objs.size, it) :: news) := fun p hp => by
      rcases List.mem_cons.mp hp with rfl | hp
      · exact ⟨hget, hIL, hI0⟩
      · exact ⟨up _ _ (hne p hp) (N₁ p hp).1, (N₁ p hp).2⟩
    refine wpAny_assign_Name (wpAny_storeName_local hx F₂.ns (fun h₃ hn₃ hs₃ => ?_) hp)
    have F₃ := F₂.set hn₃ hs₃
    refine wpAny_mono (turn i c m₁ it h₃ _ u hc hJ₁ F₃ (N₂.set hs₃)) (fun f s₄ h₄ => ?_) fun _ _ e => e.elim
    obtain ⟨rfl, h', tk', m', rfl, F', N', hJ'⟩ := h₄
    exact ⟨b.size + 1 - (i + 1), by omega, i + 1, m', h', tk', rfl, F', fun p hp => N' p (.tail _ hp), ⟨it, (N' _ (.head _)).1, hcl, hd⟩, hJ', hlt, rfl⟩
  · have hin : i = b.size := by omega
    subst hin
    refine W.done _ _ _ hit fun h₂ tk₂ hk₂ => wpAny_execs_nil ?_
    have up : ∀ a o, a ≠ s₁.heap.objs.size → h.get? a = some o → h₂.get? a = some o := fun a o ha e => hk₂ a o (fun hm => ha (List.mem_singleton.mp hm)) e
    exact done m₁ h₂ tk₂ hJ₁ ⟨F₁.ns.at fun o e => up _ o hIL.symm e, fun a o e => up a o (fun q => by rw [q, hI0] at e; cases e) (F₁.keep a o e), F₁.above⟩ fun p hp => ⟨up _ _ (hne p hp) (N₁ p hp).1, (N₁ p hp).2⟩
end
end Mine
end
section
open PySem PySem.W PyProof.Rows PySem.Calls PySem.Spec
set_option Elab.async false
set_option maxRecDepth 100000
set_option maxHeartbeats 1000000
namespace Mine
/-! ## a list comprehension over a tuple of the ledger -/
section
variable {prog : Program} {w : World} {A : Around} {E : Value → Shared → Prop} {s : Shared} {h₀ : Heap} {L : Addr} {m : PySem.Str → Option Value} {env : Env}
def SrcAtT (ax : Addr) (its : Array Value) (news : List (Addr × Obj)) : Prop := False ∨ ∃ o, (ax, o) ∈ news ∧ o.cls = .type "tuple" ∧ ∃ n, o.data = .seq its n
def SrcT (prog : Program) (w : World) (A : Around) (h₀ : Heap) (L : Addr) (m : PySem.Str → Option Value) (env : Env) (elt : PySem.Expr) (x : PySem.Str) (scope : Scope) (cl : List (PySem.Str × Addr)) (Fin : Shared → List Value → List (Addr × Obj) → Prop) (xv : Value) (s₁ : Shared) : Prop :=
  ∃ ax its news, xv = .ref ax ∧ A.handled = none ∧ Fr h₀ L s₁.heap m ∧ News h₀ L s₁.heap news ∧ SrcAtT ax its news ∧ its.size ≤ sizeLine ∧
    ∀ s₂ : Shared, (∃ h, s₂ = { s₁ with heap := h }) → LCg.CompRest prog w A h₀ L m env elt x scope cl s₂ (SrcAtT ax its) (fun i v => its[i]? = some v) (Fin s₂) its.size 0 [] news
theorem SrcT.ledger {elt : PySem.Expr} {x : PySem.Str} {scope : Scope} {cl : List (PySem.Str × Addr)} {Fin : Shared → List Value → List (Addr × Obj) → Prop} {ax : Addr} {its : Array Value} {k : Nat} {news : List (Addr × Obj)} {s₁ : Shared}
    (hh : A.handled = none) (F : Fr h₀ L s₁.heap m) (N : News h₀ L s₁.heap news) (hm : (ax, ({ cls := .type "tuple", data := .seq its k } : Obj)) ∈ news) (hsz : its.size ≤ sizeLine)
    (h : ∀ g, LCg.CompRest prog w A h₀ L m env elt x scope cl { s₁ with heap := g } (SrcAtT ax its) (fun i v => its[i]? = some v) (Fin { s₁ with heap := g }) its.size 0 [] news) :
    SrcT prog w A h₀ L m env elt x scope cl Fin (.ref ax) s₁ := ⟨ax, its, news, rfl, hh, F, N, .inr ⟨_, hm, rfl, _, rfl⟩, hsz, fun _ ⟨g, e⟩ => e ▸ h g⟩
theorem tup_of {h : Heap} {ax : Addr} {its : Array Value} {news : List (Addr × Obj)} (S : SrcAtT ax its news) (N : News h₀ L h news) : h.IsTuple ax its := by
  rcases S with S | ⟨o, hm, r⟩
  · exact S.elim
  · exact ⟨o, (N _ hm).1, r⟩
theorem ListComp_Tup {elt iter : PySem.Expr} {x : PySem.Str} {px : Pos} {scope : Scope} {cl : List (PySem.Str × Addr)} {pos : Pos} {Q : Value → Shared → Prop} (_F₀ : Fr h₀ L s.heap m)
    (hclos : closureFor scope env = pure cl) (hcell : ∀ y ∈ scope.names, y.2 ≠ .cell) (hkind : scope.kind = .function)
    (hnames : ∀ y ∈ scope.names, y.2 = .local → scope.names.lookup y.1 = some .local) (hx : scope.names.lookup x = some .local)
    (h : wpAny (model prog w) A (eval iter env) (SrcT prog w A h₀ L m env elt x scope cl (fun s₂ => LCg.FinE h₀ L m s₂ Q)) E s)
    (hs : ∀ x, foldedSetIterable iter env x = pure x := by intro _; rfl) :
    wpAny (model prog w) A (eval (.ListComp elt [⟨.Name x px, iter, [], 0⟩] scope pos) env) Q E s := by
  rw [eval_ListComp]
  refine wpAny_comprehension_free (use := none) rfl hs hclos hkind hnames (wpAny_mono h (fun xv s₁ h₁ => ?_) fun _ _ e => e)
  obtain ⟨ax, its, news, rfl, hh, F, N, S, hsz, R⟩ := h₁
  have hl := tup_of S N
  have hlt : ax < s₁.heap.objs.size := by obtain ⟨_, e, _⟩ := hl; exact Heap.lt_size e
  refine wpAny_pyIter_tuple hl ?_
  have up : ∀ b o, s₁.heap.get? b = some o → (s₁.heap.push { cls := .type "tuple_iterator", data := .fields #[.ref ax, .int 0 0] }).get? b = some o := fun b o e => Heap.get?_push_of_some _ e
  refine LCg.block_U (Walks.tuple hh s₁.heap.objs.size ax (Nat.ne_of_lt hlt) its) hsz (fun i h st => by obtain ⟨o, e, _⟩ := st.1; exact ⟨o, e⟩) (fun i h h' o nw st e e' k N S => ⟨by obtain ⟨o', q, r⟩ := st.1; rw [e] at q; cases q; exact ⟨o, e', r⟩, tup_of S N⟩) hcell hkind hx
    ⟨⟨_, Heap.get?_push_size _ rfl, rfl, rfl⟩, by obtain ⟨o, e, r⟩ := hl; exact ⟨o, up _ _ e, r⟩⟩ (fun b hb => ?_)
    (F.keeps up) (N.grown up) (Nat.ne_of_lt F.ns.lt) (next_is_new F) (fun p hp => Nat.ne_of_lt (Heap.lt_size (N p hp).1)) S (R _ ⟨_, rfl⟩) ?_
  · show b < (s₁.heap.push _).objs.size
    rw [Heap.size_push]
    rcases List.mem_cons.mp hb with rfl | hb
    · exact Nat.lt_succ_self _
    · rw [List.mem_singleton.mp hb]; exact Nat.lt_succ_of_lt hlt
  · intro D C h tk m' ys news' F' N' o1 hn hC₀ hD₀ hCL hDL hCD offC fin
    refine ⟨m', hn, fun h'' hs'' => fin D h'' tk (F'.change hs'' hCL hC₀) (fun p hp => ?_) o1⟩
    refine ⟨hs''.extBut _ _ ?_ (N' p hp).1, (N' p hp).2⟩
    rcases List.mem_cons.mp hp with rfl | hp
    · exact Ne.symm hCD
    · exact offC p hp
theorem tup_at {value slice : PySem.Expr} {t : Addr} {vs : List Value} {k : Int} {u : Tok} {v : Value} {news : List (Addr × Obj)} {Q : Value → Shared → Prop} (N : News h₀ L s.heap news) (hm : (t, ({ cls := .type "tuple", data := .seq vs.toArray } : Obj)) ∈ news) (h0 : 0 ≤ k) (hhi : k < 2 ^ 63) (hx : vs[k.toNat]? = some v) (h : Q v s)
    (hs : subscripted slice false (.ref t) (.int k u) = operate [.ref t, .int k u] (getItem (.ref t) (.int k u)) := by with_unfolding_all rfl) :
    wpAny (model prog w) A (subscriptTail value slice (.ref t) (.int k u)) Q E s := by
  have ht : IsTup s.heap t vs.toArray := News.isTup N hm
  have hn : k < ((vs.toArray.size : Nat) : Int) := by
    have := (List.getElem?_eq_some_iff.mp hx).1
    rw [List.size_toArray]
    omega
  exact tail_any ht.typeIs slot_tuple_getitem.lookup (getItem_tuple ht (by omega) hhi (seqIndex_of h0 hn) (x := v) (by simpa using hx) h) hs
end
end Mine
end
section
open PySem PySem.W PyProof.Rows PySem.Calls PySem.Spec
set_option Elab.async false
namespace Mine
/-! ## ledgers picked over -/
def nth {α : Type} : List α → Nat → List α → List α
  | [], _, k => k
  | a :: _, 0, k => a :: k
  | _ :: l, n + 1, k => nth l n k
def pick {α : Type} (l : List α) (k : List α) : List Nat → List α
  | [] => k
  | i :: is => nth l i (pick l k is)
theorem nth_mem {α : Type} {q : α} {k : List α} : ∀ (l : List α) (n : Nat), q ∈ nth l n k → q ∈ l ∨ q ∈ k
  | [], _, h => .inr h
  | _ :: _, 0, h => (List.mem_cons.mp h).elim (fun e => .inl (e ▸ .head _)) .inr
  | _ :: l, n + 1, h => (nth_mem l n h).elim (fun x => .inl (.tail _ x)) .inr
theorem pick_mem {α : Type} {q : α} {l k : List α} : ∀ (is : List Nat), q ∈ pick l k is → q ∈ l ∨ q ∈ k
  | [], h => .inr h
  | _ :: is, h => (nth_mem _ _ h).elim .inl (pick_mem is)
theorem news_pick {h₀ h : Heap} {L : Addr} {l : List (Addr × Obj)} (n : Nat) (is : List Nat) (N : News h₀ L h l) : News h₀ L h (pick l (l.drop n) is) :=
  fun q hq => N q ((pick_mem _ hq).elim id List.mem_of_mem_drop)
theorem news_pick0 {h₀ h : Heap} {L : Addr} {l : List (Addr × Obj)} (is : List Nat) (N : News h₀ L h l) : News h₀ L h (pick l [] is) :=
  fun q hq => N q ((pick_mem _ hq).elim id fun h => nomatch h)
theorem mem_pick {α : Type} {q : α} {l : List α} (n : Nat) (is : List Nat) (h : q ∈ pick l (l.drop n) is) : q ∈ l := (pick_mem _ h).elim id List.mem_of_mem_drop
theorem news_and {h₀ h : Heap} {L : Addr} {l k : List (Addr × Obj)} (N : News h₀ L h l) (K : News h₀ L h k) : News h₀ L h (l ++ k) := fun q hq => (List.mem_append.mp hq).elim (N q) (K q)
theorem news_right {h₀ h : Heap} {L : Addr} {l k : List (Addr × Obj)} (N : News h₀ L h (l ++ k)) : News h₀ L h k := fun q hq => N q (List.mem_append_right _ hq)
theorem news_left {h₀ h : Heap} {L : Addr} {l k : List (Addr × Obj)} (N : News h₀ L h (l ++ k)) : News h₀ L h l := fun q hq => N q (List.mem_append_left _ hq)
end Mine
end
open PySem PySem.W PyProof.Rows PySem.Calls PySem.Spec
set_option maxRecDepth 100000
set_option maxHeartbeats 40000000
namespace Mine
local macro_rules | `(tactic| k_room) => `(tactic| ktr_room)
local macro_rules | `(tactic| walk_at "fits") => `(tactic| first | omega | ((try simp only [List.size_toArray, List.length_append, List.length_cons, List.length_nil, beB_length, Array.size_append]); omega))
local macro_rules | `(tactic| walk_at "call ref") => `(tactic| (k_here; (with_reducible show wpAny _ _ (call (Value.ref _) [Value.bytes _ _, Value.str _ _]) _ _ _); kfb_any; k_dflt (refine Mine.fb_call (by k_asm) (by k_mem) (by walk_at "fits") ?_); intro _ _; (try dsimp only)))
local macro_rules | `(tactic| walk_at "callWith") => `(tactic| (k_here; (try dsimp only); (with_reducible show wpAny _ _ (callWith _ (Value.builtin _) _ (backTo _ (starEach (_ :: _) _)) (backToKw _ (keywordEach (_ :: _) _))) _ _ _); k_dflt (refine Mine.callWith_bkw ?_)))
local macro_rules | `(tactic| walk_at "callWith ref") => `(tactic| (k_here; (with_reducible show wpAny _ _ (callWith _ (Value.ref _) _ (backTo _ (starEach (_ :: _) _)) (backToKw _ (keywordEach (_ :: _) _))) _ _ _); kfb_any; k_dflt (refine Mine.callWith_boundK ?_)))
local macro_rules | `(tactic| walk_at "memA") => `(tactic| first | exact List.Mem.head _ | (refine List.Mem.tail _ ?_; walk_at "memA") | (refine List.mem_append_right _ ?_; walk_at "memA"))
local macro_rules | `(tactic| walk_at "subs") => `(tactic| ((repeat (refine List.forall_mem_cons.mpr ⟨by walk_at "memA", ?_⟩)); first | exact List.forall_mem_nil _ | (intro zq zh; (repeat (first | exact zh | exact List.mem_append_left _ zh | refine List.mem_cons_of_mem _ ?_)))))
section
section
variable {w : World} {loose : List Str} {mean : ExcName → Option Value} {mg mb : Str → Option Value}
  {dp un : Nat} {gd : Option (List Code)} {cn : Str} {cs : Scope} {a : Addr} {ccd : Value} {cl : List (Str × Addr)} {outer : List Env} {A₀ : Around} {base h₀ : Heap} {L : Addr} {m : Str → Option Value} {news : List (Addr × Obj)} {s : Shared}
  {Q E : Value → Shared → Prop}
theorem hash_call {o : Array UInt8} {n : Nat} {t1 t2 : Tok}
    (B : Below A₀ base outer h₀) (F : Fr h₀ L s.heap m) (X : (Mine.hd.heap_1 w.params).In h₀) (N : News h₀ L s.heap news) (T : Top topProg loose mean mg mb h₀) (hk : cs.kind = .function)
    (hd : dp ≤ 500) (hu : un ≤ 2000) (hn : 16 ≤ n) (hn2 : n ≤ 64) (ho : o.size ≤ 200)
    (hret : ∀ t h' tk', Fr h₀ L h' m → News h₀ L h' news → Q (.bytes ((lawHash o.toList n).toArray) t) { s with heap := h', toks := tk' }) :
    wpAny (model P17 w) (ktrTop dp un gd cn cs L a ccd cl outer) (call (.ref 405) [.bytes o t1, .int (n : Int) t2]) Q E s := by
  have hdd : dp + 1 < recursionLimit := by unfold recursionLimit; omega
  have huu : un + 8 < cLine := by unfold cLine; omega
  have hm := hash_mul (o := o.toList) (n := n) (by rw [Array.length_toList]; omega) hn2
  have hz : (256 : Int) ^ (n : Int).toNat - 5 ≠ 0 := by have := (five_lt (n := n) (by omega)).1; omega
  refine wpAny_call ?_
  k_dflt cell_enter
  k_steps
  refine tb_call (x' := (hashInt o.toList n).toNat) (n := n) ?_ rfl (by omega) (hashInt_lt (by omega)) ?_
  · have h0 := hashInt_nonneg (o := o.toList) (n := n) (by omega)
    rw [Int.toNat_of_nonneg h0]
    rfl
  intro t9 k9
  (try dsimp only)
  k_steps
  exact hret _ _ _ (by assumption) (cb_drop (by assumption) (fun p hp => List.mem_cons_of_mem _ hp))
end
end
section
section
variable {w : World} {loose : List Str} {mean : ExcName → Option Value} {mg mb : Str → Option Value}
  {dp un : Nat} {gd : Option (List Code)} {cn : Str} {cs : Scope} {a : Addr} {ccd : Value} {cl : List (Str × Addr)} {outer : List Env} {A₀ : Around} {base h₀ : Heap} {L : Addr} {m : Str → Option Value} {news : List (Addr × Obj)} {s : Shared}
  {Q E : Value → Shared → Prop}
def xorB (xs ys : Array UInt8) : Array UInt8 := byteArr (xorInts xs ys)
theorem xorB_size {xs ys : Array UInt8} (h : xs.size = ys.size) : (xorB xs ys).size = xs.size := by rw [xorB, byteArr_size, xorInts_length h]
theorem xor_call {xs ys : Array UInt8} {ta tb : Tok} {ps : Array Value}
    (B : Below A₀ base outer h₀) (F : Fr h₀ L s.heap m) (X : (Mine.hd.heap_1 w.params).In h₀) (N : News h₀ L s.heap ((37, tabObj ps) :: news)) (hps : TriplesOk ps.toList) (C : CodeHd h₀ 41 37) (T : Top topProg loose mean mg mb h₀) (hk : cs.kind = .function)
    (hd : dp ≤ 500) (hu : un ≤ 2000) (hxy : xs.size = ys.size) (hz : xs.size ≤ 1000) (G : AllBare s.gens) (hnw : ∀ q ∈ news, q.1 ≠ 37)
    (hret : ∀ t h' tk' g' ps', Fr h₀ L h' m → News h₀ L h' ((37, tabObj ps') :: news) → TriplesOk ps'.toList → AllBare g' → Q (.bytes (xorB xs ys) t) { s with heap := h', toks := tk', gens := g' }) :
    wpAny (model P17 w) (ktrTop dp un gd cn cs L a ccd cl outer) (call (.ref 42) [.bytes xs ta, .bytes ys tb]) Q E s := by
  have hdd : dp + 1 < recursionLimit := by unfold recursionLimit; omega
  have huu : un + 8 < cLine := by unfold cLine; omega
  refine wpAny_call ?_
  k_dflt cell_enter
  have C' := C.keeps (Fr.keep (by assumption : Fr h₀ L _ m))
  k_steps
  rename Top _ _ _ _ _ _ => T0
  have hroom : ((ktrTop dp un gd cn cs L a ccd cl outer).deeper (envOf (Str.ofString "xor") { kind := ScopeKind.function, names := [], isGenerator := false, isCoroutine := false, more := [] } 0 42 (Value.ref 41))).depth < recursionLimit := hdd
  refine gen_xor (news := news) (ps := ps) (P := 37) (c := 41) (by assumption) T0 C' rfl rfl rfl rfl rfl (by decide) rfl rfl rfl rfl hroom ?_ (fun _ => rfl)
  k_steps
  rename Fr _ _ _ _ => F0
  rename News _ _ _ _ => N0
  refine call_zipB fun h2 z TI TO i1 i2 D hst b1 b2 b3 b4 b5 b6 hk => ?_
  have lL : @LT.lt Nat _ _ i1 := Nat.lt_of_lt_of_le F0.ns.lt b1
  refine ⟨z, TI, TO, i1, i2, xs, ys, ta, tb, rfl, D, hst, hxy, F0.keeps hk, fun q hq => ⟨hk _ _ (N0 q hq).1, (N0 q hq).2⟩, hps, G, ⟨lL, Nat.lt_of_lt_of_le (Heap.lt_size (N0 _ (.head _)).1) b1, b2, b3, b4, b5⟩,
    fun q hq => ⟨Nat.lt_of_lt_of_le (Heap.lt_size (N0 _ (.tail _ hq)).1) b1, hnw q hq⟩, fun a1 g fp wr St ps' h5 tk5 g5 W hG hst5 hfp hwr F5 N5 hps5 G5 => ?_⟩
  dsimp only at hst5 ⊢
  k_steps
  refine call_bytes_gen (ns := xorInts xs ys) (by rw [xorInts_length hxy]; exact W.in4_2) hG hst5 hfp (fun i v h => h) xorInts_in (by rw [xorInts_length hxy]; omega) fun s6 t6 hm => ?_
  obtain ⟨h6, g6, d6, tk6, os6⟩ := s6
  obtain ⟨m1, m2, m3, m4⟩ := hm
  dsimp only at m1 m2 m3 m4
  subst m3 m4
  have kp : ∀ b o, @LT.lt Nat _ b i1 → h5.get? b = some o → h6.get? b = some o := fun b o hb e => m1 b o (fun hw => absurd (hwr b hw) (Nat.not_le_of_lt hb)) (Nat.ne_of_lt (Heap.lt_size e)) e
  have F6 := fr_kept F5 lL kp
  have N6 := news_kept N5 (fun q hq => by
    rcases List.mem_cons.mp hq with rfl | hq
    · exact Nat.lt_of_lt_of_le (Heap.lt_size (N0 _ (.head _)).1) b1
    · exact Nat.lt_of_lt_of_le (Heap.lt_size (N0 _ (.tail _ hq)).1) b1) kp
  clear F5 N5 F0 N0
  k_steps
  refine hret _ _ _ _ ps' (by assumption) (by assumption) hps5 (m2.bare G5)
end
end
section
section
variable {w : World} {loose : List Str} {mean : ExcName → Option Value} {mg mb : Str → Option Value}
  {dp un : Nat} {gd : Option (List Code)} {cn : Str} {cs : Scope} {a : Addr} {ccd : Value} {cl : List (Str × Addr)} {outer : List Env} {A₀ : Around} {base h₀ : Heap} {L : Addr} {m : Str → Option Value} {news : List (Addr × Obj)} {s : Shared}
  {Q E : Value → Shared → Prop}
theorem i2osp_call {x k : Int} {x' n : Nat} {t1 t2 : Tok} (hxe : x = (x' : Int)) (hke : k = (n : Int)) (hn : n ≤ 1000) (hx : x' < 256 ^ n)
    (B : Below A₀ base outer h₀) (F : Fr h₀ L s.heap m) (X : (Mine.hd.heap_1 w.params).In h₀) (N : News h₀ L s.heap news) (T : Top topProg loose mean mg mb h₀) (hk : cs.kind = .function)
    (hd : dp ≤ 500) (hu : un ≤ 2000)
    (hret : ∀ t h' tk', Fr h₀ L h' m → News h₀ L h' news → Q (.bytes (beB n x').toArray t) { s with heap := h', toks := tk' }) :
    wpAny (model P17 w) (ktrTop dp un gd cn cs L a ccd cl outer) (call (.ref 28) [.int x t1, .int k t2]) Q E s := by
  have hdd : dp + 1 < recursionLimit := by unfold recursionLimit; omega
  have huu : un + 8 < cLine := by unfold cLine; omega
  refine wpAny_call ?_
  k_dflt cell_enter
  k_steps
  show wpAny _ _ (call (.builtin "int.to_bytes") [.int x t1, .int k t2] [(Str.ofString "byteorder", .str (Str.ofString "big") _), (Str.ofString "signed", .bool false)]) _ _ _
  refine tb_callK hxe hke (by omega) hx ?_
  intro t9 k9
  (try dsimp only)
  k_steps
  exact hret _ _ _ (by assumption) (by assumption)
theorem os2ip_call {b : Array UInt8} {t1 : Tok} (hb : b.size ≤ 1000)
    (B : Below A₀ base outer h₀) (F : Fr h₀ L s.heap m) (X : (Mine.hd.heap_1 w.params).In h₀) (N : News h₀ L s.heap news) (T : Top topProg loose mean mg mb h₀) (hk : cs.kind = .function)
    (hd : dp ≤ 500) (hu : un ≤ 2000)
    (hret : ∀ t h' tk', Fr h₀ L h' m → News h₀ L h' news → Q (.int ((val b.toList : Nat) : Int) t) { s with heap := h', toks := tk' }) :
    wpAny (model P17 w) (ktrTop dp un gd cn cs L a ccd cl outer) (call (.ref 35) [.bytes b t1]) Q E s := by
  have hdd : dp + 1 < recursionLimit := by unfold recursionLimit; omega
  have huu : un + 8 < cLine := by unfold cLine; omega
  refine wpAny_call ?_
  k_dflt cell_enter
  k_steps
  rename News _ _ _ _ => N0
  show wpAny _ _ (call (.ref _) [.bytes b t1] [(Str.ofString "byteorder", .str (Str.ofString "big") _), (Str.ofString "signed", .bool false)]) _ _ _
  refine fb_callK (KFB.at_of N0 (by k_mem)) (by omega) ?_
  intro t9 k9
  (try dsimp only)
  k_steps
  exact hret _ _ _ (by assumption) (cb_drop (by assumption) (fun p hp => List.mem_cons_of_mem _ hp))
end
end
local macro_rules | `(tactic| walk_at "small") => `(tactic| first | omega | (dsimp only [ktrTop, Around.deeper, Around.in1]; omega) | (simp only [depth_deeper, depth_in1, depth_caller, units_deeper, units_in1, units_caller]; omega) | (simp only [depth_deeper, depth_in1, depth_caller, units_deeper, units_in1, units_caller]; decide) | decide)
local macro_rules | `(tactic| walk_at "kindfn") => `(tactic| first | assumption | exact rfl)
local macro_rules | `(tactic| walk_at "call ref") => `(tactic| (k_here; (with_reducible show wpAny _ _ (call (Value.ref 405) _) _ _ _); k_dflt (refine' Mine.hash_call ?B ?F ?X ?N ?T ?hk ?hd ?hu ?hn ?hn2 ?ho ?_; (case B | F | X | N | T => k_asm); (case hk => walk_at "kindfn"); (case hd | hu => walk_at "small"); (case hn | hn2 => omega); (case ho => walk_at "fits")); intro t9 h9 k9 F9 N9; (try dsimp only); (try k_fold)))
section
section
variable {w : World} {loose : List Str} {mean : ExcName → Option Value} {mg mb : Str → Option Value}
  {dp un : Nat} {gd : Option (List Code)} {cn : Str} {cs : Scope} {a : Addr} {ccd : Value} {cl : List (Str × Addr)} {outer : List Env} {A₀ : Around} {base h₀ : Heap} {L : Addr} {m : Str → Option Value} {news : List (Addr × Obj)} {s : Shared}
  {Q E : Value → Shared → Prop}
/-- the law's own hash as it stands among the made objects -/
structure LamIn (news : List (Addr × Obj)) (f : Addr) (n : Nat) : Prop where
  intro :: out : ∃ (p1 p2 p3 p4 p5 : Pos) (c' ac : Addr) (pm ctv : Value) (oc ocell : Obj) (vs : Array Value) (tq tn : Tok),
    (f, kla_obj (Str.ofString "<lambda>") (Str.ofString "law.<locals>.<lambda>") { posonlyargs := [], args := [{ arg := Str.ofString "octets", annotation := none, pos := p1 }], vararg := none, kwonlyargs := [], kw_defaults := [], kwarg := none, defaults := [] }
      (.Call (.Name (Str.ofString "_law_hash") p2) [.Name (Str.ofString "octets") p3, .Name (Str.ofString "size") p4] [] p5)
      { kind := ScopeKind.function, names := [(Str.ofString "octets", NameKind.local), (Str.ofString "size", NameKind.free), (Str.ofString "_law_hash", NameKind.globalImplicit)], isGenerator := false, isCoroutine := false }
      [(Str.ofString "size", ac)] pm c' ctv) ∈ news ∧ (c', oc) ∈ news ∧ oc.data = .fields vs ∧ vs[1]? = some (.str (Str.ofString "law.<locals>.<lambda>") tq) ∧ (ac, ocell) ∈ news ∧ ocell.data = .cell (some (.int (n : Int) tn))
theorem LamIn.mono {news news' : List (Addr × Obj)} {f : Addr} {n : Nat} (h : LamIn news f n) (hs : ∀ p ∈ news, p ∈ news') : LamIn news' f n :=
  let ⟨p1, p2, p3, p4, p5, c', ac, pm, ctv, oc, ocell, vs, tq, tn, h1, h2, h3, h4, h5, h6⟩ := h.out
  ⟨p1, p2, p3, p4, p5, c', ac, pm, ctv, oc, ocell, vs, tq, tn, hs _ h1, hs _ h2, h3, h4, hs _ h5, h6⟩
theorem LamIn.fnAt {news : List (Addr × Obj)} {f : Addr} {n : Nat} {h₀ h : Heap} {L : Addr} (hL : LamIn news f n) (N : News h₀ L h news) : FnAt f h :=
  let ⟨_, _, _, _, _, _, _, _, _, _, _, _, _, _, h1, _⟩ := hL.out
  FnAt.of N h1
theorem lam_call {f : Addr} {n : Nat} {b : Array UInt8} {t1 : Tok} (hL : LamIn news f n)
    (B : Below A₀ base outer h₀) (F : Fr h₀ L s.heap m) (X : (Mine.hd.heap_1 w.params).In h₀) (N : News h₀ L s.heap news) (C : CodeHd h₀ 41 37) (T : Top topProg loose mean mg mb h₀) (hk : cs.kind = .function)
    (hd : dp ≤ 490) (hu : un ≤ 1900) (hn : 16 ≤ n) (hn2 : n ≤ 64) (ho : b.size ≤ 200)
    (hret : ∀ t h' tk', Fr h₀ L h' m → News h₀ L h' news → Q (.bytes (lawHash b.toList n).toArray t) { s with heap := h', toks := tk' }) :
    wpAny (model P17 w) (ktrTop dp un gd cn cs L a ccd cl outer) (call (.ref f) [.bytes b t1]) Q E s := by
  obtain ⟨p1, p2, p3, p4, p5, c', ac, pm, ctv, oc, ocell, vs, tq, tn, h1, h2, h3, h4, h5, h6⟩ := hL.out
  have hdd : dp + 1 < recursionLimit := by unfold recursionLimit; omega
  have huu : un + 8 < cLine := by unfold cLine; omega
  refine wpAny_call ?_
  k_dflt (refine' kla_code ?k1 ?k2 ?k3 ?k4 ?k5 ?kA ?kF ?kK ?k6 ?k7 ?k8 ?k9 ?kB ?_ ?c2 ?c3 ?c4 ?c5; (case kA => exact rfl); (case kF => exact rfl); (case kK => assumption); (case k1 => k_asm); (case k2 => k_asm); (case k3 => k_asm); (case k4 => k_asm); (case k5 => k_asm); (case k6 => exact h1); (case k7 => exact codeRec_news N h2 h3 h4); (case k8 => ktr_room); (case k9 => exact rfl); (case c5 => decide); (case kB => exact locs rfl); (case c2 => exact rfl); (case c3 => exact rfl); (case c4 => exact rfl); k_whole; intro g' L' h' FG' F' N' B' X' T'; (try dsimp only); (try k_fold))
  have C' := C.keeps (Fr.keep (by assumption : Fr h₀ L _ m))
  k_steps
  exact hret _ _ _ (by assumption) (by assumption)
end
end
local macro_rules | `(tactic| walk_at "subN") => `(tactic| (intro p hp; (repeat (first | exact hp | refine List.mem_cons_of_mem _ ?_))))
local macro_rules | `(tactic| walk_at "call ref") => `(tactic| (k_here; (with_reducible show wpAny _ _ (call (Value.ref _) [Value.bytes _ _]) _ _ _); (with_reducible rename Mine.LamIn _ _ _ => hLam9); k_dflt (refine' Mine.lam_call (Mine.LamIn.mono hLam9 ?S) ?B ?F ?X ?N ?C ?T ?hk ?hd ?hu ?hn ?hn2 ?ho ?_; (case N => k_asm); (case S => walk_at "subN"); (case B | F | X | C | T => k_asm); (case hk => walk_at "kindfn"); (case hd | hu => walk_at "small"); (case hn | hn2 => omega); (case ho => walk_at "fits")); intro t9 h9 k9 F9 N9; (try dsimp only); (try k_fold)))
local macro_rules | `(tactic| walk_at "call ref") => `(tactic| (k_here; (with_reducible show wpAny _ _ (call (Value.ref 28) _) _ _ _); k_dflt (refine' Mine.i2osp_call ?he1 ?he2 ?hn ?hx ?B ?F ?X ?N ?T ?hk ?hd ?hu ?_; (case he1 => first | exact rfl | assumption | omega); (case he2 => first | exact (rfl : (1 : Int) = ((1 : Nat) : Int)) | exact (rfl : (2 : Int) = ((2 : Nat) : Int)) | assumption); (case hn => first | omega | decide); (case hx => first | assumption | omega); (case B | F | X | N | T => k_asm); (case hk => walk_at "kindfn"); (case hd | hu => walk_at "small")); intro t9 h9 k9 F9 N9; (try dsimp only); (try k_fold)))
local macro_rules | `(tactic| walk_at "binaryOp Add bytes bytes") => `(tactic| (k_here; (with_reducible show wpAny _ _ (binaryOp Operator.Add (Value.bytes _ _) (Value.bytes _ _)) _ _ _); k_dflt (refine Mine.badd (by walk_at "fits") ?_); intro t9 k9; (try dsimp only)))
local macro_rules | `(tactic| walk_at "fits") => `(tactic| ((try simp only [List.size_toArray, List.length_append, List.length_cons, List.length_nil, beB_length, Array.size_append, Mine.len_rep1, Int.toNat_natCast, Mine.lawHash_length]); omega))
local macro_rules | `(tactic| walk_at "callWith ref") => `(tactic| (k_here; (with_reducible rename Mine.LamIn _ _ _ => hLam9); k_dflt (refine' callWith_F ?k1 ?_; (case k1 => (refine' Mine.LamIn.fnAt ?fa ?fb; (case fb => k_asm); (case fa => exact Mine.LamIn.mono hLam9 (by walk_at "subN")))); k_whole)))
local macro_rules | `(tactic| walk_at "And") => `(tactic| ((with_reducible show FnAt _ _ ∧ _); (with_reducible rename Mine.LamIn _ _ _ => hLam9); k_dflt (refine' ⟨Mine.LamIn.fnAt ?fa ?fb, ?_⟩; (case fb => k_asm); (case fa => exact Mine.LamIn.mono hLam9 (by walk_at "subN"))); (try dsimp only [List.nil_append, List.cons_append])))
local macro_rules | `(tactic| walk_at "getMethod bytes") => `(tactic| (k_here; k_dflt (refine Mine.join_method ?_)))
section
section
variable {w : World} {loose : List Str} {mean : ExcName → Option Value} {mg mb : Str → Option Value}
  {dp un : Nat} {gd : Option (List Code)} {cn : Str} {cs : Scope} {a : Addr} {ccd : Value} {cl : List (Str × Addr)} {outer : List Env} {A₀ : Around} {base h₀ : Heap} {L : Addr} {m : Str → Option Value} {news : List (Addr × Obj)} {s : Shared}
  {Q E : Value → Shared → Prop}
/-! what the program's own expansion reckons -/
def dpr (tag : Array UInt8) : Array UInt8 := tag ++ (beB 1 tag.size).toArray
def exB0 (n : Nat) (msg tag : Array UInt8) (len r : Nat) : List UInt8 :=
  lawHash ((List.replicate (r : Int).toNat [0]).flatten.toArray ++ msg ++ (beB 2 len).toArray ++ #[0] ++ (tag ++ (beB 1 tag.size).toArray)).toList n
def exSeq (n : Nat) (b0 : List UInt8) (dp : Array UInt8) : Nat → List UInt8
  | 0 => lawHash (b0.toArray ++ #[1] ++ dp).toList n
  | i + 1 => lawHash (xorB b0.toArray (exSeq n b0 dp i).toArray ++ (beB 1 (2 + i)).toArray ++ dp).toList n
theorem exSeq_length (n : Nat) (b0 : List UInt8) (dp : Array UInt8) (i : Nat) : (exSeq n b0 dp i).length = n := by
  cases i <;> exact lawHash_length _ _
def exAll (n : Nat) (b0 : List UInt8) (dp : Array UInt8) (k : Nat) : List (List UInt8) := (List.range k).map (exSeq n b0 dp)
theorem exAll_get (n : Nat) (b0 : List UInt8) (dp : Array UInt8) {k i : Nat} (h : i < k) : (exAll n b0 dp k)[i]? = some (exSeq n b0 dp i) := by
  unfold exAll
  rw [List.getElem?_map, List.getElem?_range h]
  rfl
theorem exAll_succ (n : Nat) (b0 : List UInt8) (dp : Array UInt8) (k : Nat) : exAll n b0 dp (k + 1) = exAll n b0 dp k ++ [exSeq n b0 dp k] := by
  unfold exAll
  rw [List.range_succ, List.map_append]
  rfl
theorem exAll_flat (n : Nat) (b0 : List UInt8) (dp : Array UInt8) : ∀ k : Nat, (exAll n b0 dp k).flatten.length = k * n
  | 0 => by show 0 = 0 * n; rw [Nat.zero_mul]
  | k + 1 => by
    rw [exAll_succ, List.flatten_append, List.length_append, exAll_flat n b0 dp k, List.flatten_cons, List.flatten_nil, List.append_nil, exSeq_length, Nat.succ_mul]
theorem expand_call {f : Addr} {n r len : Nat} {lenI : Int} (hlI : lenI = (len : Int)) {msg tag : Array UInt8} {t1 t2 t3 t4 t5 : Tok} {ps : Array Value} (hL : LamIn news f n)
    (B : Below A₀ base outer h₀) (F : Fr h₀ L s.heap m) (X : (Mine.hd.heap_1 w.params).In h₀) (N : News h₀ L s.heap ((37, tabObj ps) :: news)) (hps : TriplesOk ps.toList) (C : CodeHd h₀ 41 37) (T : Top topProg loose mean mg mb h₀) (hk : cs.kind = .function)
    (G : AllBare s.gens) (hnw : ∀ q ∈ news, q.1 ≠ 37)
    (hd : dp ≤ 480) (hu : un ≤ 1800) (hn : 16 ≤ n) (hn2 : n ≤ 64) (hr : r ≤ 40) (hm : msg.size ≤ 20) (ht : tag.size ≤ 20) (hlen : len ≤ 256)
    (hret : ∀ t h' tk' g' ps' pb, pb.toList = (exAll n (exB0 n msg tag len r) (dpr tag) (ellN len n - 1 + 1)).flatten.toArray.toList.take len → Fr h₀ L h' m → News h₀ L h' ((37, tabObj ps') :: news) → TriplesOk ps'.toList → AllBare g' → Q (.bytes pb t) { s with heap := h', toks := tk', gens := g' }) :
    wpAny (model P17 w) (ktrTop dp un gd cn cs L a ccd cl outer) (call (.ref 49) [.bytes msg t1, .bytes tag t2,   .int lenI t3, .ref f, .int (n : Int) t4, .int (r : Int) t5]) Q E s := by
  subst hlI
  have hdd : dp + 1 < recursionLimit := by unfold recursionLimit; omega
  have huu : un + 8 < cLine := by unfold cLine; omega
  have hell : -(Int.fdiv (-(len : Int)) (n : Int)) = ((ellN len n : Nat) : Int) := ell_eq (by omega)
  have hell2 : ellN len n ≤ 16 := ell_le hn hlen
  have hlen2 : len < 256 ^ 2 := by omega
  have htag1 : tag.size < 256 ^ 1 := by omega
  refine wpAny_call ?_
  k_dflt cell_enter
  have C' := C.keeps (Fr.keep (by assumption : Fr h₀ L _ m))
  (repeat' ((fail_if_success (with_reducible show wpAny _ _ (exec (Stmt.For _ _ _ _ _) _) _ _ _)); ((first | (k_unfold; (try dsimp only)) | (k_end; wrow_close) | walk1 | (dsimp only; walk1) | (leave1; walk_say "STEP leave1"; try dsimp only)))))
  rename_i lb hq1 l1 hq2 F0 N0
  refine for_rangeG (n := ellN len n - 1) (a₀ := 2) F0 (fun m₀ i m' news' g => (∀ y, y ≠ Str.ofString "i" → m' y = m₀ y) ∧
    ∃ vs nn ps', news' = (lb, listOf (List.toArray vs) nn) :: (37, tabObj ps') :: news ∧ ByAre vs (exAll n (exB0 n msg tag len r) (dpr tag) (i + 1)) ∧ TriplesOk ps'.toList ∧ AllBare g) rfl rfl rfl ?_
  k_steps
  rename_i t1' u1' v1' hr1 F1 N1 hk1
  have hn1 : ∀ q ∈ news, q.1 ≠ lb := fun q hq => Nat.ne_of_lt (allLt_mem l1.2 q hq)
  have h37 : (37 : Nat) ≠ lb := Nat.ne_of_lt l1.1
  refine ⟨_, _, _, _, _, _, _, rfl, hr1, small_one (by omega) (by omega) (by omega) (by omega), by rw [rangeSize_nat]; omega, F1, N1, ⟨fun _ _ => rfl, _, _, ps, rfl, .cons .nil, hps, G⟩, ?_, ?_⟩
  · rintro i m₁ news₁ g h tk1 t hi ⟨hm1, vs, nn, ps1, rfl, hby, hps1, G1⟩ hne F2 N2
    rw [upd_eq hm1] at F2
    have hI : ∀ q ∈ news, q.1 ≠ _ := fun q hq => hne q (.tail _ (.tail _ hq))
    clear F1 N1 hk1
    (repeat' ((fail_if_success (with_reducible show wpAny _ _ (subscriptTail _ _ (Value.ref _) (Value.int _ _)) _ _ _)); (fail_if_success (with_reducible show wpAny _ _ (call (Value.ref 42) _) _ _ _)); ((first | (k_unfold; (try dsimp only)) | (k_end; wrow_close) | walk1 | (dsimp only; walk1) | (leave1; walk_say "STEP leave1"; try dsimp only)))))
    obtain ⟨tv, htv⟩ := hby.get (exAll_get n (exB0 n msg tag len r) (dpr tag) (Nat.lt_succ_self i))
    refine item_at N2 (by k_mem) (by omega) (by omega) (v := .bytes (exSeq n (exB0 n msg tag len r) (dpr tag) i).toArray tv) ?_ ?_
    · have e : (2 + (i : Int) - 2).toNat = i := by omega
      rw [e]
      exact htv
    (repeat' ((fail_if_success (with_reducible show wpAny _ _ (call (Value.ref 42) _) _ _ _)); ((first | (k_unfold; (try dsimp only)) | (k_end; wrow_close) | walk1 | (dsimp only; walk1) | (leave1; walk_say "STEP leave1"; try dsimp only)))))
    rename Top _ _ _ _ _ _ => T0
    have hsz1 : (lawHash ((List.replicate (r : Int).toNat [0]).flatten.toArray ++ msg ++ (beB 2 len).toArray ++ #[0] ++ (tag ++ (beB 1 tag.size).toArray)).toList n).toArray.size = n := by rw [List.size_toArray, lawHash_length]
    have hsz2 : (exSeq n (exB0 n msg tag len r) (dpr tag) i).toArray.size = n := by rw [List.size_toArray, exSeq_length]
    have hsz3 := xorB_size (hsz1.trans hsz2.symm)
    rw [hsz1] at hsz3
    have hi2 : (2 + (i : Int)) = ((2 + i : Nat) : Int) := by omega
    have hi3 : 2 + i < 256 ^ 1 := by omega
    have hI37 := hne (37, tabObj ps1) (.tail _ (.head _))
    have hIlb := hne (lb, listOf vs.toArray nn) (.head _)
    refine xor_call (news := (_, rIt (2 + ((i + 1 : Nat) : Int)) (((ellN len n - 1 : Nat) : Int) - ((i + 1 : Nat) : Int))) :: (lb, listOf vs.toArray nn) :: news) (ps := ps1) (by assumption) F2 (by assumption) (fun q hq => N2 q (mem_rot3 hq)) hps1 C' T0 rfl (by walk_at "small") (by walk_at "small") (hsz1.trans hsz2.symm) (by omega) G1 ?_ ?_
    · intro q hq
      rcases List.mem_cons.mp hq with rfl | hq
      · exact fun e => hI37 e.symm
      · rcases List.mem_cons.mp hq with rfl | hq
        · exact fun e => h37 e.symm
        · exact hnw q hq
    clear N2
    intro t9 h9 k9 g9 ps9 F9 N9 hps9 G9
    dsimp only
    (repeat' ((fail_if_success (with_reducible show wpAny _ _ (call (Value.builtin "list.append") _) _ _ _)); ((first | (k_unfold; (try dsimp only)) | (k_end; wrow_close) | walk1 | (dsimp only; walk1) | (leave1; walk_say "STEP leave1"; try dsimp only)))))
    k_unfold
    (try dsimp only)
    rename News _ _ _ _ => N10
    rename Fr _ _ _ _ => F10
    refine append_at' (news := (37, tabObj ps9) :: (_, rIt (2 + ((i + 1 : Nat) : Int)) (((ellN len n - 1 : Nat) : Int) - ((i + 1 : Nat) : Int))) :: news) F10 (fun q hq => N10 q (mem_rot3 hq)) ?_ ?_ ?_
    · intro q hq
      rcases List.mem_cons.mp hq with rfl | hq
      · exact h37
      · rcases List.mem_cons.mp hq with rfl | hq
        · exact fun e => hIlb e.symm
        · exact hn1 q hq
    · have := hby.length
      unfold exAll at this
      rw [List.length_map, List.length_range] at this
      omega
    intro h11 F11 N11
    k_steps
    refine ⟨rfl, _, _, _, _, _, rfl, F11, fun q hq => N11 q (mem_rot3 hq), ?_, fun y hy => ?_, _, _, ps9, rfl, ?_, hps9, G9⟩
    · intro q hq
      rcases List.mem_cons.mp hq with rfl | hq
      · exact hIlb
      · rcases List.mem_cons.mp hq with rfl | hq
        · exact hI37
        · exact hI q hq
    · exact if_neg hy
    · rw [exAll_succ]
      exact hby.append _ _
  · rintro m₁ news₁ g h tk1 ⟨hm1, vs, nn, ps1, rfl, hby, hps1, G1⟩ F2 N2
    rw [upd_self hm1] at F2
    clear F1 N1 hk1
    repeat' ((fail_if_success (with_reducible show wpAny _ _ (call (Value.builtin "bytes.join") _) _ _ _)); ((first | (k_unfold; (try dsimp only)) | (k_end; wrow_close) | walk1 | (dsimp only; walk1) | (leave1; walk_say "STEP leave1"; try dsimp only))))
    have hlen1 : (exAll n (exB0 n msg tag len r) (dpr tag) (ellN len n - 1 + 1)).length = ellN len n - 1 + 1 := by unfold exAll; rw [List.length_map, List.length_range]
    have hlen3 : (exAll n (exB0 n msg tag len r) (dpr tag) (ellN len n - 1 + 1)).flatten.length = (ellN len n - 1 + 1) * n := exAll_flat _ _ _ _
    have hlen4 : (ellN len n - 1 + 1) * n ≤ 17 * 64 := Nat.mul_le_mul (by omega) hn2
    refine join_call N2 (by k_mem) hby (by omega) (by omega) (by omega) ?_
    intro t10 k10
    (try dsimp only)
    k_steps
    rename News _ _ _ _ => N12
    rename Fr _ _ _ _ => F12
    refine KBc.slice_K (s := ⟨_, _, _, _, _⟩) F12 N12 (ks := KBw.bInts _) rfl (by constructor) (by constructor) (by rw [KBw.ints_length, List.size_toArray]; omega) ?_
    intro h13 t13 k13 F13 N13 hk13
    clear N12 F12
    k_steps
    refine hret _ _ _ _ ps1 _ (picked_none _ _) (by assumption) (cb_drop (by assumption) (fun p hp => List.mem_cons_of_mem _ hp)) hps1 G1
end
end
section
section
variable {w : World} {loose : List Str} {mean : ExcName → Option Value} {mg mb : Str → Option Value}
  {dp un : Nat} {gd : Option (List Code)} {cn : Str} {cs : Scope} {a : Addr} {ccd : Value} {cl : List (Str × Addr)} {outer : List Env} {A₀ : Around} {base h₀ : Heap} {L : Addr} {m : Str → Option Value} {news : List (Addr × Obj)} {s : Shared}
  {Q E : Value → Shared → Prop}
abbrev fqDict (w : World) (p : Int) (tp k1 k2 : Tok) (v : Int) (tv : Tok) : Obj :=
  dictOf [{ hash := PyData.keyHash w.params (Str.ofString "field_modulus"), key := Value.str (Str.ofString "field_modulus") k1, val := Value.int p tp }, { hash := PyData.keyHash w.params (Str.ofString "n"), key := Value.str (Str.ofString "n") k2, val := Value.int v tv }] 2
theorem fq_new {p v : Int} {t1 t2 : Tok} (hp : p ≠ 0)
    (B : Below A₀ base outer h₀) (F : Fr h₀ L s.heap m) (X : (Mine.hd.heap_1 w.params).In h₀) (N : News h₀ L s.heap news) (C : CodeHd h₀ 41 37) (T : Top topProg loose mean mg mb h₀) (hk : cs.kind = .function)
    (hd : dp ≤ 500) (hu : un ≤ 2000)
    (hret : ∀ x d k1 k2 tv h' tk', Fr h₀ L h' m → News h₀ L h' ((x, instObj 235 d) :: (d, fqDict w p t2 k1 k2 (Int.fmod v p) tv) :: news) → (∀ q ∈ news, q.1 < d) → d < x → Q (.ref x) { s with heap := h', toks := tk' }) :
    wpAny (model P17 w) (ktrTop dp un gd cn cs L a ccd cl outer) (call (.ref 235) [.int v t1, .int p t2]) Q E s := by
  have hdd : dp + 2 < recursionLimit := by unfold recursionLimit; omega
  have huu : un + 8 < cLine := by unfold cLine; omega
  k_dflt (refine' call_cls ?k1 ?k2 ?k3 ?k4 ?k5 ?k6 ?_; (case k1 => k_asm); (case k2 => k_asm); (case k3 => k_asm); (case k4 => k_is); (case k5 => k_is); (case k6 => k_is); k_whole; intro x' d' h' F' N' l1 l2; have l1a := l1; have l2a := l2; (try k_lt l1); (try k_lt2 l2); (try k_sweep))
  k_dflt cell_enter
  k_steps
  exact hret _ _ _ _ _ _ _ (by assumption) (by assumption) l1a l2a
end
end
local macro_rules | `(tactic| walk_at "call ref") => `(tactic| (k_here; (with_reducible show wpAny _ _ (call (Value.ref 35) _) _ _ _); k_dflt (refine' Mine.os2ip_call ?hb ?B ?F ?X ?N ?T ?hk ?hd ?hu ?_; (case hb => first | assumption | exact Nat.le_trans (KBc.size_picked_le _ _ _) (by omega) | walk_at "fits"); (case B | F | X | N | T => k_asm); (case hk => walk_at "kindfn"); (case hd | hu => walk_at "small")); intro t9 h9 k9 F9 N9; (try dsimp only); (try k_fold)))
local macro_rules | `(tactic| walk_at "call ref") => `(tactic| (k_here; (with_reducible show wpAny _ _ (call (Value.ref 235) _) _ _ _); k_dflt (refine' Mine.fq_new ?hp ?B ?F ?X ?N ?C ?T ?hk ?hd ?hu ?_; (case hp => omega); (case B | F | X | N | C | T => k_asm); (case hk => walk_at "kindfn"); (case hd | hu => walk_at "small")); intro x9 d9 ka9 kb9 tv9 h9 k9 F9 N9 l1 l2; (try k_lt l1); (try k_lt2 l2); (try dsimp only); (try k_fold)))
local macro_rules | `(tactic| walk_at "subscriptTail") => `(tactic| (k_here; (with_reducible show wpAny _ _ (subscriptTail _ (Expr.Slice _ _ none _) (Value.bytes _ _) (Value.ref _)) _ _ _); (with_reducible rename Fr _ _ _ _ => F12); (with_reducible rename News _ _ _ _ => N12); k_dflt (refine KBc.slice_K (s := ⟨_, _, _, _, _⟩) F12 N12 (ks := KBw.bInts _) rfl (by constructor) (by constructor) (by rw [KBw.ints_length]; walk_at "fits") ?_); intro h13 t13 k13 F13 N13 hk13; clear hk13 F12 N12; (try dsimp only)))
section
section
variable {w : World} {loose : List Str} {mean : ExcName → Option Value} {mg mb : Str → Option Value}
  {dp un : Nat} {gd : Option (List Code)} {cn : Str} {cs : Scope} {a : Addr} {ccd : Value} {cl : List (Str × Addr)} {outer : List Env} {A₀ : Around} {base h₀ : Heap} {L : Addr} {m : Str → Option Value} {news : List (Addr × Obj)} {s : Shared}
  {Q E : Value → Shared → Prop}
abbrev tupObj (vs : List Value) : Obj := { cls := .type "tuple", data := .seq vs.toArray }
/-- made elements of FQ, the newest first -/
inductive FqAre (w : World) (p : Int) (tp : Tok) : List Value → List (Addr × Obj) → List Int → Prop
  | nil : FqAre w p tp [] [] []
  | snoc {vs : List Value} {objs : List (Addr × Obj)} {ns : List Int} {x d : Addr} {k1 k2 tn : Tok} {n : Int} : FqAre w p tp vs objs ns → FqAre w p tp (vs ++ [.ref x]) ((x, instObj 235 d) :: (d, fqDict w p tp k1 k2 n tn) :: objs) (ns ++ [n])
theorem FqAre.length {w : World} {p : Int} {tp : Tok} {vs : List Value} {objs : List (Addr × Obj)} {ns : List Int} (h : FqAre w p tp vs objs ns) : vs.length = ns.length := by
  induction h with
  | nil => rfl
  | snoc _ ih => rw [List.length_append, List.length_append, ih]; rfl
/-- the expanded message -/
def expd (n : Nat) (msg tag : Array UInt8) (len r : Nat) : List UInt8 := (exAll n (exB0 n msg tag len r) (dpr tag) (ellN len n - 1 + 1)).flatten.toArray.toList.take len
def elemAt (E : List UInt8) (p : Int) (i : Nat) : Int := Int.fmod (Int.fmod ((val ((E.drop (64 * i)).take 64) : Nat) : Int) p) p
theorem FqAre.small {w : World} {p : Int} {tp : Tok} {vs : List Value} {objs : List (Addr × Obj)} {c : Nat} {el : Nat → Int} (h : FqAre w p tp vs objs ((List.range c).map el)) (hc : c ≤ 2) : (List.toArray vs).size ≤ 16384 := by
  have := h.length
  rw [List.length_map, List.length_range] at this
  rw [List.size_toArray]
  omega
local macro_rules | `(tactic| walk_at "call type:tuple") => `(tactic| (k_here; (with_reducible show wpAny _ _ (call (Value.type _) [Value.ref _]) _ _ _); (with_reducible rename Mine.FqAre _ _ _ _ _ _ => hf9); k_dflt (refine' kde_tupleOf ?k1 ?k2 ?k3 ?k4 ?k5 ?_; (case k1 | k2 => k_asm); (case k3 => exact News.isList (by k_asm) (by k_mem)); (case k4 => exact Mine.FqAre.small hf9 (by omega)); (case k5 => exact rfl); k_whole); intro D' h' F' N' l1; (try k_lt l1); (try k_sweep)))
theorem mem_dr {α : Type} {q a b : α} {r : List α} (h : q ∈ a :: r) : q ∈ a :: b :: r := by
  rcases List.mem_cons.mp h with rfl | h
  · exact .head _
  · exact .tail _ (.tail _ h)
theorem mem_a {α : Type} {q l x d i t f e : α} {r : List α} (h : q ∈ l :: x :: d :: i :: t :: f :: e :: r) : q ∈ x :: d :: i :: l :: t :: f :: e :: r := by
  refine (?_ : ∀ z ∈ _, z ∈ _) q h
  walk_at "subs"
theorem mem_b {α : Type} {q l x d i t f e : α} {r : List α} (h : q ∈ i :: l :: t :: f :: e :: x :: d :: r) : q ∈ l :: x :: d :: i :: t :: f :: e :: r := by
  refine (?_ : ∀ z ∈ _, z ∈ _) q h
  walk_at "subs"
theorem fq_field {f fld d : Addr} {n r c : Nat} {p vn : Int} {msg tag : Array UInt8} {t1 t2 t3 t4 t5 tp k1 k2 tn : Tok} {ps : Array Value} (hc : c ≤ 2) (hp : 7 ≤ p) (hL : LamIn news f n)
    (B : Below A₀ base outer h₀) (F : Fr h₀ L s.heap m) (X : (Mine.hd.heap_1 w.params).In h₀) (N : News h₀ L s.heap ((37, tabObj ps) :: (fld, instObj 235 d) :: (d, fqDict w p tp k1 k2 vn tn) :: news)) (hps : TriplesOk ps.toList) (C : CodeHd h₀ 41 37) (T : Top topProg loose mean mg mb h₀) (hk : cs.kind = .function)
    (G : AllBare s.gens) (hnw : ∀ q ∈ (fld, instObj 235 d) :: (d, fqDict w p tp k1 k2 vn tn) :: news, q.1 ≠ 37)
    (hd : dp ≤ 460) (hu : un ≤ 1700) (hn : 16 ≤ n) (hn2 : n ≤ 64) (hr : r ≤ 40) (hm : msg.size ≤ 20) (ht : tag.size ≤ 20)
    (hret : ∀ tu vs objs h' tk' g' ps', FqAre w p tp vs objs ((List.range c).map (elemAt (expd n msg tag (64 * c) r) p)) → Fr h₀ L h' m → News h₀ L h' ((tu, tupObj vs) :: (37, tabObj ps') :: (fld, instObj 235 d) :: (d, fqDict w p tp k1 k2 vn tn) :: (objs ++ news)) → TriplesOk ps'.toList → AllBare g' → Q (.ref tu) { s with heap := h', toks := tk', gens := g' }) :
    wpAny (model P17 w) (ktrTop dp un gd cn cs L a ccd cl outer) (call (.ref 63) [.bytes msg t1, .int (c : Int) t3, .bytes tag t2, .ref f, .int (n : Int) t4, .int (r : Int) t5, .ref fld]) Q E s := by
  have hdd : dp + 1 < recursionLimit := by unfold recursionLimit; omega
  have huu : un + 8 < cLine := by unfold cLine; omega
  refine wpAny_call ?_
  k_dflt cell_enter
  have C' := C.keeps (Fr.keep (by assumption : Fr h₀ L _ m))
  (repeat' ((fail_if_success (with_reducible show wpAny _ _ (call (Value.ref 49) _) _ _ _)); ((first | (k_unfold; (try dsimp only)) | (k_end; wrow_close) | walk1 | (dsimp only; walk1) | (leave1; walk_say "STEP leave1"; try dsimp only)))))
  rename News _ _ _ _ => N0
  rename Top _ _ _ _ _ _ => T0
  refine expand_call (len := 64 * c) (by omega) (hL.mono (by walk_at "subN")) (by assumption) (by assumption) (by assumption) N0 hps C' T0 rfl (by assumption) hnw (by walk_at "small") (by walk_at "small") hn hn2 hr hm ht (by omega) ?_
  intro t9 h9 k9 g9 ps9 pb hpb F9 N9 hps9 G9
  have hpb : pb.toList = expd n msg tag (64 * c) r := hpb
  have hpbs : pb.size ≤ 256 := by
    rw [← Array.length_toList, hpb, expd, List.length_take]
    omega
  dsimp only
  (repeat' ((fail_if_success (with_reducible show wpAny _ _ (exec (Stmt.For _ _ _ _ _) _) _ _ _)); ((first | (k_unfold; (try dsimp only)) | (k_end; wrow_close) | walk1 | (dsimp only; walk1) | (leave1; walk_say "STEP leave1"; try dsimp only)))))
  rename_i lu hq1 l1 hq2 F0 N0
  have hrng : ∀ i : Nat, i < c + 1 → (List.range (i + 1)).map (elemAt (expd n msg tag (64 * c) r) p) = (List.range i).map (elemAt (expd n msg tag (64 * c) r) p) ++ [elemAt (expd n msg tag (64 * c) r) p i] := fun i _ => by rw [List.range_succ, List.map_append]; rfl
  refine for_rangeG (n := c) (a₀ := 0) F0 (fun m₀ i m' news' g => (∀ y, y ≠ Str.ofString "i" → y ≠ Str.ofString "elem_offset" → y ≠ Str.ofString "tv" → m' y = m₀ y) ∧
    ∃ vs nn objs, news' = (lu, listOf (List.toArray vs) nn) :: (37, tabObj ps9) :: (fld, instObj 235 d) :: (d, fqDict w p tp k1 k2 vn tn) :: (objs ++ news) ∧ FqAre w p tp vs objs ((List.range i).map (elemAt (expd n msg tag (64 * c) r) p)) ∧ (∀ q ∈ objs, lu < q.1) ∧ g = g9) rfl rfl rfl ?_
  k_steps
  rename_i t1' u1' v1' hr1 F1 N1 hk1
  obtain ⟨q1, q2, q3, q4⟩ := l1
  have hn1 : ∀ q ∈ news, q.1 ≠ lu := fun q hq => Nat.ne_of_lt (allLt_mem q4 q hq)
  refine ⟨_, _, _, _, _, _, _, rfl, hr1, small_one (by omega) (by omega) (by omega) (by omega), by rw [rangeSize_nat]; omega, F1, N1, ⟨fun _ _ _ _ => rfl, _, _, [], rfl, .nil, fun _ h => absurd h List.not_mem_nil, rfl⟩, ?_, ?_⟩
  · rintro i m₁ news₁ g h tk1 t hi ⟨hm1, vs, nn, objs, rfl, hfq, hob, rfl⟩ hne F2 N2
    rw [off_eq3 hm1] at F2
    clear F1 N1 hk1
    generalize hrest : objs ++ news = rest at *
    (repeat' ((fail_if_success (with_reducible show wpAny _ _ (call (Value.builtin "list.append") _) _ _ _)); ((first | (k_unfold; (try dsimp only)) | (k_end; wrow_close) | walk1 | (dsimp only; walk1) | (leave1; walk_say "STEP leave1"; try dsimp only)))))
    rename News _ _ _ _ => N10
    rename Fr _ _ _ _ => F10
    rename ∀ q ∈ objs, lu < q.1 => hob
    rename _ ∧ lu < _ ∧ _ => l1
    rename _ < _ => l2
    have hI : lu ≠ _ := hne _ (.head _)
    have hrl : ∀ q ∈ rest, q.1 ≠ lu := by
      intro q hq
      rw [← hrest] at hq
      rcases List.mem_append.mp hq with hq | hq
      · exact Nat.ne_of_gt (hob q hq)
      · exact hn1 q hq
    refine append_at' (news := _ :: _ :: _ :: (37, tabObj ps9) :: _ :: _ :: rest) F10 (fun q hq => N10 q (mem_a hq)) ?_ ?_ ?_
    · refine List.forall_mem_cons.mpr ⟨Nat.ne_of_gt (Nat.lt_trans l1.2.1 l2), List.forall_mem_cons.mpr ⟨Nat.ne_of_gt l1.2.1, List.forall_mem_cons.mpr ⟨fun e => hI e.symm, List.forall_mem_cons.mpr ⟨Nat.ne_of_lt q1, List.forall_mem_cons.mpr ⟨Nat.ne_of_lt q2, List.forall_mem_cons.mpr ⟨Nat.ne_of_lt q3, hrl⟩⟩⟩⟩⟩⟩
    · have := hfq.length
      rw [List.length_map, List.length_range] at this
      omega
    intro h11 F11 N11
    k_steps
    subst hrest
    have hval : elemAt (expd n msg tag (64 * c) r) p i = Int.fmod (Int.fmod ((val (KBy.picked pb (some (64 * ((0 + (i : Int)) * 1))) (some (64 * ((0 + (i : Int)) * 1) + 64))).toList : Nat) : Int) p) p := by
      have e1 : (64 * ((0 + (i : Int)) * 1)) = ((64 * i : Nat) : Int) := by omega
      have e2 : (64 * ((0 + (i : Int)) * 1) + 64) = ((64 * i + 64 : Nat) : Int) := by omega
      rw [e2, e1, picked_some, hpb, Nat.add_sub_cancel_left]
      rfl
    refine ⟨rfl, h11, _, _, _, _ :: _ :: _ :: _ :: _ :: _ :: (objs ++ news), rfl, F11, fun q hq => N11 q (mem_b hq), ?_, fun y h1 h2 h3 => ?_, _, _, _ :: _ :: objs, rfl, ?_, ?_, rfl⟩
    · refine List.forall_mem_cons.mpr ⟨hI, List.forall_mem_cons.mpr ⟨hne _ (.tail _ (.head _)), List.forall_mem_cons.mpr ⟨hne _ (.tail _ (.tail _ (.head _))), List.forall_mem_cons.mpr ⟨hne _ (.tail _ (.tail _ (.tail _ (.head _)))), List.forall_mem_cons.mpr ⟨Nat.ne_of_gt (Nat.lt_trans l1.1 l2), List.forall_mem_cons.mpr ⟨Nat.ne_of_gt l1.1, fun q hq => hne _ (.tail _ (.tail _ (.tail _ (.tail _ hq))))⟩⟩⟩⟩⟩⟩
    · exact (if_neg h3).trans ((if_neg h2).trans ((if_neg h1).trans ((if_neg h1).trans ((if_neg h2).trans (if_neg h3)))))
    · rw [hrng i (by omega), hval]
      exact FqAre.snoc hfq
    · exact List.forall_mem_cons.mpr ⟨Nat.lt_trans l1.2.1 l2, List.forall_mem_cons.mpr ⟨l1.2.1, hob⟩⟩
  · rintro m₁ news₁ g h tk1 ⟨hm1, vs, nn, objs, rfl, hfq, hob, rfl⟩ F2 N2
    rw [off_eq3 hm1] at F2
    clear F1 N1 hk1
    generalize hrest : objs ++ news = rest at *
    k_steps
    rename News _ _ _ _ => N10
    subst hrest
    rename FqAre _ _ _ _ _ _ => hfq
    exact hret _ _ _ _ _ _ _ hfq (by assumption) (fun q hq => N10 q (mem_dr hq)) hps9 G9
end
end
section
section
variable {w : World} {loose : List Str} {mean : ExcName → Option Value} {mg mb : Str → Option Value}
  {dp un : Nat} {gd : Option (List Code)} {cn : Str} {cs : Scope} {a : Addr} {ccd : Value} {cl : List (Str × Addr)} {outer : List Env} {A₀ : Around} {base h₀ : Heap} {L : Addr} {m : Str → Option Value} {news : List (Addr × Obj)} {s : Shared}
  {Q E : Value → Shared → Prop}
theorem mem_c {α : Type} {q t a b c : α} {r : List α} (h : q ∈ t :: a :: b :: c :: r) : q ∈ a :: b :: c :: t :: r := by
  refine (?_ : ∀ z ∈ _, z ∈ _) q h
  walk_at "subs"
theorem items_two {x y p : Int} {acc : Array Value} (h : ItemsOf (fun i v => ∃ t, v = .int ([x.fmod p, y.fmod p].getD i 0) t) acc 2) : ∃ u v, acc = #[.int (x.fmod p) u, .int (y.fmod p) v] := by
  obtain ⟨hz, hi⟩ := h
  obtain ⟨l⟩ := acc
  match l, hz with
  | [v1, v2], _ =>
    obtain ⟨u, rfl⟩ := hi 0 v1 rfl
    obtain ⟨v, rfl⟩ := hi 1 v2 rfl
    exact ⟨u, v, rfl⟩
theorem push2 {h : Heap} (F : Fr h₀ L h m) (N : News h₀ L h news) (o : Obj) (o2 : Addr → Obj) (f1 : o.isFreed = false) (f2 : ∀ a, (o2 a).isFreed = false) : News h₀ L ((h.push o).push (o2 h.objs.size)) ((h.objs.size + 1, o2 h.objs.size) :: (h.objs.size, o) :: news) := by
  have N2 := News.push (F.push o) (News.push F N o f1) (o2 h.objs.size) (f2 _)
  rw [Heap.size_push] at N2
  exact N2
theorem news_lt {h : Heap} (N : News h₀ L h news) : ∀ q ∈ news, q.1 < h.objs.size := fun q hq => Heap.lt_size (N q hq).1
theorem news_c {h : Heap} {a b c t : Addr × Obj} {r : List (Addr × Obj)} (N : News h₀ L h (a :: b :: c :: t :: r)) : News h₀ L h (t :: a :: b :: c :: r) := fun q hq => N q (mem_c hq)
theorem lt_swap {a d : Addr} {o o' : Obj} {r : List (Addr × Obj)} (h : ∀ q ∈ (a, o) :: r, q.1 < d) : ∀ q ∈ (a, o') :: r, @LT.lt Nat _ q.1 d := fun q hq => (List.mem_cons.mp hq).elim (fun e => e ▸ h (a, o) (.head _)) fun z => h q (.tail _ z)
local macro_rules | `(tactic| walk_at "z") => `(tactic| skip)
local macro_rules | `(tactic| walk_at "call type:tuple") => `(tactic| (k_here; (with_reducible show wpAny _ _ (call (Value.type _) [Value.ref _]) _ _ _); (refine call_tuple_tup (News.isTup (by k_asm) (by k_mem)) ?_)))
theorem mem_e {α : Type} {q t a b c : α} {r : List α} (h : q ∈ t :: a :: c :: r) : q ∈ t :: a :: b :: c :: r := by
  refine (?_ : ∀ z ∈ _, z ∈ _) q h
  walk_at "subs"
abbrev fq2Dict (w : World) (p : Int) (tp : Tok) (D ct mt : Addr) (k1 k2 k3 k4 k5 t : Tok) : Obj :=
  dictOf [{ hash := PyData.keyHash w.params (Str.ofString "field_modulus"), key := Value.str (Str.ofString "field_modulus") k1, val := Value.int p tp }, { hash := PyData.keyHash w.params (Str.ofString "mc_tuples"), key := Value.str (Str.ofString "mc_tuples") k2, val := Value.ref D },
    { hash := PyData.keyHash w.params (Str.ofString "coeffs"), key := Value.str (Str.ofString "coeffs") k3, val := Value.ref ct }, { hash := PyData.keyHash w.params (Str.ofString "modulus_coeffs"), key := Value.str (Str.ofString "modulus_coeffs") k4, val := Value.ref mt },
    { hash := PyData.keyHash w.params (Str.ofString "degree"), key := Value.str (Str.ofString "degree") k5, val := Value.int 2 t }] 5
theorem fq2_new {p x y : Int} {e mt : Addr} {k : Nat} {ps : Array Value} {t1 t2 t3 t4 t5 : Tok} (hp : 7 ≤ p)
    (B : Below A₀ base outer h₀) (F : Fr h₀ L s.heap m) (X : (Mine.hd.heap_1 w.params).In h₀) (N : News h₀ L s.heap ((248, tabObj ps) :: (e, listOf #[.int x t1, .int y t2] k) :: (mt, tupObj [.int 1 t3, .int 0 t4]) :: news)) (hps : TriplesOk ps.toList) (C : CodeHd h₀ 250 248) (T : Top topProg loose mean mg mb h₀) (hk : cs.kind = .function)
    (G : AllBare s.gens) (hnw : ∀ q ∈ (e, listOf #[.int x t1, .int y t2] k) :: (mt, tupObj [.int 1 t3, .int 0 t4]) :: news, q.1 ≠ 248)
    (hd : dp ≤ 500) (hu : un ≤ 2000)
    (hret : ∀ (x' ct d D : Addr) (k1 k2 k3 k4 k5 u v t : Tok) h' tk' g' ps', Fr h₀ L h' m → News h₀ L h' ((ct, tupObj [.int (x.fmod p) u, .int (y.fmod p) v]) :: (248, tabObj ps') :: (x', instObj 389 d) :: (d, fq2Dict w p t5 D ct mt k1 k2 k3 k4 k5 t) :: (e, listOf #[.int x t1, .int y t2] k) :: (mt, tupObj [.int 1 t3, .int 0 t4]) :: news) → TriplesOk ps'.toList → AllBare g' →
      AllLt d ((248, tabObj ps) :: (e, listOf #[.int x t1, .int y t2] k) :: (mt, tupObj [.int 1 t3, .int 0 t4]) :: news) → d < x' → x' < ct → Q (.ref x') { s with heap := h', toks := tk', gens := g' }) :
    wpAny (model P17 w) (ktrTop dp un gd cn cs L a ccd cl outer) (call (.ref 389) [.ref e, .ref mt, .int p t5]) Q E s := by
  have hdd : dp + 2 < recursionLimit := by unfold recursionLimit; omega
  have huu : un + 8 < cLine := by unfold cLine; omega
  k_dflt (refine' call_cls ?k1 ?k2 ?k3 ?k4 ?k5 ?k6 ?_; (case k1 => k_asm); (case k2 => k_asm); (case k3 => k_asm); (case k4 => k_is); (case k5 => k_is); (case k6 => k_is); k_whole; intro x' d' h' F' N' l1 l2; have l1a := l1; have l2a := l2; (try k_lt l1); (try k_lt2 l2); (try k_sweep))
  k_dflt (((refine' code_defC ?k1 ?k2 ?k3 ?k4 ?k5 ?kA ?kF ?kK ?k6 ?k7 ?k8 ?k9 ?kB ?kD ?_ ?c2 ?c3 ?c4; (case kA => exact rfl); (case kF => exact rfl); (case kK => first | assumption | exact rfl); (case k1 => k_asm); (case k2 => k_asm); (case k3 => k_asm); (case k4 => k_asm); (case k5 => k_asm); (case k6 => k_is); (case k7 => k_is); (case k8 => ktr_room); (case k9 => exact BindsTo.of_eq rfl); (case kB => exact rfl); (case kD => decide +kernel); (case c2 => exact rfl); (case c3 => exact rfl); (case c4 => exact rfl); k_whole; intro gZq LZq hZq tkZq cellsZq FGZq FZq NZq YZq BZq XZq TZq l1Zq; (try k_lt l1Zq); k_cells YZq; (try simp only [List.cons_append, List.nil_append] at NZq); (try dsimp only); (try k_lift BZq); (try k_fold))))
  have C' := C.keeps (Fr.keep (by assumption : Fr h₀ L _ m))
  (repeat' ((fail_if_success (with_reducible show wpAny _ _ (eval (Expr.GeneratorExp _ _ _ _) _) _ _ _)); (fail_if_success (with_reducible show wpAny _ _ (eval (Expr.ListComp _ _ _ _) _) _ _ _)); (fail_if_success (with_reducible show wpAny _ _ (call (Value.type _) [Value.ref _]) _ _ _)); ((first | (k_unfold; (try dsimp only)) | (k_end; wrow_close) | walk1 | (dsimp only; walk1) | (leave1; walk_say "STEP leave1"; try dsimp only)))))
  refine comp_enum (by k_asm) rfl (by decide) rfl (by decide) rfl rfl ?_
  (repeat' ((fail_if_success (with_reducible show wpAny _ _ (eval (Expr.GeneratorExp _ _ _ _) _) _ _ _)); (fail_if_success (with_reducible show wpAny _ _ (eval (Expr.ListComp _ _ _ _) _) _ _ _)); (fail_if_success (with_reducible show wpAny _ _ (call (Value.type _) [Value.ref _]) _ _ _)); ((first | (k_unfold; (try dsimp only)) | (k_end; wrow_close) | walk1 | (dsimp only; walk1) | (leave1; walk_say "STEP leave1"; try dsimp only)))))
  rename Fr _ _ _ _ => F0
  rename News _ _ _ _ => N0
  rename Top _ _ _ _ _ _ => T0
  refine call_enum_tup (N0 (mt, tupObj [.int 1 t3, .int 0 t4]) (by k_mem)).1 rfl rfl ?_
  refine ⟨_, _, mt, _, _, _, _, _, rfl, rfl, (F0.push _).push _, ?_, (by k_mem : (mt, tupObj [.int 1 t3, .int 0 t4]) ∈ _), rfl, rfl, Nat.lt_succ_self _, fun q hq => Heap.lt_size (N0 q hq).1, fun D h tk F1 N1 => ?_⟩
  · exact push2 F0 N0 (tupItO mt) enumO rfl fun _ => rfl
  dsimp only at F1 N1 ⊢
  clear F0 N0
  (repeat' ((fail_if_success (with_reducible show wpAny _ _ (eval (Expr.GeneratorExp _ _ _ _) _) _ _ _)); (fail_if_success (with_reducible show wpAny _ _ (eval (Expr.ListComp _ _ _ _) _) _ _ _)); (fail_if_success (with_reducible show wpAny _ _ (call (Value.type _) [Value.ref _]) _ _ _)); ((first | (k_unfold; (try dsimp only)) | (k_end; wrow_close) | walk1 | (dsimp only; walk1) | (leave1; walk_say "STEP leave1"; try dsimp only)))))
  rename Fr _ _ _ _ => F0
  rename News _ _ _ _ => N0
  rename Top _ _ _ _ _ _ => T0
  rename CodeHd _ _ _ => C0
  refine gen_mod (cc := _) (x := x') (pm := p) (tp := t5) (P := 248) (c := 250) (ps := ps) F0 T0 C0 rfl rfl rfl rfl rfl (by decide) rfl rfl rfl rfl rfl hdd (by omega) ?_ (fun _ => rfl)
  (first | (k_unfold; (try dsimp only)) | (k_end; wrow_close) | walk1 | (dsimp only; walk1) | (leave1; walk_say "STEP leave1"; try dsimp only))
  rename _ ∧ _ ∧ 248 < _ ∧ _ ∧ _ ∧ _ => lL
  rename _ = PySem.Data.cell _ => d1
  obtain ⟨q1, q2, q3, q4, q5, q6⟩ := lL
  refine ⟨e, x, y, t1, t2, k, _, _ :: _ :: _ :: _, rfl, F0, fun q hq => N0 q (mem_c hq), by k_mem, .head _, d1.trans rfl, hps, G, List.forall_mem_cons.mpr ⟨Nat.ne_of_gt (Nat.lt_succ_of_lt q3), List.forall_mem_cons.mpr ⟨Nat.ne_of_gt (Nat.lt_trans l1.1 l2), List.forall_mem_cons.mpr ⟨Nat.ne_of_gt l1.1, hnw⟩⟩⟩, ?_, ?_⟩
  · intro A' E' Q' u ps'' Fu Nu hq
    (first | (k_unfold; (try dsimp only)) | (k_end; wrow_close) | walk1 | (dsimp only; walk1) | (leave1; walk_say "STEP leave1"; try dsimp only))
    exact hq
  intro a1 g fp wr St ps' h5 tk5 g5 W hG hst5 hfp hwr F5 N5 hps5 G5 haf
  dsimp only at hst5 hwr ⊢
  have bL := F0.ns.lt
  have bN := news_lt (news_c N0)
  clear F0 N0
  (repeat' ((fail_if_success (with_reducible show wpAny _ _ (eval (Expr.GeneratorExp _ _ _ _) _) _ _ _)); (fail_if_success (with_reducible show wpAny _ _ (eval (Expr.ListComp _ _ _ _) _) _ _ _)); (fail_if_success (with_reducible show wpAny _ _ (call (Value.type _) [Value.ref _]) _ _ _)); ((first | (k_unfold; (try dsimp only)) | (k_end; wrow_close) | walk1 | (dsimp only; walk1) | (leave1; walk_say "STEP leave1"; try dsimp only)))))
  refine call_tuple_gen W.in4_3 (fun i s' st => (hG i s' st).typeIs) hst5 hfp haf (fun s6 acc hm hacc => ?_) (by rw [sizeLine_eq]; omega)
  obtain ⟨u, v, rfl⟩ := items_two hacc
  obtain ⟨h6, g6, d6, tk6, os6⟩ := s6
  obtain ⟨m1, m2, m3, m4, m5⟩ := hm
  dsimp only at m1 m2 m3 m4 m5
  subst m3 m4
  have kp : ∀ b o, @LT.lt Nat _ b _ → h5.get? b = some o → h6.get? b = some o := fun b o hb z => m1 b o (fun hw => absurd (hwr b hw) (Nat.not_le_of_lt hb)) z
  have F6 := fr_kept F5 bL kp
  have N6 := news_kept N5 (lt_swap bN) kp
  clear F5 N5
  have F7 := F6.push { cls := .type "tuple", data := .seq #[.int (x.fmod p) u, .int (y.fmod p) v] }
  have N7 := News.push F6 N6 { cls := .type "tuple", data := .seq #[.int (x.fmod p) u, .int (y.fmod p) v] }
  have lD := news_lt N6
  clear F6 N6
  k_lt lD
  k_steps
  rename News h₀ _ _ _ => N9
  rename Fr h₀ _ _ _ => F9
  refine hret _ _ _ _ _ _ _ _ _ _ _ _ _ _ _ ps' F9 (fun q hq => N9 q (mem_e hq)) hps5 (m2.bare G5) l1 l2 lD.2.2.1
end
end
section
section
variable {w : World} {loose : List Str} {mean : ExcName → Option Value} {mg mb : Str → Option Value}
  {dp un : Nat} {gd : Option (List Code)} {cn : Str} {cs : Scope} {a : Addr} {ccd : Value} {cl : List (Str × Addr)} {outer : List Env} {A₀ : Around} {base h₀ : Heap} {L : Addr} {m : Str → Option Value} {news : List (Addr × Obj)} {s : Shared}
  {Q E : Value → Shared → Prop}
theorem p256_log {k : Nat} (hk : k ≤ 40) : ((256 : Int) ^ k).natAbs.log2 < 9000 := by
  rw [Int.natAbs_pow]
  have e : ((256 : Int).natAbs) ^ k = 2 ^ (8 * k) := by rw [Nat.pow_mul]; rfl
  rw [e, Nat.log2_two_pow]
  omega
theorem p256_ne {k : Nat} : (256 : Int) ^ k ≠ 0 := by
  have : (0 : Int) < 256 ^ k := Int.pow_pos (by decide)
  omega
def octAt (x : Int) (k : Nat) : Int := Int.fmod (Int.fdiv x (256 ^ k)) 256
theorem mem_dr9 {α : Type} {q a b : α} {r : List α} (h : q ∈ a :: r) : q ∈ a :: b :: r := by
  rcases List.mem_cons.mp h with rfl | h
  · exact .head _
  · exact .tail _ (.tail _ h)
theorem off1_mem {D : Addr} : ∀ {l : List (Addr × Obj)}, LCg.Off1 D l → ∀ q ∈ l, q.1 ≠ D
  | [], _, _, hq => absurd hq List.not_mem_nil
  | _ :: _, h, q, hq => by
    rcases List.mem_cons.mp hq with rfl | hq
    · exact h.1
    · exact off1_mem h.2 q hq
theorem range_map {α : Type} (f : Int → α) (n : Nat) : List.map f (rangeKs 0 ((n : Int) - 0).toNat) = (List.range n).map (fun (i : Nat) => f (i : Int)) := by
  have e : ((n : Int) - 0).toNat = n := by omega
  rw [e]
  unfold rangeKs
  rw [List.map_map]
  refine List.map_congr_left fun i _ => ?_
  show f (0 + (i : Int)) = _
  rw [Int.zero_add]
theorem range_map_oct (x : Int) (n : Nat) : List.map (fun k' : Int => (x.fdiv (256 ^ k'.toNat)).fmod 256) (rangeKs 0 ((n : Int) - 0).toNat) = (List.range n).map (octAt x) := range_map _ n
local macro_rules | `(tactic| walk_at "binaryOp FloorDiv int int") => `(tactic| (k_here; (with_reducible show wpAny _ _ (binaryOp Operator.FloorDiv (Value.int _ _) (Value.int (256 ^ _) _)) _ _ _); (refine floordiv_int Mine.p256_ne ?_ (Or.inl (PyProof.noPylong_of_log2 (Mine.p256_log (by omega)))))))
theorem octets_call {x : Int} {n : Nat} {t1 t2 : Tok} (hx : 0 ≤ x) (hn : n ≤ 20)
    (B : Below A₀ base outer h₀) (F : Fr h₀ L s.heap m) (X : (Mine.hd.heap_1 w.params).In h₀) (N : News h₀ L s.heap news) (T : Top topProg loose mean mg mb h₀) (hk : cs.kind = .function)
    (hd : dp ≤ 500) (hu : un ≤ 2000) 
    (hret : ∀ l ys h' tk', IntsAre ys ((List.range n).map (octAt x)) → Fr h₀ L h' m → News h₀ L h' ((l, LCg.lst ys) :: news) → (∀ q ∈ news, q.1 ≠ l) → Q (.ref l) { s with heap := h', toks := tk' }) :
    wpAny (model P17 w) (ktrTop dp un gd cn cs L a ccd cl outer) (call (.ref 410) [.int x t1, .int (n : Int) t2]) Q E s := by
  have hdd : dp + 2 < recursionLimit := by unfold recursionLimit; omega
  have huu : un + 8 < cLine := by unfold cLine; omega
  refine wpAny_call ?_
  k_dflt (((refine' code_defC ?k1 ?k2 ?k3 ?k4 ?k5 ?kA ?kF ?kK ?k6 ?k7 ?k8 ?k9 ?kB ?kD ?_ ?c2 ?c3 ?c4; (case kA => exact rfl); (case kF => exact rfl); (case kK => first | assumption | exact rfl); (case k1 => k_asm); (case k2 => k_asm); (case k3 => k_asm); (case k4 => k_asm); (case k5 => k_asm); (case k6 => k_is); (case k7 => k_is); (case k8 => ktr_room); (case k9 => exact BindsTo.of_eq rfl); (case kB => exact rfl); (case kD => decide +kernel); (case c2 => exact rfl); (case c3 => exact rfl); (case c4 => exact rfl); k_whole; intro gZq LZq hZq tkZq cellsZq FGZq FZq NZq YZq BZq XZq TZq l1Zq; (try k_lt l1Zq); k_cells YZq; (try simp only [List.cons_append, List.nil_append] at NZq); (try dsimp only); (try k_lift BZq); (try k_fold))))
  k_steps
  rename News h₀ _ _ _ => N9
  rename _ ∧ LCg.Off1 _ _ => o9
  rename IntsAre _ _ => i9
  refine hret _ _ _ _ ?_ (by assumption) (cb_drop N9 (fun q hq => mem_dr9 hq)) (off1_mem o9.2)
  rw [← range_map_oct x n]
  exact i9
theorem octAt_in (x : Int) (k : Nat) : 0 ≤ octAt x k ∧ octAt x k < 256 := ⟨Int.fmod_nonneg_of_pos _ (by decide), Int.fmod_lt_of_pos _ (by decide)⟩
/-- the octets of a number -/
def octList (x : Int) (n : Nat) : List UInt8 := (List.range n).map fun k => UInt8.ofNat (octAt x k).toNat
theorem octList_ints (x : Int) (n : Nat) : (octList x n).map (fun c => ((c.toNat : Nat) : Int)) = (List.range n).map (octAt x) := by
  unfold octList
  rw [List.map_map]
  refine List.map_congr_left fun k _ => ?_
  have h := octAt_in x k
  show (((UInt8.ofNat (octAt x k).toNat).toNat : Nat) : Int) = _
  rw [UInt8.toNat_ofNat', Nat.mod_eq_of_lt (by omega)]
  omega
theorem octets_call3 {x k : Int} {t1 t2 : Tok} (hx : 0 ≤ x) (hk0 : 0 ≤ k) (hn : k < 20)
    (B : Below A₀ base outer h₀) (F : Fr h₀ L s.heap m) (X : (Mine.hd.heap_1 w.params).In h₀) (N : News h₀ L s.heap news) (T : Top topProg loose mean mg mb h₀) (hk : cs.kind = .function)
    (hd : dp ≤ 500) (hu : un ≤ 2000)
    (hret : ∀ l ys (M : List UInt8) h' tk', M.length ≤ 20 → IntsAre ys (M.map fun c => ((c.toNat : Nat) : Int)) → Fr h₀ L h' m → News h₀ L h' ((l, LCg.lst ys) :: news) → (∀ q ∈ news, q.1 ≠ l) → Q (.ref l) { s with heap := h', toks := tk' }) :
    wpAny (model P17 w) (ktrTop dp un gd cn cs L a ccd cl outer) (call (.ref 410) [.int x t1, .int k t2]) Q E s := by
  obtain ⟨n, rfl⟩ := Int.eq_ofNat_of_zero_le hk0
  refine octets_call hx (by omega) B F X N T hk hd hu fun l ys h' tk' hi F' N' ho => ?_
  refine hret l ys (octList x n) h' tk' ?_ ?_ F' N' ho
  · unfold octList
    rw [List.length_map, List.length_range]
    omega
  · rw [octList_ints]
    exact hi
end
end
section
section
variable {w : World} {loose : List Str} {mean : ExcName → Option Value} {mg mb : Str → Option Value}
  {dp un : Nat} {gd : Option (List Code)} {cn : Str} {cs : Scope} {a : Addr} {ccd : Value} {cl : List (Str × Addr)} {outer : List Env} {A₀ : Around} {base h₀ : Heap} {L : Addr} {m : Str → Option Value} {news : List (Addr × Obj)} {s : Shared}
  {Q E : Value → Shared → Prop}
/-- made elements of FQ2, the newest first -/
inductive Fq2Are (w : World) (p : Int) (tp : Tok) (mt : Addr) : List Value → List (Addr × Obj) → List (Int × Int) → Prop
  | nil : Fq2Are w p tp mt [] [] []
  | snoc {vs : List Value} {objs : List (Addr × Obj)} {ns : List (Int × Int)} {x d ct D : Addr} {k1 k2 k3 k4 k5 t u v : Tok} {n1 n2 : Int} : Fq2Are w p tp mt vs objs ns →
      Fq2Are w p tp mt (vs ++ [.ref x]) ((ct, tupObj [.int n1 u, .int n2 v]) :: (x, instObj 389 d) :: (d, fq2Dict w p tp D ct mt k1 k2 k3 k4 k5 t) :: objs) (ns ++ [(n1, n2)])
theorem Fq2Are.length {w : World} {p : Int} {tp : Tok} {mt : Addr} {vs : List Value} {objs : List (Addr × Obj)} {ns : List (Int × Int)} (h : Fq2Are w p tp mt vs objs ns) : vs.length = ns.length := by
  induction h with
  | nil => rfl
  | snoc _ ih => rw [List.length_append, List.length_append, ih]; rfl
theorem Fq2Are.small {w : World} {p : Int} {tp : Tok} {mt : Addr} {vs : List Value} {objs : List (Addr × Obj)} {c : Nat} {el : Nat → Int × Int} (h : Fq2Are w p tp mt vs objs ((List.range c).map el)) (hc : c ≤ 2) : (List.toArray vs).size ≤ 16384 := by
  have := h.length
  rw [List.length_map, List.length_range] at this
  rw [List.size_toArray]
  omega
local macro_rules | `(tactic| walk_at "call type:tuple") => `(tactic| (k_here; (with_reducible show wpAny _ _ (call (Value.type _) [Value.ref _]) _ _ _); (with_reducible rename Mine.Fq2Are _ _ _ _ _ _ _ => hf9); k_dflt (refine' kde_tupleOf ?k1 ?k2 ?k3 ?k4 ?k5 ?_; (case k1 | k2 => k_asm); (case k3 => exact News.isList (by k_asm) (by k_mem)); (case k4 => exact Mine.Fq2Are.small hf9 (by omega)); (case k5 => exact rfl); k_whole); intro D' h' F' N' l1; (try k_lt l1); (try k_sweep)))
theorem unr_off {I : Addr} {l : List (Addr × Obj)} (h : AllLt I l) : ∀ p ∈ l, p.1 ≠ I := fun p hp => Nat.ne_of_lt (allLt_mem h p hp)
local macro_rules | `(tactic| walk_at "UnrEnd") => `(tactic| ((with_reducible rename News _ _ _ _ => N7); (with_reducible rename Fr _ _ _ _ => F7); (with_reducible rename @LT.lt Nat _ _ _ ∧ _ => lI); (refine UnrEnd.intro F7 N7 _ (fun p hp => hp) (Mine.unr_off (by exact lI)) ?_)))
section
variable {α : Type} {q E R1 U T37 T Fl D M ct X DD : α} {rest : List α}
theorem mem_f (h : q ∈ T :: E :: M :: R1 :: U :: T37 :: Fl :: D :: rest) : q ∈ E :: R1 :: U :: T37 :: T :: Fl :: D :: M :: rest := by
  refine (?_ : ∀ z ∈ _, z ∈ _) q h
  walk_at "subs"
theorem mem_g (h : q ∈ U :: ct :: T :: X :: DD :: E :: M :: R1 :: T37 :: Fl :: D :: rest) : q ∈ ct :: T :: X :: DD :: E :: M :: R1 :: U :: T37 :: Fl :: D :: rest := by
  refine (?_ : ∀ z ∈ _, z ∈ _) q h
  walk_at "subs"
theorem mem_h (h : q ∈ R1 :: U :: T37 :: T :: Fl :: D :: M :: ct :: X :: DD :: rest) : q ∈ U :: ct :: T :: X :: DD :: E :: M :: R1 :: T37 :: Fl :: D :: rest := by
  refine (?_ : ∀ z ∈ _, z ∈ _) q h
  walk_at "subs"
end
theorem news_f {h : Heap} {E R1 U T37 T Fl D M : Addr × Obj} {rest : List (Addr × Obj)} (N : News h₀ L h (E :: R1 :: U :: T37 :: T :: Fl :: D :: M :: rest)) : News h₀ L h (T :: E :: M :: R1 :: U :: T37 :: Fl :: D :: rest) := fun q hq => N q (mem_f hq)
def pairAt (E : List UInt8) (p : Int) (i : Nat) : Int × Int := (elemAt E p (2 * i), elemAt E p (2 * i + 1))
theorem off_eq5 {a b c d e : PySem.Str} {m₁ m₀ : PySem.Str → Option Value} (h : ∀ y, y ≠ a → y ≠ b → y ≠ c → y ≠ d → y ≠ e → m₁ y = m₀ y) : m₁ = fun y => if y = a then m₁ y else if y = b then m₁ y else if y = c then m₁ y else if y = d then m₁ y else if y = e then m₁ y else m₀ y := by
  funext y
  by_cases ha : y = a
  · rw [if_pos ha]
  · by_cases hb : y = b
    · rw [if_neg ha, if_pos hb]
    · by_cases hc : y = c
      · rw [if_neg ha, if_neg hb, if_pos hc]
      · by_cases hd : y = d
        · rw [if_neg ha, if_neg hb, if_neg hc, if_pos hd]
        · by_cases he : y = e
          · rw [if_neg ha, if_neg hb, if_neg hc, if_neg hd, if_pos he]
          · rw [if_neg ha, if_neg hb, if_neg hc, if_neg hd, if_neg he, h y ha hb hc hd he]
theorem fq2_field {f fld d mt ct D0 : Addr} {n r c : Nat} {p : Int} {msg tag : Array UInt8} {t1 t2 t3 t4 t5 tp k1 k2 k3 k4 k5 k6 u1 u2 : Tok} {ps ps2 : Array Value} (hc : c ≤ 2) (hp : 7 ≤ p) (hL : LamIn news f n)
    (B : Below A₀ base outer h₀) (F : Fr h₀ L s.heap m) (X : (Mine.hd.heap_1 w.params).In h₀) (N : News h₀ L s.heap ((37, tabObj ps) :: (248, tabObj ps2) :: (fld, instObj 389 d) :: (d, fq2Dict w p tp D0 ct mt k1 k2 k3 k4 k5 k6) :: (mt, tupObj [.int 1 u1, .int 0 u2]) :: news)) (hps : TriplesOk ps.toList) (hps2 : TriplesOk ps2.toList)
    (C : CodeHd h₀ 41 37) (C2 : CodeHd h₀ 250 248) (T : Top topProg loose mean mg mb h₀) (hk : cs.kind = .function)
    (G : AllBare s.gens) (hnw : ∀ q ∈ (248, tabObj ps2) :: (fld, instObj 389 d) :: (d, fq2Dict w p tp D0 ct mt k1 k2 k3 k4 k5 k6) :: (mt, tupObj [.int 1 u1, .int 0 u2]) :: news, q.1 ≠ 37)
    (hnw2 : ∀ q ∈ (fld, instObj 389 d) :: (d, fq2Dict w p tp D0 ct mt k1 k2 k3 k4 k5 k6) :: (mt, tupObj [.int 1 u1, .int 0 u2]) :: news, q.1 ≠ 248)
    (hd : dp ≤ 460) (hu : un ≤ 1700) (hn : 16 ≤ n) (hn2 : n ≤ 64) (hr : r ≤ 40) (hm : msg.size ≤ 20) (ht : tag.size ≤ 20)
    (hret : ∀ tu vs objs h' tk' g' ps' ps2', Fq2Are w p tp mt vs objs ((List.range c).map (pairAt (expd n msg tag (128 * c) r) p)) → Fr h₀ L h' m → News h₀ L h' ((tu, tupObj vs) :: (37, tabObj ps') :: (248, tabObj ps2') :: (fld, instObj 389 d) :: (d, fq2Dict w p tp D0 ct mt k1 k2 k3 k4 k5 k6) :: (mt, tupObj [.int 1 u1, .int 0 u2]) :: (objs ++ news)) → TriplesOk ps'.toList → TriplesOk ps2'.toList → AllBare g' → Q (.ref tu) { s with heap := h', toks := tk', gens := g' }) :
    wpAny (model P17 w) (ktrTop dp un gd cn cs L a ccd cl outer) (call (.ref 56) [.bytes msg t1, .int (c : Int) t3, .bytes tag t2, .ref f, .int (n : Int) t4, .int (r : Int) t5, .ref fld]) Q E s := by
  have hdd : dp + 1 < recursionLimit := by unfold recursionLimit; omega
  have huu : un + 8 < cLine := by unfold cLine; omega
  refine wpAny_call ?_
  k_dflt cell_enter
  have C' := C.keeps (Fr.keep (by assumption : Fr h₀ L _ m))
  have C2' := C2.keeps (Fr.keep (by assumption : Fr h₀ L _ m))
  (repeat' ((fail_if_success (with_reducible show wpAny _ _ (call (Value.ref 49) _) _ _ _)); ((first | (k_unfold; (try dsimp only)) | (k_end; wrow_close) | walk1 | (dsimp only; walk1) | (leave1; walk_say "STEP leave1"; try dsimp only)))))
  rename News _ _ _ _ => N0
  rename Top _ _ _ _ _ _ => T0
  refine expand_call (len := 128 * c) (by omega) (hL.mono (by walk_at "subN")) (by assumption) (by assumption) (by assumption) N0 hps C' T0 rfl (by assumption) hnw (by walk_at "small") (by walk_at "small") hn hn2 hr hm ht (by omega) ?_
  intro t9 h9 k9 g9 ps9 pb hpb F9 N9 hps9 G9
  have hpb : pb.toList = expd n msg tag (128 * c) r := hpb
  have hpbs : pb.size ≤ 256 := by
    rw [← Array.length_toList, hpb, expd, List.length_take]
    omega
  dsimp only
  (repeat' ((fail_if_success (with_reducible show wpAny _ _ (exec (Stmt.For _ _ _ _ _) _) _ _ _)); ((first | (k_unfold; (try dsimp only)) | (k_end; wrow_close) | walk1 | (dsimp only; walk1) | (leave1; walk_say "STEP leave1"; try dsimp only)))))
  rename_i lu hq1 l1 hq2 F0 N0
  have hrng : ∀ i : Nat, i < c + 1 → (List.range (i + 1)).map (pairAt (expd n msg tag (128 * c) r) p) = (List.range i).map (pairAt (expd n msg tag (128 * c) r) p) ++ [pairAt (expd n msg tag (128 * c) r) p i] := fun i _ => by rw [List.range_succ, List.map_append]; rfl
  refine for_rangeG (n := c) (a₀ := 0) F0 (fun m₀ i m' news' g => (∀ y, y ≠ Str.ofString "i" → y ≠ Str.ofString "e" → y ≠ Str.ofString "j" → y ≠ Str.ofString "elem_offset" → y ≠ Str.ofString "tv" → m' y = m₀ y) ∧ AllBare g ∧
    ∃ vs nn objs ps2', news' = (lu, listOf (List.toArray vs) nn) :: (37, tabObj ps9) :: (248, tabObj ps2') :: (fld, instObj 389 d) :: (d, fq2Dict w p tp D0 ct mt k1 k2 k3 k4 k5 k6) :: (mt, tupObj [.int 1 u1, .int 0 u2]) :: (objs ++ news) ∧ Fq2Are w p tp mt vs objs ((List.range i).map (pairAt (expd n msg tag (128 * c) r) p)) ∧ (∀ q ∈ objs, lu < q.1 ∧ q.1 ≠ 248) ∧ TriplesOk ps2'.toList) rfl rfl rfl ?_
  k_steps
  rename_i t1' u1' v1' hr1 F1 N1 hk1
  obtain ⟨q1, q2, q3, q4, q5, q6⟩ := l1
  have hn1 : ∀ q ∈ news, q.1 ≠ lu := fun q hq => Nat.ne_of_lt (allLt_mem q6 q hq)
  refine ⟨_, _, _, _, _, _, _, rfl, hr1, small_one (by omega) (by omega) (by omega) (by omega), by rw [rangeSize_nat]; omega, F1, N1, ⟨fun _ _ _ _ _ _ => rfl, G9, _, _, [], ps2, rfl, .nil, fun _ h => absurd h List.not_mem_nil, hps2⟩, ?_, ?_⟩
  · rintro i m₁ news₁ g h tk1 t hi ⟨hm1, Gg, vs, nn, objs, ps2', rfl, hfq, hob, hps2'⟩ hne F2 N2
    rw [off_eq5 hm1] at F2
    clear F1 N1 hk1
    generalize hrest : objs ++ news = rest at *
    (repeat' ((fail_if_success (with_reducible show wpAny _ _ (call (Value.ref 389) _) _ _ _)); ((first | (k_unfold; (try dsimp only)) | (k_end; wrow_close) | walk1 | (dsimp only; walk1) | (leave1; walk_say "STEP leave1"; try dsimp only)))))
    rename News _ _ _ _ => N7
    rename Top _ _ _ _ _ _ => T7
    rename @LT.lt Nat _ _ _ ∧ @LT.lt Nat _ lu _ ∧ _ => lE
    have lE'' := lE.2.1
    have lE' := lE.2.2.2.1
    have hI : lu ≠ _ := hne _ (.head _)
    have hI248 : 248 ≠ _ := hne (248, tabObj ps2') (.tail _ (.tail _ (.head _)))
    have hr248 : ∀ q ∈ rest, q.1 ≠ 248 := by
      intro q hq
      rw [← hrest] at hq
      rcases List.mem_append.mp hq with hq | hq
      · exact (hob q hq).2
      · exact hnw2 q (.tail _ (.tail _ (.tail _ hq)))
    refine fq2_new hp (by k_asm) (by k_asm) (by k_asm) (news_f N7) hps2' (C2'.keeps (Fr.keep (by k_asm))) T7 rfl Gg ?_ (by walk_at "small") (by walk_at "small") ?_
    · refine List.forall_mem_cons.mpr ⟨Nat.ne_of_gt lE', List.forall_mem_cons.mpr ⟨hnw2 _ (.tail _ (.tail _ (.head _))), List.forall_mem_cons.mpr ⟨fun e => hI248 e.symm, List.forall_mem_cons.mpr ⟨Nat.ne_of_gt q2, List.forall_mem_cons.mpr ⟨(show (37 : Nat) ≠ 248 by decide), List.forall_mem_cons.mpr ⟨hnw2 _ (.head _), List.forall_mem_cons.mpr ⟨hnw2 _ (.tail _ (.head _)), hr248⟩⟩⟩⟩⟩⟩⟩
    clear N7
    intro x8 ct8 d8 D8 k81 k82 k83 k84 k85 u8 v8 t8 h8 tk8 g8 ps8 F8 N8 hps8 G8 l8 l81 l82
    dsimp only
    (repeat' ((fail_if_success (with_reducible show wpAny _ _ (call (Value.builtin "list.append") _) _ _ _)); ((first | (k_unfold; (try dsimp only)) | (k_end; wrow_close) | walk1 | (dsimp only; walk1) | (leave1; walk_say "STEP leave1"; try dsimp only)))))
    rename News _ _ _ _ => N10
    rename Fr _ _ _ _ => F10
    obtain ⟨z1, z2, z3, z4, z5, z6, z7, z8, z9⟩ := l8
    have hrl : ∀ q ∈ rest, q.1 ≠ lu := by
      intro q hq
      rw [← hrest] at hq
      rcases List.mem_append.mp hq with hq | hq
      · exact Nat.ne_of_gt (hob q hq).1
      · exact hn1 q hq
    refine append_at' (news := _ :: (248, _) :: _ :: _ :: _ :: _ :: _ :: (37, tabObj ps9) :: _ :: _ :: rest) F10 (fun q hq => N10 q (mem_g hq)) ?_ ?_ ?_
    · refine List.forall_mem_cons.mpr ⟨Nat.ne_of_gt (Nat.lt_trans z5 (Nat.lt_trans l81 l82)), List.forall_mem_cons.mpr ⟨Nat.ne_of_lt q2, List.forall_mem_cons.mpr ⟨Nat.ne_of_gt (Nat.lt_trans z5 l81), List.forall_mem_cons.mpr ⟨Nat.ne_of_gt z5, List.forall_mem_cons.mpr ⟨Nat.ne_of_gt lE'', List.forall_mem_cons.mpr ⟨Nat.ne_of_lt q5, List.forall_mem_cons.mpr ⟨fun e => hI e.symm,
        List.forall_mem_cons.mpr ⟨Nat.ne_of_lt q1, List.forall_mem_cons.mpr ⟨Nat.ne_of_lt q3, List.forall_mem_cons.mpr ⟨Nat.ne_of_lt q4, hrl⟩⟩⟩⟩⟩⟩⟩⟩⟩⟩
    · have := hfq.length
      rw [List.length_map, List.length_range] at this
      omega
    intro h11 F11 N11
    k_steps
    subst hrest
    have hval : pairAt (expd n msg tag (128 * c) r) p i = (Int.fmod (Int.fmod ((val (KBy.picked pb (some (64 * (0 + ((0 : Nat) : Int) + (0 + (i : Int)) * 2))) (some (64 * (0 + ((0 : Nat) : Int) + (0 + (i : Int)) * 2) + 64))).toList : Nat) : Int) p) p,
        Int.fmod (Int.fmod ((val (KBy.picked pb (some (64 * (0 + ((0 + 1 : Nat) : Int) + (0 + (i : Int)) * 2))) (some (64 * (0 + ((0 + 1 : Nat) : Int) + (0 + (i : Int)) * 2) + 64))).toList : Nat) : Int) p) p) := by
      have e1 : (64 * (0 + ((0 : Nat) : Int) + (0 + (i : Int)) * 2)) = ((64 * (2 * i) : Nat) : Int) := by omega
      have e2 : (64 * (0 + ((0 : Nat) : Int) + (0 + (i : Int)) * 2) + 64) = ((64 * (2 * i) + 64 : Nat) : Int) := by omega
      have e3 : (64 * (0 + ((0 + 1 : Nat) : Int) + (0 + (i : Int)) * 2)) = ((64 * (2 * i + 1) : Nat) : Int) := by omega
      have e4 : (64 * (0 + ((0 + 1 : Nat) : Int) + (0 + (i : Int)) * 2) + 64) = ((64 * (2 * i + 1) + 64 : Nat) : Int) := by omega
      rw [e2, e1, e4, e3, picked_some, picked_some, hpb, Nat.add_sub_cancel_left, Nat.add_sub_cancel_left]
      rfl
    refine ⟨rfl, h11, _, _, _, _ :: _ :: _ :: _ :: _ :: _ :: _ :: _ :: _ :: (objs ++ news), rfl, F11, fun q hq => N11 q (mem_h hq), ?_, fun y h1 h2 h3 h4 h5 => ?_, G8, _, _, _ :: _ :: _ :: objs, ps8, rfl, ?_, ?_, hps8⟩
    · refine List.forall_mem_cons.mpr ⟨hI, List.forall_mem_cons.mpr ⟨hne _ (.tail _ (.head _)), List.forall_mem_cons.mpr ⟨hI248, List.forall_mem_cons.mpr ⟨hne _ (.tail _ (.tail _ (.tail _ (.head _)))), List.forall_mem_cons.mpr ⟨hne _ (.tail _ (.tail _ (.tail _ (.tail _ (.head _))))), List.forall_mem_cons.mpr ⟨hne _ (.tail _ (.tail _ (.tail _ (.tail _ (.tail _ (.head _)))))),
        List.forall_mem_cons.mpr ⟨Nat.ne_of_gt (Nat.lt_trans z4 (Nat.lt_trans l81 l82)), List.forall_mem_cons.mpr ⟨Nat.ne_of_gt (Nat.lt_trans z4 l81), List.forall_mem_cons.mpr ⟨Nat.ne_of_gt z4, fun q hq => hne _ (.tail _ (.tail _ (.tail _ (.tail _ (.tail _ (.tail _ hq))))))⟩⟩⟩⟩⟩⟩⟩⟩⟩
    · simp only [h1, h2, h3, h4, h5, if_false]
    · rw [hrng i (by omega), hval]
      exact Fq2Are.snoc hfq
    · exact List.forall_mem_cons.mpr ⟨⟨Nat.lt_trans z5 (Nat.lt_trans l81 l82), Nat.ne_of_gt (Nat.lt_trans z1 (Nat.lt_trans l81 l82))⟩, List.forall_mem_cons.mpr ⟨⟨Nat.lt_trans z5 l81, Nat.ne_of_gt (Nat.lt_trans z1 l81)⟩, List.forall_mem_cons.mpr ⟨⟨z5, Nat.ne_of_gt z1⟩, hob⟩⟩⟩
  · rintro m₁ news₁ g h tk1 ⟨hm1, Gg, vs, nn, objs, ps2', rfl, hfq, hob, hps2'⟩ F2 N2
    rw [off_eq5 hm1] at F2
    clear F1 N1 hk1
    generalize hrest : objs ++ news = rest at *
    k_steps
    rename News _ _ _ _ => N10
    subst hrest
    rename Fq2Are _ _ _ _ _ _ _ => hfq
    exact hret _ _ _ _ _ _ _ _ hfq (by assumption) (fun q hq => N10 q (mem_dr hq)) hps9 hps2' Gg
end
end
section


/-! ## plain facts of the law's own expansion -/
def asInts (l : List UInt8) : List Int := l.map fun c => ((c.toNat : Nat) : Int)
theorem asInts_length (l : List UInt8) : (asInts l).length = l.length := List.length_map _
theorem asInts_append (a b : List UInt8) : asInts (a ++ b) = asInts a ++ asInts b := List.map_append ..
theorem asInts_in (l : List UInt8) : KBa.In (asInts l) := by
  intro k hk
  obtain ⟨c, _, rfl⟩ := List.mem_map.mp hk
  have := c.toNat_lt
  omega
theorem beB_one (x : Nat) : beB 1 x = [UInt8.ofNat (x % 256)] := rfl
theorem beB_two (x : Nat) : beB 2 x = [UInt8.ofNat (x / 256 % 256), UInt8.ofNat (x % 256)] := rfl
theorem ofNat_int {x : Nat} (h : x < 256) : (((UInt8.ofNat x).toNat : Nat) : Int) = (x : Int) := by
  rw [UInt8.toNat_ofNat', Nat.mod_eq_of_lt (by omega)]
theorem asInts_one {x : Nat} (h : x < 256) : asInts (beB 1 x) = [(x : Int)] := by
  show [(((UInt8.ofNat (x % 256)).toNat : Nat) : Int)] = _
  rw [Nat.mod_eq_of_lt h, ofNat_int h]
theorem asInts_close {Tg : List UInt8} (h : Tg.length ≤ 20) : asInts Tg ++ [(Tg.length : Int)] = asInts (dpr Tg.toArray).toList := by
  unfold dpr
  rw [Array.toList_append, asInts_append, List.size_toArray]
  congr 1
  show _ = asInts (beB 1 Tg.length)
  rw [asInts_one (by omega)]
theorem dpr_size {Tg : List UInt8} : (dpr Tg.toArray).size = Tg.length + 1 := by
  unfold dpr
  rw [Array.size_append, List.size_toArray, List.size_toArray, beB_length]
/-- the law's first octets -/
def padB (M : List UInt8) (len r : Nat) : Array UInt8 := (List.replicate (r : Int).toNat [0]).flatten.toArray ++ M.toArray ++ (beB 2 len).toArray ++ #[0]
theorem padB_size {M : List UInt8} {len r : Nat} : (padB M len r).size = r + M.length + 3 := by
  unfold padB
  simp only [Array.size_append, List.size_toArray, len_rep1, beB_length, Int.toNat_natCast]
  rfl
theorem asInts_rep (k : Nat) : asInts (List.replicate k [0]).flatten = (List.replicate k [(0 : Int)]).flatten := by
  induction k with
  | zero => rfl
  | succ k ih => rw [List.replicate_succ, List.flatten_cons, asInts_append, ih, List.replicate_succ, List.flatten_cons]; rfl
theorem asInts_pad {M : List UInt8} {c r : Nat} (hc : c ≤ 4) : (List.replicate (r : Int).toNat [(0 : Int)]).flatten ++ asInts M ++ [Int.fdiv (64 * (c : Int)) 256, Int.fmod (64 * (c : Int)) 256, 0] = asInts (padB M (64 * c) r).toList := by
  unfold padB
  simp only [Array.toList_append, asInts_append, asInts_rep, List.append_assoc]
  congr 2
  show _ = asInts [UInt8.ofNat (64 * c / 256 % 256), UInt8.ofNat (64 * c % 256)] ++ [0]
  have e1 : Int.fdiv (64 * (c : Int)) 256 = ((64 * c / 256 : Nat) : Int) := by rw [Int.fdiv_eq_ediv_of_nonneg _ (by decide)]; omega
  have e2 : Int.fmod (64 * (c : Int)) 256 = ((64 * c % 256 : Nat) : Int) := by rw [Int.fmod_eq_emod_of_nonneg _ (by decide)]; omega
  rw [e1, e2]
  show _ = [(((UInt8.ofNat (64 * c / 256 % 256)).toNat : Nat) : Int), (((UInt8.ofNat (64 * c % 256)).toNat : Nat) : Int), 0]
  have e3 : 64 * c / 256 % 256 = 64 * c / 256 := by omega
  rw [ofNat_int (by omega), ofNat_int (by omega), e3]
def nowAt (n : Nat) (b0 : List UInt8) (dp : Array UInt8) : Nat → Nat
  | 0 => 0
  | i + 1 => val (exSeq n b0 dp i)
theorem nowAt_lt (n : Nat) (b0 : List UInt8) (dp : Array UInt8) (i : Nat) : nowAt n b0 dp i < 256 ^ n := by
  cases i with
  | zero => exact Nat.pow_pos (by decide)
  | succ i =>
    have h := val_lt (exSeq n b0 dp i)
    rw [exSeq_length] at h
    exact h
theorem xor_lt {n x y : Nat} (hx : x < 256 ^ n) (hy : y < 256 ^ n) : x ^^^ y < 256 ^ n := by
  have e : 256 ^ n = 2 ^ (8 * n) := by rw [Nat.pow_mul]
  rw [e] at hx hy ⊢
  exact Nat.xor_lt_two_pow hx hy
theorem xorB_eq (xs ys : List UInt8) : xorB xs.toArray ys.toArray = (xorL xs ys).toArray := by
  unfold xorB
  rw [xorInts_eq, byteArr_of]
theorem law_step {n : Nat} {b0 : List UInt8} (h0 : b0.length = n) (dp : Array UInt8) (i : Nat) :
    lawHash ((beB n (nowAt n b0 dp i ^^^ val b0)).toArray ++ (beB 1 (1 + i)).toArray ++ dp).toList n = exSeq n b0 dp i := by
  cases i with
  | zero =>
    have e : beB n (nowAt n b0 dp 0 ^^^ val b0) = b0 := by
      show beB n (0 ^^^ val b0) = b0
      rw [Nat.zero_xor, ← h0, beB_val]
    rw [e]
    rfl
  | succ i =>
    have hl : b0.length = (exSeq n b0 dp i).length := by rw [exSeq_length, h0]
    have e : beB n (nowAt n b0 dp (i + 1) ^^^ val b0) = xorL b0 (exSeq n b0 dp i) := by
      show beB n (val (exSeq n b0 dp i) ^^^ val b0) = _
      rw [Nat.xor_comm, ← val_xorL hl]
      have h1 := beB_val (xorL b0 (exSeq n b0 dp i))
      rw [xorL_length hl, h0] at h1
      exact h1
    rw [e]
    show _ = lawHash (xorB b0.toArray (exSeq n b0 dp i).toArray ++ (beB 1 (2 + i)).toArray ++ dp).toList n
    rw [xorB_eq, show 1 + (i + 1) = 2 + i by omega]
theorem lt_ell {i n len : Nat} (hn : 1 ≤ n) : i * n < len ↔ i < ellN len n := by
  have h := ell_mul (len := len) hn
  constructor
  · intro h1
    rcases Nat.lt_or_ge i (ellN len n) with h2 | h2
    · exact h2
    · have := Nat.mul_le_mul_right n h2
      omega
  · intro h1
    have := Nat.mul_le_mul_right n (Nat.succ_le_of_lt h1)
    rw [Nat.succ_mul] at this
    omega
def numAt (row : List UInt8) (p : Int) (k : Nat) : Int := Int.fmod ((val ((row.drop (64 * k)).take 64) : Nat) : Int) p
theorem exAll_step (n : Nat) (b0 : List UInt8) (dp : Array UInt8) (i : Nat) : (exAll n b0 dp i).flatten.toArray ++ (exSeq n b0 dp i).toArray = (exAll n b0 dp (i + 1)).flatten.toArray := by
  rw [exAll_succ, List.flatten_append, List.flatten_cons, List.flatten_nil, List.append_nil]
  exact List.append_toArray ..
theorem val_take_succ {b : Array UInt8} {j : Nat} {c : UInt8} (h : b[j]? = some c) : val (b.toList.take (j + 1)) = val (b.toList.take j) * 256 + c.toNat := by
  have h' : b.toList[j]? = some c := by rw [Array.getElem?_toList]; exact h
  rw [List.take_add_one, h']
  exact val_append _ _
theorem mul256_ok {l : List UInt8} (h : l.length ≤ 64) : IntMulOk ((val l : Nat) : Int) 256 := by
  refine mul_ok (j := 512) (k := 9) ?_ (by decide) (by decide)
  have h1 := val_bits l
  have h2 : 2 ^ (8 * l.length) ≤ 2 ^ 512 := Nat.pow_le_pow_right (by decide) (by omega)
  rw [Int.natAbs_natCast]
  omega
/-- the expanded message -/
theorem num_elem {n r c : Nat} {msg tag : Array UInt8} {p : Int} (hn : 1 ≤ n) {len : Nat} (hl : len = 64 * c) {k : Nat} (hk : k < c) :
    numAt (exAll n (exB0 n msg tag len r) (dpr tag) (ellN len n)).flatten p k = Int.fmod (Int.fmod ((val ((((exAll n (exB0 n msg tag len r) (dpr tag) (ellN len n - 1 + 1)).flatten.toArray.toList.take len).drop (64 * k)).take 64) : Nat) : Int) p) p := by
  have h1 : 0 < ellN len n := (lt_ell hn).mp (by omega)
  have e1 : ellN len n - 1 + 1 = ellN len n := by omega
  rw [e1, Int.fmod_fmod, List.drop_take, List.take_take, show min 64 (len - 64 * k) = 64 by omega]
  rfl
end
section
section
variable {w : World} {loose : List Str} {mean : ExcName → Option Value} {mg mb : Str → Option Value}
  {dp un : Nat} {gd : Option (List Code)} {cn : Str} {cs : Scope} {a : Addr} {ccd : Value} {cl : List (Str × Addr)} {outer : List Env} {A₀ : Around} {base h₀ : Heap} {L : Addr} {m : Str → Option Value} {news : List (Addr × Obj)} {s : Shared}
  {Q E : Value → Shared → Prop}
theorem len_ints {prog : Program} {w : World} {A : Around} {E : Value → Shared → Prop} {s : Shared} {h₀ : Heap} {L l : Addr} {news : List (Addr × Obj)} {ys : List Value} {ns : List Int} {k : Nat} {Q : Value → Shared → Prop} (N : News h₀ L s.heap news) (hm : (l, LCg.lst ys) ∈ news) (hi : IntsAre ys ns) (hk : ns.length = k) (hz : k ≤ 10000)
    (h : Q (.int ((k : Nat) : Int) (s.toks + 1)) { s with toks := s.toks + 1 + 1 }) : wpAny (model prog w) A (call (.builtin "len") [.ref l]) Q E s := by
  refine len_list (News.isList N hm) ?_ ?_
  · rw [List.size_toArray, hi.length]; omega
  · rw [List.size_toArray, hi.length, hk]; exact h
local macro_rules | `(tactic| walk_at "call builtin:len") => `(tactic| (k_here; (with_reducible show wpAny _ _ (call (Value.builtin "len") [Value.ref _]) _ _ _); k_dflt (refine Mine.len_ints (by k_asm) (by k_mem) (by assumption) (Mine.asInts_length _) (by omega) ?_)))
local macro_rules | `(tactic| walk_at "binaryOp Add ref ref") => `(tactic| (k_here; (with_reducible show wpAny _ _ (binaryOp _ (Value.ref _) (Value.ref _)) _ _ _); k_dflt (refine' kmk_add_ints ?F ?N ?a ?b ?i ?j ?_ ?z; (case F | N => k_asm); (case a | b => exact News.isList (by k_asm) (by k_mem)); (case i | j => l_ints); (case z => (simp only [sizeLine_eq, Mine.asInts_length, List.length_append, List.length_cons, List.length_nil, List.length_replicate]; omega))); intro D' ws' h' F' N' l1 hI'; (try k_lt l1); (try k_sweep)))
theorem bytes_as {D : Addr} {us : List Value} {k : Nat} {ns : List Int} {A : Around} (b : Array UInt8) (e : ns = asInts b.toList) (F : Fr h₀ L s.heap m) (N : News h₀ L s.heap news) (hh : A.handled = none) (hm : (D, listOf us.toArray k) ∈ news) (hi : IntsAre us ns) (hz : b.size ≤ 100000)
    (h : ∀ h' t' k', Fr h₀ L h' m → News h₀ L h' news → Q (.bytes b t') { s with heap := h', toks := k' }) : wpAny (model P17 w) A (call (.type "bytes") [.ref D]) Q E s := by
  subst e
  refine KBa.make_K F N hh (News.isList N hm) hi (asInts_in _) (by rw [asInts_length, Array.length_toList]; omega) fun h' t' k' F' N' _ => ?_
  have e := byteArr_of b.toList
  rw [Array.toArray_toList] at e
  show Q (.bytes (byteArr (List.map _ b.toList)) t') _
  rw [e]
  exact h h' t' k' F' N'
theorem xor_nat {A : Around} {x y : Nat} {t u : Tok} (h : Q (.int ((x ^^^ y : Nat) : Int) s.toks) { s with toks := s.toks + 1 }) : wpAny (model P17 w) A (binaryOp .BitXor (.int (x : Int) t) (.int (y : Int) u)) Q E s := xor_int (by rw [bitXor_nat]; exact h)
local macro_rules | `(tactic| walk_at "binaryOp BitXor int int") => `(tactic| (k_here; (with_reducible show wpAny _ _ (binaryOp _ (Value.int _ _) (Value.int _ _)) _ _ _); (refine Mine.xor_nat ?_)))
theorem off_set4 {a b c d : PySem.Str} {va vb vc : Option Value} {m₁ m₀ : PySem.Str → Option Value} (h : ∀ y, y ≠ a → y ≠ b → y ≠ c → y ≠ d → m₁ y = m₀ y) (ha : m₁ a = va) (hb : m₁ b = vb) (hc : m₁ c = vc) :
    m₁ = fun y => if y = a then va else if y = b then vb else if y = c then vc else if y = d then m₁ d else m₀ y := by
  funext y
  by_cases h1 : y = a
  · rw [if_pos h1, h1, ha]
  · by_cases h2 : y = b
    · rw [if_neg h1, if_pos h2, h2, hb]
    · by_cases h3 : y = c
      · rw [if_neg h1, if_neg h2, if_pos h3, h3, hc]
      · by_cases h4 : y = d
        · rw [if_neg h1, if_neg h2, if_neg h3, if_pos h4, h4]
        · rw [if_neg h1, if_neg h2, if_neg h3, if_neg h4, h y h1 h2 h3 h4]
theorem off_set2 {a b : PySem.Str} {va : Option Value} {m₁ m₀ : PySem.Str → Option Value} (h : ∀ y, y ≠ a → y ≠ b → m₁ y = m₀ y) (ha : m₁ a = va) : m₁ = fun y => if y = a then va else if y = b then m₁ b else m₀ y := by
  funext y
  by_cases h1 : y = a
  · rw [if_pos h1, h1, ha]
  · by_cases h2 : y = b
    · rw [if_neg h1, if_pos h2, h2]
    · rw [if_neg h1, if_neg h2, h y h1 h2]
theorem mem_sw {α : Type} {q a b : α} {r : List α} (h : q ∈ a :: b :: r) : q ∈ b :: a :: r := by
  refine (?_ : ∀ z ∈ _, z ∈ _) q h
  walk_at "subs"
theorem While_invM {prog : Program} {A : Around} {env : Env} {QQ : Flow → Shared → Prop} {test : Expr} {body : List Stmt} {pos : Pos} {m : Str → Option Value} {news : List (Addr × Obj)} (J : (Str → Option Value) → List (Addr × Obj) → Nat → (Str → Option Value) → List (Addr × Obj) → Prop) {n₀ : Nat}
    (F : Fr h₀ L s.heap m) (N : News h₀ L s.heap news) (hJ : J m news n₀ m news)
    (turn : ∀ n m₁ news₁ h₁ tk₁, Fr h₀ L h₁ m₁ → News h₀ L h₁ news₁ → J m news n m₁ news₁ →
      wpAny (model prog w) A (isTrue test env (eval test env)) (fun b s₂ =>
        if b = true then wpAny (model prog w) A (execs body env) (WhileStep h₀ L s (J m news) n) E s₂ else QQ .next s₂) E { s with heap := h₁, toks := tk₁ })
    (hE : PassesOwn (model prog w) A env E := by passes_own) :
    wpAny (model prog w) A (exec (.While test body [] pos) env) QQ E s := While_inv (J m news) F N hJ turn hE
theorem numbers_call {mr tr : Addr} {ym yt : List Value} {M Tg : List UInt8} {n r c : Nat} {p : Int} {t1 t2 t3 t4 t5 t6 : Tok} (hm : IntsAre ym (asInts M)) (ht : IntsAre yt (asInts Tg)) (hlm : M.length ≤ 20) (hlt : Tg.length ≤ 20)
    (B : Below A₀ base outer h₀) (F : Fr h₀ L s.heap m) (X : (Mine.hd.heap_1 w.params).In h₀) (N : News h₀ L s.heap ((mr, LCg.lst ym) :: (tr, LCg.lst yt) :: news)) (T : Top topProg loose mean mg mb h₀) (hk : cs.kind = .function)
    (hd : dp ≤ 480) (hu : un ≤ 1800) (hn : 16 ≤ n) (hn2 : n ≤ 64) (hr : r ≤ 40) (hc : c ≤ 4) (hp : 7 ≤ p)
    (hret : ∀ l ys nn h' tk', IntsAre ys ((List.range c).map (elemAt (expd n M.toArray Tg.toArray (64 * c) r) p)) → Fr h₀ L h' m → News h₀ L h' ((l, listOf (List.toArray ys) nn) :: (mr, LCg.lst ym) :: (tr, LCg.lst yt) :: news) → mr < l ∧ tr < l ∧ AllLt l news → Q (.ref l) { s with heap := h', toks := tk' }) :
    wpAny (model P17 w) (ktrTop dp un gd cn cs L a ccd cl outer) (call (.ref 417) [.ref mr, .ref tr, .int (c : Int) t3, .int (n : Int) t4, .int (r : Int) t5, .int p t6]) Q E s := by
  have hdd : dp + 2 < recursionLimit := by unfold recursionLimit; omega
  have huu : un + 8 < cLine := by unfold cLine; omega
  refine wpAny_call ?_
  k_dflt cell_enter
  (repeat' ((fail_if_success (with_reducible show wpAny _ _ (call (Value.type "bytes") _) _ _ _)); ((first | (k_unfold; (try dsimp only)) | (k_end; wrow_close) | walk1 | (dsimp only; walk1) | (leave1; walk_say "STEP leave1"; try dsimp only)))))
  refine bytes_as (dpr Tg.toArray) (asInts_close hlt) (by k_asm) (by k_asm) rfl (by k_mem) (by assumption) (by rw [dpr_size]; omega) ?_
  intro h7 t7 k7 F7 N7
  dsimp only
  (repeat' ((fail_if_success (with_reducible show wpAny _ _ (call (Value.type "bytes") _) _ _ _)); ((first | (k_unfold; (try dsimp only)) | (k_end; wrow_close) | walk1 | (dsimp only; walk1) | (leave1; walk_say "STEP leave1"; try dsimp only)))))
  have hsz2 : (padB M (64 * c) r).size = r + M.length + 3 := padB_size
  have hsz1 : (dpr Tg.toArray).size = Tg.length + 1 := dpr_size
  refine bytes_as (padB M (64 * c) r) (asInts_pad hc) (by k_asm) (by k_asm) rfl (by k_mem) (by assumption) (by omega) ?_
  intro h8 t8 k8 F8 N8
  dsimp only
  (repeat' ((fail_if_success (with_reducible show wpAny _ _ (exec (Stmt.While _ _ _ _) _) _ _ _)); ((first | (k_unfold; (try dsimp only)) | (k_end; wrow_close) | walk1 | (dsimp only; walk1) | (leave1; walk_say "STEP leave1"; try dsimp only)))))
  rename News _ _ _ _ => N9
  rename Fr _ _ _ _ => F9
  have N9 := cb_drop (news := (mr, LCg.lst ym) :: (tr, LCg.lst yt) :: news) N9 (by walk_at "subN")
  have hb0 : (lawHash (padB M (64 * c) r ++ dpr Tg.toArray).toList n) = exB0 n M.toArray Tg.toArray (64 * c) r := rfl
  rw [hb0] at F9
  have hl0 : (exB0 n M.toArray Tg.toArray (64 * c) r).length = n := lawHash_length _ _
  generalize hb9 : exB0 n M.toArray Tg.toArray (64 * c) r = b0 at F9 hl0
  have hK : ellN (64 * c) n ≤ 16 := ell_le hn (by omega)
  refine While_invM (n₀ := ellN (64 * c) n) (fun m₀ nw₀ k m' news' => ∃ i, i ≤ ellN (64 * c) n ∧ k = ellN (64 * c) n - i ∧ news' = nw₀ ∧ (∀ y, y ≠ Str.ofString "turn" → y ≠ Str.ofString "row" → y ≠ Str.ofString "now" → y ≠ Str.ofString "piece" → m' y = m₀ y) ∧
    (∃ t, m' (Str.ofString "turn") = some (.int (1 + (i : Int)) t)) ∧ (∃ t, m' (Str.ofString "row") = some (.bytes (exAll n b0 (dpr Tg.toArray) i).flatten.toArray t)) ∧ (∃ t, m' (Str.ofString "now") = some (.int ((nowAt n b0 (dpr Tg.toArray) i : Nat) : Int) t))) F9 N9 ⟨0, Nat.zero_le _, rfl, rfl, fun _ _ _ _ _ => rfl, ⟨_, rfl⟩, ⟨_, rfl⟩, ⟨_, rfl⟩⟩ ?_
  rintro k m₁ news₁ h₁ tk₁ F₁ N₁ ⟨i, hi, rfl, rfl, hm, ⟨ta, ha⟩, ⟨tb, hb⟩, ⟨tc, hcn⟩⟩
  rw [off_set4 hm ha hb hcn] at F₁
  clear N9 F9
  have hrow : ((exAll n b0 (dpr Tg.toArray) i).flatten.toArray).size = i * n := by rw [List.size_toArray, exAll_flat]
  have hin : i * n ≤ 16 * 64 := Nat.mul_le_mul (by omega) hn2
  have hlt := lt_ell (i := i) (n := n) (len := 64 * c) (by omega)
  generalize hz : i * n = z at hrow hin hlt
  have hrow2 : ((exAll n b0 (dpr Tg.toArray) i).flatten).length = z := by rw [← hrow, List.size_toArray]
  (repeat' ((fail_if_success (with_reducible show wpAny _ _ (execs _ _) _ _ _)); ((first | (k_unfold; (try dsimp only)) | (k_end; wrow_close) | walk1 | (dsimp only; walk1) | (leave1; walk_say "STEP leave1"; try dsimp only)))))
  · rename_i hin1
    have hi1 : i < ellN (64 * c) n := hlt.mp (by omega)
    clear hlt
    (repeat' ((fail_if_success (with_reducible show wpAny _ _ (call (Value.builtin "int.to_bytes") _) _ _ _)); ((first | (k_unfold; (try dsimp only)) | (k_end; wrow_close) | walk1 | (dsimp only; walk1) | (leave1; walk_say "STEP leave1"; try dsimp only)))))
    refine tb_call (x' := nowAt n b0 (dpr Tg.toArray) i ^^^ val b0) (n := n) rfl rfl (by omega) (xor_lt (nowAt_lt _ _ _ _) (by have := val_lt b0; rw [hl0] at this; exact this)) ?_
    intro t10 k10
    dsimp only
    (repeat' ((fail_if_success (with_reducible show wpAny _ _ (call (Value.type "bytes") _) _ _ _)); ((first | (k_unfold; (try dsimp only)) | (k_end; wrow_close) | walk1 | (dsimp only; walk1) | (leave1; walk_say "STEP leave1"; try dsimp only)))))
    refine bytes_as ((beB 1 (1 + i)).toArray) (us := [_]) (ns := [1 + (i : Int)]) (by rw [show (1 + (i : Int)) = ((1 + i : Nat) : Int) by omega, ← asInts_one (by omega)]) (by k_asm) (by k_asm) rfl (by k_mem) (IntsAre.cons _ _ .nil) (by rw [List.size_toArray, beB_length]; omega) ?_
    intro h11 t11 k11 F11 N11
    dsimp only
    (repeat' ((fail_if_success (with_reducible show WhileStep _ _ _ _ _ _ _)); ((first | (k_unfold; (try dsimp only)) | (k_end; wrow_close) | walk1 | (dsimp only; walk1) | (leave1; walk_say "STEP leave1"; try dsimp only)))))
    rename News _ _ _ _ => N12
    rename Fr _ _ _ _ => F12
    have e1 : (1 + (i : Int) + 1) = 1 + ((i + 1 : Nat) : Int) := by omega
    rw [law_step hl0 (dpr Tg.toArray) i, exAll_step, e1] at F12
    refine WhileStep.intro (n' := ellN (64 * c) n - (i + 1)) F12 (cb_drop N12 (by walk_at "subN")) (by omega) ⟨i + 1, hi1, rfl, rfl, fun y h1 h2 h3 h4 => ?_, ⟨_, (if_pos rfl).trans rfl⟩, ⟨_, (if_neg (by decide)).trans ((if_pos rfl).trans rfl)⟩, ⟨_, (if_neg (by decide)).trans ((if_neg (by decide)).trans ((if_pos rfl).trans rfl))⟩⟩
    simp only [h1, h2, h3, h4, if_false]
  · rename_i hin1
    have hiK : i = ellN (64 * c) n := by omega
    clear hlt
    subst hiK
    (repeat' ((fail_if_success (with_reducible show wpAny _ _ (exec (Stmt.For _ _ _ _ _) _) _ _ _)); ((first | (k_unfold; (try dsimp only)) | (k_end; wrow_close) | walk1 | (dsimp only; walk1) | (leave1; walk_say "STEP leave1"; try dsimp only)))))
    rename_i ln hq1 l13 hq2 F13 N13
    have hrowz : ((exAll n b0 (dpr Tg.toArray) (ellN (64 * c) n)).flatten).length ≤ 1024 := by omega
    generalize hR : (exAll n b0 (dpr Tg.toArray) (ellN (64 * c) n)).flatten = R at F13 hrowz
    clear hrow hrow2
    refine for_rangeG (n := c) (a₀ := 0) F13 (fun m₀ k m' news' g => g = s.gens ∧ (∀ y, y ≠ Str.ofString "k" → y ≠ Str.ofString "total" → y ≠ Str.ofString "octet" → m' y = m₀ y) ∧
      ∃ vs nn, news' = (ln, listOf (List.toArray vs) nn) :: (mr, LCg.lst ym) :: (tr, LCg.lst yt) :: news ∧ IntsAre vs ((List.range k).map (numAt R p))) rfl rfl rfl ?_
    k_steps
    rename_i t1' u1' v1' hr1 F1 N1 hk1
    refine ⟨_, _, _, _, _, _, _, rfl, hr1, small_one (by omega) (by omega) (by omega) (by omega), by rw [rangeSize_nat]; omega, F1, N1, ⟨rfl, fun _ _ _ _ => rfl, _, _, rfl, .nil⟩, ?_, ?_⟩
    · rintro k m₁ news₁ g h tk1 t hi ⟨rfl, hm1, vs, nn, rfl, hvs⟩ hne F2 N2
      rw [off_eq3 hm1] at F2
      clear F1 N1 hk1
      (repeat' ((fail_if_success (with_reducible show wpAny _ _ (exec (Stmt.For _ _ _ _ _) _) _ _ _)); ((first | (k_unfold; (try dsimp only)) | (k_end; wrow_close) | walk1 | (dsimp only; walk1) | (leave1; walk_say "STEP leave1"; try dsimp only)))))
      rename News _ _ _ _ => N14
      rename Fr _ _ _ _ => F14
      refine for_bytesB (b := KBy.picked R.toArray (some (64 * (0 + (k : Int)))) (some (64 * (0 + (k : Int)) + 64))) F14 (fun m₀ j m' => (∀ y, y ≠ Str.ofString "total" → y ≠ Str.ofString "octet" → m' y = m₀ y) ∧
        ∃ t, m' (Str.ofString "total") = some (.int ((val ((KBy.picked R.toArray (some (64 * (0 + (k : Int)))) (some (64 * (0 + (k : Int)) + 64))).toList.take j) : Nat) : Int) t)) rfl rfl rfl ?_
      k_steps
      rename News _ _ _ _ => N15
      rename Fr _ _ _ _ => F15
      have hBk : (KBy.picked R.toArray (some (64 * (0 + (k : Int)))) (some (64 * (0 + (k : Int)) + 64))).toList = (R.drop (64 * k)).take 64 := by
        have e1 : (64 * (0 + (k : Int))) = ((64 * k : Nat) : Int) := by omega
        have e2 : (64 * (0 + (k : Int)) + 64) = ((64 * k + 64 : Nat) : Int) := by omega
        rw [e2, e1, picked_some, Nat.add_sub_cancel_left]
      generalize KBy.picked R.toArray (some (64 * (0 + (k : Int)))) (some (64 * (0 + (k : Int)) + 64)) = Bk at hBk F15 ⊢
      have hBz : Bk.toList.length ≤ 64 := by rw [hBk, List.length_take]; omega
      refine ⟨_, _, _, rfl, F15, N15, ⟨fun _ _ _ => rfl, ⟨_, rfl⟩⟩, ?_, ?_⟩
      · rintro j cb m₂ it h2 tk2 t2 hj ⟨hm2, t3, ht3⟩ F16 N16
        rw [off_set2 hm2 ht3] at F16
        clear F15 N15
        have hmul := mul256_ok (l := Bk.toList.take j) (by rw [List.length_take]; omega)
        (repeat' ((fail_if_success (with_reducible show StepB _ _ _ _ _ _ _ _ _)); ((first | (k_unfold; (try dsimp only)) | (k_end; wrow_close) | walk1 | (dsimp only; walk1) | (leave1; walk_say "STEP leave1"; try dsimp only)))))
        rename News _ _ _ _ => N17
        rename Fr _ _ _ _ => F17
        have e : ((val (Bk.toList.take j) : Nat) : Int) * 256 + ((cb.toNat : Nat) : Int) = ((val (Bk.toList.take (j + 1)) : Nat) : Int) := by rw [val_take_succ hj]; push_cast; rfl
        rw [e] at F17
        refine ⟨rfl, _, _, _, rfl, F17, N17, fun y h1 h2 => ?_, ⟨_, (if_pos rfl).trans rfl⟩⟩
        simp only [h1, h2, if_false]
      · rintro m₂ h2 tk2 ⟨hm2, t3, ht3⟩ F16 N16
        rw [List.take_of_length_le (by rw [Array.length_toList]; exact Nat.le_refl _)] at ht3
        rw [off_set2 hm2 ht3] at F16
        clear F15 N15
        (repeat' ((fail_if_success (with_reducible show wpAny _ _ (call (Value.builtin "list.append") _) _ _ _)); ((first | (k_unfold; (try dsimp only)) | (k_end; wrow_close) | walk1 | (dsimp only; walk1) | (leave1; walk_say "STEP leave1"; try dsimp only)))))
        rename News _ _ _ _ => N17
        rename Fr _ _ _ _ => F17
        have hnl : ∀ q ∈ news, q.1 ≠ ln := fun q hq => Nat.ne_of_lt (allLt_mem l13.2.2 q hq)
        have hI : ln ≠ _ := hne _ (.head _)
        refine append_at' (news := _ :: (mr, LCg.lst ym) :: (tr, LCg.lst yt) :: news) F17 (fun q hq => N17 q (mem_sw hq)) ?_ ?_ ?_
        · exact List.forall_mem_cons.mpr ⟨fun e => hI e.symm, List.forall_mem_cons.mpr ⟨Nat.ne_of_lt l13.1, List.forall_mem_cons.mpr ⟨Nat.ne_of_lt l13.2.1, hnl⟩⟩⟩
        · have := hvs.length
          rw [List.length_map, List.length_range] at this
          omega
        intro h11 F11 N11
        k_steps
        refine ⟨rfl, h11, _, _, _, _ :: (mr, LCg.lst ym) :: (tr, LCg.lst yt) :: news, rfl, F11, fun q hq => N11 q (mem_sw hq), ?_, rfl, fun y h1 h2 h3 => ?_, _, _, rfl, ?_⟩
        · exact List.forall_mem_cons.mpr ⟨hI, fun q hq => hne q (.tail _ hq)⟩
        · simp only [h1, h2, h3, if_false]
        · rw [List.range_succ, List.map_append]
          refine hvs.append ?_
          rw [hBk]
          exact IntsAre.cons _ _ .nil
    · rintro m₁ news₁ g h tk1 ⟨rfl, hm1, vs, nn, rfl, hvs⟩ F2 N2
      rw [off_eq3 hm1] at F2
      clear F1 N1 hk1
      k_steps
      rename News h₀ _ _ _ => N18
      refine hret ln vs nn _ _ ?_ (by assumption) N18 l13
      have e : (List.range c).map (elemAt (expd n M.toArray Tg.toArray (64 * c) r) p) = (List.range c).map (numAt R p) := List.map_congr_left fun k hk => by
        rw [← hR, ← hb9]
        exact (num_elem (by omega) rfl (List.mem_range.mp hk)).symm
      rw [e]
      exact hvs
end
end
section


theorem snoc_ne {α : Type} {l : List α} {a : α} (h : [] = l ++ [a]) : False := by cases l <;> cases h
theorem snoc_inj {α : Type} {l l' : List α} {a b : α} (h : l ++ [a] = l' ++ [b]) : l = l' ∧ a = b := (List.append_inj' h rfl).imp id fun e => (List.cons.inj e).1
section
variable {P : Prop} {w : World} {p : Int} {tp : Tok} {mt : Addr} {vs : List Value} {objs : List (Addr × Obj)} {c : Nat}
theorem FqAre.inv {ns : List Int} (h : FqAre w p tp vs objs ns) (hn : vs = [] → objs = [] → ns = [] → P)
    (hs : ∀ vs' objs' ns' x d k1 k2 t n, FqAre w p tp vs' objs' ns' → vs = vs' ++ [.ref x] → objs = (x, instObj 235 d) :: (d, fqDict w p tp k1 k2 n t) :: objs' → ns = ns' ++ [n] → P) : P := by
  cases h with
  | nil => exact hn rfl rfl rfl
  | snoc h => exact hs _ _ _ _ _ _ _ _ _ h rfl rfl rfl
theorem FqAre.elim {el : Nat → Int} (h : FqAre w p tp vs objs ((List.range c).map el)) (hc : c ≤ 2)
    (h0 : c = 0 → vs = [] → objs = [] → P) (h1 : ∀ x d k1 k2 t, c = 1 → vs = [.ref x] → objs = [(x, instObj 235 d), (d, fqDict w p tp k1 k2 (el 0) t)] → P)
    (h2 : ∀ x d k1 k2 t x' d' k1' k2' t', c = 2 → vs = [.ref x, .ref x'] → objs = [(x', instObj 235 d'), (d', fqDict w p tp k1' k2' (el 1) t'), (x, instObj 235 d), (d, fqDict w p tp k1 k2 (el 0) t)] → P) : P := by
  rcases Nat.le_succ_iff.mp hc with hc | rfl
  · rcases Nat.le_succ_iff.mp hc with hc | rfl
    · cases Nat.le_zero.mp hc
      exact h.inv (fun a b _ => h0 rfl a b) fun _ _ _ _ _ _ _ _ _ _ _ _ e => (snoc_ne e).elim
    · refine h.inv (fun _ _ e => nomatch e) fun _ _ _ x d k1 k2 t _ h ev eo en => ?_
      obtain ⟨rfl, rfl⟩ := snoc_inj (l := []) en
      refine h.inv (fun a b _ => ?_) fun _ _ _ _ _ _ _ _ _ _ _ _ e => (snoc_ne e).elim
      subst a b ev eo
      exact h1 x d k1 k2 t rfl rfl rfl
  · refine h.inv (fun _ _ e => nomatch e) fun _ _ _ x' d' k1' k2' t' _ h ev eo en => ?_
    obtain ⟨rfl, rfl⟩ := snoc_inj (l := [el 0]) en
    refine h.inv (fun _ _ e => nomatch e) fun _ _ _ x d k1 k2 t _ h ev2 eo2 en => ?_
    obtain ⟨rfl, rfl⟩ := snoc_inj (l := []) en
    refine h.inv (fun a b _ => ?_) fun _ _ _ _ _ _ _ _ _ _ _ _ e => (snoc_ne e).elim
    subst a b ev2 eo2 ev eo
    exact h2 x d k1 k2 t x' d' k1' k2' t' rfl rfl rfl
theorem Fq2Are.inv {ns : List (Int × Int)} (h : Fq2Are w p tp mt vs objs ns) (hn : vs = [] → objs = [] → ns = [] → P)
    (hs : ∀ vs' objs' ns' x d ct D k1 k2 k3 k4 k5 t u v n1 n2, Fq2Are w p tp mt vs' objs' ns' → vs = vs' ++ [.ref x] → objs = (ct, tupObj [.int n1 u, .int n2 v]) :: (x, instObj 389 d) :: (d, fq2Dict w p tp D ct mt k1 k2 k3 k4 k5 t) :: objs' → ns = ns' ++ [(n1, n2)] → P) : P := by
  cases h with
  | nil => exact hn rfl rfl rfl
  | snoc h => exact hs _ _ _ _ _ _ _ _ _ _ _ _ _ _ _ _ _ h rfl rfl rfl
theorem Fq2Are.elim {f : Nat → Int} (h : Fq2Are w p tp mt vs objs ((List.range c).map fun i => (f (2 * i), f (2 * i + 1)))) (hc : c ≤ 2)
    (h0 : c = 0 → vs = [] → objs = [] → P) (h1 : ∀ x d ct D k1 k2 k3 k4 k5 t u v, c = 1 → vs = [.ref x] → objs = [(ct, tupObj [.int (f 0) u, .int (f 1) v]), (x, instObj 389 d), (d, fq2Dict w p tp D ct mt k1 k2 k3 k4 k5 t)] → P)
    (h2 : ∀ x d ct D k1 k2 k3 k4 k5 t u v x' d' ct' D' k1' k2' k3' k4' k5' t' u' v', c = 2 → vs = [.ref x, .ref x'] → objs = [(ct', tupObj [.int (f 2) u', .int (f 3) v']), (x', instObj 389 d'), (d', fq2Dict w p tp D' ct' mt k1' k2' k3' k4' k5' t'),
      (ct, tupObj [.int (f 0) u, .int (f 1) v]), (x, instObj 389 d), (d, fq2Dict w p tp D ct mt k1 k2 k3 k4 k5 t)] → P) : P := by
  rcases Nat.le_succ_iff.mp hc with hc | rfl
  · rcases Nat.le_succ_iff.mp hc with hc | rfl
    · cases Nat.le_zero.mp hc
      exact h.inv (fun a b _ => h0 rfl a b) fun _ _ _ _ _ _ _ _ _ _ _ _ _ _ _ _ _ _ _ _ e => (snoc_ne e).elim
    · refine h.inv (fun _ _ e => nomatch e) fun _ _ _ x d ct D k1 k2 k3 k4 k5 t u v _ _ h ev eo en => ?_
      obtain ⟨rfl, e⟩ := snoc_inj (l := []) en
      cases e
      refine h.inv (fun a b _ => ?_) fun _ _ _ _ _ _ _ _ _ _ _ _ _ _ _ _ _ _ _ _ e => (snoc_ne e).elim
      subst a b ev eo
      exact h1 x d ct D k1 k2 k3 k4 k5 t u v rfl rfl rfl
  · refine h.inv (fun _ _ e => nomatch e) fun _ _ _ x' d' ct' D' k1' k2' k3' k4' k5' t' u' v' _ _ h ev eo en => ?_
    obtain ⟨rfl, e⟩ := snoc_inj (l := [(f 0, f 1)]) en
    cases e
    refine h.inv (fun _ _ e => nomatch e) fun _ _ _ x d ct D k1 k2 k3 k4 k5 t u v _ _ h ev2 eo2 en => ?_
    obtain ⟨rfl, e⟩ := snoc_inj (l := []) en
    cases e
    refine h.inv (fun a b _ => ?_) fun _ _ _ _ _ _ _ _ _ _ _ _ _ _ _ _ _ _ _ _ e => (snoc_ne e).elim
    subst a b ev2 eo2 ev eo
    exact h2 x d ct D k1 k2 k3 k4 k5 t u v x' d' ct' D' k1' k2' k3' k4' k5' t' u' v' rfl rfl rfl
end
end
section
theorem tok_any {α : Type} {Md : Model} {A : Around} {t : Sem α} {Q : α → Shared → Prop} {E : Value → Shared → Prop} {h : Heap} {g : Array GenState} {d : Drawn} {k : Nat} {o : OsState} (H : ∀ k : Nat, wpAny Md A t Q E ⟨h, g, d, k, o⟩) : wpAny Md A t Q E ⟨h, g, d, k, o⟩ := H k
/-! ## the law's own end: its generators are bare -/
def GoodA (cw : ClaimW) (cl : Str → Option Addr) (mean : ExcName → Option Value) (args : List WData) (s₁ : Shared) (r : Result) (s' : Shared) : Prop :=
  AllBare s'.gens ∧ GoodW cw cl mean args s₁ r { s' with gens := #[] }
theorem kn_postA {M : Model} {A : Around} {cd : Code} {s s₁ : Shared} {cw : ClaimW} {cl : Str → Option Addr} {mean : ExcName → Option Value} {args : List WData} {tabs : List (Addr × Addr)} (hT : TabsAt tabs s₁.heap) (hr : ∀ a x, cw.raises a x = false)
    (h : codeAny M A cd (fun r s' => GoodA cw cl mean args { s₁ with heap := ghostOf s₁.heap tabs } r s' ∧ GrownAll tabs s'.heap) s) : codeAny M A cd (GoodWG cw cl mean args s₁) s :=
  codeAny_mono h fun r s' ⟨⟨hb, hc, hk, hos, _⟩, hgr⟩ => by
    have keep : ∀ b o, b ∉ tabs.map (·.2) → s₁.heap.get? b = some o → s'.heap.get? b = some o := fun b o hb e => hk b o (ghost_ne e hb)
    have grown : ∀ b o, b ∈ tabs.map (·.2) → s₁.heap.get? b = some o → isCodeTable s₁.heap b ∧ o = tabObj #[] ∧ ∃ ps, s'.heap.get? b = some (tabObj ps) := fun b o hb e => by
      obtain ⟨q, hq, rfl⟩ := List.mem_map.mp hb
      have e2 := (hT q hq).2
      rw [e] at e2
      exact ⟨((hT q hq).1.tab (hT q hq).2).isCodeTable, Option.some.inj e2, hgr.get q hq⟩
    refine ⟨?_, ⟨fun b o e => ?_, fun b o e => ?_⟩, hos, hb⟩
    · rcases hc with ⟨v, d, as, r1, r2, r3, r4, r5⟩ | ⟨e, ob, x, _, _, _, r4, _⟩
      · refine .inl ⟨v, d, as, r1, r2, r3, r4, fun q => ⟨(r5 q).1, fun a ha => ?_⟩⟩
        cases q1 : s₁.heap.get? a with
        | none => rfl
        | some o =>
          by_cases hb : a ∈ tabs.map (·.2)
          · obtain ⟨_, _, ps, hP⟩ := grown a o hb q1
            exact absurd ha (readsW_apart hP rfl r3)
          · have e3 := (r5 q).2 a ha
            rw [show (ghostOf s₁.heap tabs).get? a = some o from ghost_ne q1 hb] at e3
            cases e3
      · rw [hr] at r4; cases r4
    · by_cases hb : b ∈ tabs.map (·.2)
      · obtain ⟨ht, rfl, ps, hP⟩ := grown b o hb e
        exact .inr (.inl ⟨ht, rfl, #[], ps, rfl, by rw [Array.empty_append]; exact hP⟩)
      · exact .inl (keep b o hb e)
    · by_cases hb : b ∈ tabs.map (·.2)
      · obtain ⟨_, _, ps, hP⟩ := grown b o hb e
        exact ⟨_, hP⟩
      · exact ⟨o, keep b o hb e⟩
theorem five_of {P : Prop} {g : Int → Int} {ys : List Value} (h : IntsAre ys (List.map g (rangeKs 0 (5 - 0 : Int).toNat))) (hg : ∀ k, 0 ≤ k → 0 ≤ g k)
    (k : ∀ a0 a1 a2 a3 a4 u0 u1 u2 u3 u4, 0 ≤ a0 → 0 ≤ a1 → 0 ≤ a2 → 0 ≤ a3 → 0 ≤ a4 → ys = [.int a0 u0, .int a1 u1, .int a2 u2, .int a3 u3, .int a4 u4] → P) : P := by
  have h' : IntsAre ys [g 0, g 1, g 2, g 3, g 4] := h
  obtain ⟨u0, y1, rfl, h1⟩ := h'.cons_inv
  obtain ⟨u1, y2, rfl, h2⟩ := h1.cons_inv
  obtain ⟨u2, y3, rfl, h3⟩ := h2.cons_inv
  obtain ⟨u3, y4, rfl, h4⟩ := h3.cons_inv
  obtain ⟨u4, y5, rfl, h5⟩ := h4.cons_inv
  cases h5.nil_inv
  exact k _ _ _ _ _ u0 u1 u2 u3 u4 (hg 0 (by decide)) (hg 1 (by decide)) (hg 2 (by decide)) (hg 3 (by decide)) (hg 4 (by decide)) rfl
theorem primes_ge {k d : Int} (h0 : 0 ≤ k) (h1 : k < 10) : 7 ≤ [7, 11, 13, 17, 19, 23, 29, 31, 4002409555221667393417789825735904156556882819939007885332058136124031650490837864442687629129015664037894272559787, 21888242871839275222246405745257275088696311157297823662689037894645226208583].getD k.toNat d := by
  obtain ⟨n, rfl⟩ := Int.eq_ofNat_of_zero_le h0
  have hn : n < 10 := by omega
  rw [Int.toNat_natCast]
  match n, hn with
  | 0, _ => exact (by decide : (7 : Int) ≤ 7)
  | 1, _ => exact (by decide : (7 : Int) ≤ 11)
  | 2, _ => exact (by decide : (7 : Int) ≤ 13)
  | 3, _ => exact (by decide : (7 : Int) ≤ 17)
  | 4, _ => exact (by decide : (7 : Int) ≤ 19)
  | 5, _ => exact (by decide : (7 : Int) ≤ 23)
  | 6, _ => exact (by decide : (7 : Int) ≤ 29)
  | 7, _ => exact (by decide : (7 : Int) ≤ 31)
  | 8, _ => exact (by decide : (7 : Int) ≤ 4002409555221667393417789825735904156556882819939007885332058136124031650490837864442687629129015664037894272559787)
  | 9, _ => exact (by decide : (7 : Int) ≤ 21888242871839275222246405745257275088696311157297823662689037894645226208583)
theorem fr_gen {h₀ h : Heap} {L : Addr} {x : Str} {M : Str → Option Value} {t : Tok} {v : Int} {P : Int → Prop} (F : Fr h₀ L h (fun y => if y = x then some (.int v t) else M y)) (hv : P v) : ∃ p, P p ∧ Fr h₀ L h (fun y => if y = x then some (.int p t) else M y) := ⟨v, hv, F⟩
theorem news_tail {h₀ h : Heap} {L : Addr} {a : Addr × Obj} {r : List (Addr × Obj)} (N : News h₀ L h (a :: r)) : News h₀ L h r := fun q hq => N q (.tail _ hq)
theorem cell_gen {o : Obj} {v : Int} {t : Tok} {P : Int → Prop} (d : o.data = Data.cell (some (.int v t))) (hv : P v) : ∃ p, P p ∧ o.data = Data.cell (some (.int p t)) := ⟨v, hv, d⟩
theorem nat_of {v : Int} {lo hi : Nat} (h0 : (lo : Int) ≤ v) (h1 : v ≤ (hi : Int)) : ∃ n : Nat, v = (n : Int) ∧ lo ≤ n ∧ n ≤ hi := by
  obtain ⟨n, rfl⟩ := Int.eq_ofNat_of_zero_le (a := v) (by omega)
  exact ⟨n, rfl, by omega, by omega⟩
theorem lamIn_of {h₀ h : Heap} {L f : Addr} {n : Nat} {news : List (Addr × Obj)} (_N : News h₀ L h news) (x : LamIn news f n) : LamIn news f n := x
theorem bytes_of {w : World} {s : Shared} {h₀ : Heap} {L D : Addr} {m : Str → Option Value} {news : List (Addr × Obj)} {Q E : Value → Shared → Prop} {A : Around} {us : List Value} {M : List UInt8} (F : Fr h₀ L s.heap m) (N : News h₀ L s.heap news) (hh : A.handled = none) (hm : (D, LCg.lst us) ∈ news) (hi : IntsAre us (M.map fun c => ((c.toNat : Nat) : Int))) (hz : M.length ≤ 20)
    (h : ∀ h' t' k', Fr h₀ L h' m → News h₀ L h' news → Q (.bytes M.toArray t') { s with heap := h', toks := k' }) : wpAny (model P17 w) A (call (.type "bytes") [.ref D]) Q E s :=
  bytes_as M.toArray rfl F N hh hm hi (by rw [List.size_toArray]; omega) h
theorem cons_ne {k : Nat} {a : Addr} {o : Obj} {r : List (Addr × Obj)} (h : @Ne Nat a k) (hr : ∀ q ∈ r, q.1 ≠ k) : ∀ q ∈ (a, o) :: r, q.1 ≠ k := List.forall_mem_cons.mpr ⟨h, hr⟩
theorem nil_ne {k : Nat} : ∀ q ∈ ([] : List (Addr × Obj)), q.1 ≠ k := fun _ h => nomatch h
theorem news_p37 {h₀ h : Heap} {L : Addr} {x d f c l2 l1 D e3 e2 e1 t419 t37 t248 : Addr × Obj} {r : List (Addr × Obj)} (N : News h₀ L h (x :: d :: f :: c :: l2 :: l1 :: D :: e3 :: e2 :: e1 :: t419 :: t37 :: t248 :: r)) : News h₀ L h (t37 :: x :: d :: f :: c :: l2 :: l1 :: D :: e3 :: e2 :: e1 :: t419 :: t248 :: r) := news_pick 13 [11, 0, 1, 2, 3, 4, 5, 6, 7, 8, 9, 10, 12] N
theorem news_base {h₀ h : Heap} {L : Addr} {x d f c l2 l1 D e3 e2 e1 t419 t37 t248 : Addr × Obj} (N : News h₀ L h [x, d, f, c, l2, l1, D, e3, e2, e1, t419, t37, t248]) : News h₀ L h [f, c, l2, l1, D, e3, e2, e1, t419] := news_pick0 [2, 3, 4, 5, 6, 7, 8, 9, 10] N
theorem ne_all {h₀ h : Heap} {L : Addr} {k : Nat} {news : List (Addr × Obj)} (_N : News h₀ L h news) (x : ∀ q ∈ news, q.1 ≠ k) : ∀ q ∈ news, q.1 ≠ k := x
theorem app_ne {k : Nat} {l r : List (Addr × Obj)} (h1 : ∀ q ∈ l, q.1 ≠ k) (h2 : ∀ q ∈ r, q.1 ≠ k) : ∀ q ∈ l ++ r, q.1 ≠ k := fun q hq => (List.mem_append.mp hq).elim (h1 q) (h2 q)
theorem lamIn_of2 {h₀ h : Heap} {L f : Addr} {n : Nat} {news : List (Addr × Obj)} (_N : News h₀ L h news) (x : LamIn news f n) : LamIn news f n := x
theorem news_n0 {h₀ h : Heap} {L : Addr} {R tu t37 x9 d9  f c l2 l1 D e3 e2 e1 t419 t248 : Addr × Obj} (N : News h₀ L h [R, tu, t37, x9, d9, f, c, l2, l1, D, e3, e2, e1, t419, t248]) : News h₀ L h [l1, l2, R, t37, t248, f, c, D, e3, e2, e1, t419] := news_pick0 [8, 7, 0, 2, 14, 5, 6, 9, 10, 11, 12, 13] N
theorem news_n2 {h₀ h : Heap} {L : Addr} {R tu t37 x9 d9 o0 o1 f c l2 l1 D e3 e2 e1 t419 t248 : Addr × Obj} (N : News h₀ L h [R, tu, t37, x9, d9, o0, o1, f, c, l2, l1, D, e3, e2, e1, t419, t248]) : News h₀ L h [l1, l2, R, t37, t248, f, c, D, e3, e2, e1, t419] := news_pick0 [10, 9, 0, 2, 16, 7, 8, 11, 12, 13, 14, 15] N
theorem news_n4 {h₀ h : Heap} {L : Addr} {R tu t37 x9 d9 o0 o1 o2 o3 f c l2 l1 D e3 e2 e1 t419 t248 : Addr × Obj} (N : News h₀ L h [R, tu, t37, x9, d9, o0, o1, o2, o3, f, c, l2, l1, D, e3, e2, e1, t419, t248]) : News h₀ L h [l1, l2, R, t37, t248, f, c, D, e3, e2, e1, t419] := news_pick0 [12, 11, 0, 2, 18, 9, 10, 13, 14, 15, 16, 17] N
theorem two_of {g : Nat → Int} {ys : List Value} (h : IntsAre ys ((List.range 2).map g)) : ∃ u v, ys = [.int (g 0) u, .int (g 1) v] := by
  have h' : IntsAre ys [g 0, g 1] := h
  obtain ⟨u, y1, rfl, h1⟩ := h'.cons_inv
  obtain ⟨v, y2, rfl, h2⟩ := h1.cons_inv
  cases h2.nil_inv
  exact ⟨u, v, rfl⟩
theorem one_of {g : Nat → Int} {ys : List Value} (h : IntsAre ys ((List.range 1).map g)) : ∃ u, ys = [.int (g 0) u] := by
  have h' : IntsAre ys [g 0] := h
  obtain ⟨u, y1, rfl, h1⟩ := h'.cons_inv
  cases h1.nil_inv
  exact ⟨u, rfl⟩
theorem nil_of {g : Nat → Int} {ys : List Value} (h : IntsAre ys ((List.range 0).map g)) : ys = [] := by
  have h' : IntsAre ys [] := h
  exact h'.nil_inv
/-- the middle of a test that comes out false -/
def Mid (h₀ : Heap) (L : Addr) (m : Str → Option Value) (news : List (Addr × Obj)) (s : Shared) (b : Bool) (s' : Shared) : Prop := b = false ∧ ∃ h' tk', s' = { s with heap := h', toks := tk' } ∧ Fr h₀ L h' m ∧ News h₀ L h' news
theorem test_mid {Md : Model} {A : Around} {t : Sem Bool} {Q : Bool → Shared → Prop} {E : Value → Shared → Prop} {s : Shared} {h₀ : Heap} {L : Addr} {m : Str → Option Value} {news : List (Addr × Obj)} (_F : Fr h₀ L s.heap m) (_N : News h₀ L s.heap news)
    (h1 : wpAny Md A t (Mid h₀ L m news s) E s) (h2 : ∀ h' tk', Fr h₀ L h' m → News h₀ L h' news → Q false { s with heap := h', toks := tk' }) : wpAny Md A t Q E s :=
  wpAny_mono h1 (fun b s' ⟨hb, h', tk', hs, F, N⟩ => by subst hb hs; exact h2 h' tk' F N) fun _ _ e => e
theorem news_k {h₀ h : Heap} {L : Addr} {tu t37 x9 d9 f c l2 l1 D e3 e2 e1 t419 t248 : Addr × Obj} {objs : List (Addr × Obj)} (N : News h₀ L h (tu :: t37 :: x9 :: d9 :: (objs ++ [f, c, l2, l1, D, e3, e2, e1, t419, t248]))) : News h₀ L h [t37, t248, f, c, l2, l1, D, e3, e2, e1, t419] := 
  have K := news_right (news_pick 4 [] N)
  news_and (news_pick0 [1] N) (news_pick0 [9, 0, 1, 2, 3, 4, 5, 6, 7, 8] K)
theorem news_m {h₀ h : Heap} {L : Addr} {ln l1 l2 R t37 t248 f c D e3 e2 e1 t419 : Addr × Obj} (N : News h₀ L h [ln, l1, l2, R, t37, t248, f, c, D, e3, e2, e1, t419]) : News h₀ L h [t37, t248, f, c, l2, l1, D, e3, e2, e1, t419] := news_pick0 [4, 5, 6, 7, 2, 1, 8, 9, 10, 11, 12] N
section
variable {h₀ h : Heap} {L : Addr} {mt e ct x d tu ln t37 t248 f c l2 l1 D e3 e2 e1 t419 : Addr × Obj} {objs : List (Addr × Obj)}
theorem news_q1 (N : News h₀ L h [mt, e, t37, t248, f, c, l2, l1, D, e3, e2, e1, t419]) : News h₀ L h [t248, e, mt, t37, f, c, l2, l1, D, e3, e2, e1, t419] := news_pick0 [3, 1, 0, 2, 4, 5, 6, 7, 8, 9, 10, 11, 12] N
theorem news_q2 (N : News h₀ L h [ct, t248, x, d, e, mt, t37, f, c, l2, l1, D, e3, e2, e1, t419]) : News h₀ L h [t37, t248, x, d, mt, f, c, l2, l1, D, e3, e2, e1, t419] := news_pick0 [6, 1, 2, 3, 5, 7, 8, 9, 10, 11, 12, 13, 14, 15] N
theorem news_q3 (N : News h₀ L h (tu :: t37 :: t248 :: x :: d :: mt :: (objs ++ [f, c, l2, l1, D, e3, e2, e1, t419]))) : News h₀ L h (l1 :: l2 :: tu :: t37 :: t248 :: e3 :: e2 :: t419 :: objs) := 
  have K := news_right (news_pick 6 [] N)
  news_and (news_pick0 [3, 2] K) (news_and (news_pick0 [0, 1, 2] N) (news_and (news_pick0 [5, 6, 8] K) (news_left (news_pick 6 [] N))))
theorem news_q4 (N : News h₀ L h (ln :: l1 :: l2 :: tu :: t37 :: t248 :: e3 :: e2 :: t419 :: objs)) : News h₀ L h (e2 :: ln :: tu :: t37 :: t248 :: t419 :: objs) := news_pick 9 [7, 0, 3, 4, 5, 8] N
theorem cell_ne {c : Addr} {o : Obj} {v : Option Value} {rest : List (Addr × Obj)} (N : News h₀ L h ((c, o) :: rest)) (hd : o.data = .cell v) (hr : ∀ q ∈ rest, ∀ v, q.2.data ≠ .cell v) : ∀ q ∈ rest, q.1 ≠ c := fun q hq e => by
  have h1 := (N _ (.head _)).1
  have h2 := (N q (.tail _ hq)).1
  rw [e, h1] at h2
  exact hr q hq v ((Option.some.inj h2) ▸ hd)
end
theorem Fq2Are.noCell {w : World} {p : Int} {tp : Tok} {mt : Addr} {vs : List Value} {objs : List (Addr × Obj)} {ns : List (Int × Int)} (h : Fq2Are w p tp mt vs objs ns) : ∀ q ∈ objs, ∀ v, q.2.data ≠ .cell v := by
  induction h with
  | nil => exact fun _ h => nomatch h
  | snoc _ ih => exact List.forall_mem_cons.mpr ⟨fun _ e => (by cases e), List.forall_mem_cons.mpr ⟨fun _ e => (by cases e), List.forall_mem_cons.mpr ⟨fun _ e => (by cases e), ih⟩⟩⟩
section
variable {w : World} {loose : List Str} {mean : ExcName → Option Value} {mg mb : Str → Option Value}
  {dp un : Nat} {gd : Option (List Code)} {cn : Str} {cs : Scope} {a : Addr} {ccd : Value} {cl : List (Str × Addr)} {outer : List Env} {A₀ : Around} {base h₀ : Heap} {L : Addr} {m : Str → Option Value} {news : List (Addr × Obj)} {s : Shared}
  {Q E : Value → Shared → Prop}
theorem numbers_callE {mr tr : Addr} {ym yt : List Value} {M Tg : List UInt8} {n r c : Nat} {k p : Int} {t3 t4 t5 t6 : Tok} (hkc : k = (c : Int)) (hm : IntsAre ym (asInts M)) (ht : IntsAre yt (asInts Tg)) (hlm : M.length ≤ 20) (hlt : Tg.length ≤ 20)
    (B : Below A₀ base outer h₀) (F : Fr h₀ L s.heap m) (X : (Mine.hd.heap_1 w.params).In h₀) (N : News h₀ L s.heap ((mr, LCg.lst ym) :: (tr, LCg.lst yt) :: news)) (T : Top topProg loose mean mg mb h₀) (hk : cs.kind = .function)
    (hd : dp ≤ 480) (hu : un ≤ 1800) (hn : 16 ≤ n) (hn2 : n ≤ 64) (hr : r ≤ 40) (hc : c ≤ 4) (hp : 7 ≤ p)
    (hret : ∀ l ys nn h' tk', IntsAre ys ((List.range c).map (elemAt (expd n M.toArray Tg.toArray (64 * c) r) p)) → Fr h₀ L h' m → News h₀ L h' ((l, listOf (List.toArray ys) nn) :: (mr, LCg.lst ym) :: (tr, LCg.lst yt) :: news) → Q (.ref l) { s with heap := h', toks := tk' }) :
    wpAny (model P17 w) (ktrTop dp un gd cn cs L a ccd cl outer) (call (.ref 417) [.ref mr, .ref tr, .int k t3, .int (n : Int) t4, .int (r : Int) t5, .int p t6]) Q E s := by
  subst hkc
  exact numbers_call (t1 := 0) (t2 := 0) hm ht hlm hlt B F X N T hk hd hu hn hn2 hr hc hp fun l ys nn h' tk' a1 a2 a3 _ => hret l ys nn h' tk' a1 a2 a3
end
theorem four_of {g : Nat → Int} {ys : List Value} (h : IntsAre ys ((List.range (2 * 2)).map g)) : ∃ u v u' v', ys = [.int (g 0) u, .int (g 1) v, .int (g 2) u', .int (g 3) v'] := by
  have h' : IntsAre ys [g 0, g 1, g 2, g 3] := h
  obtain ⟨u, y1, rfl, h1⟩ := h'.cons_inv
  obtain ⟨v, y2, rfl, h2⟩ := h1.cons_inv
  obtain ⟨u', y3, rfl, h3⟩ := h2.cons_inv
  obtain ⟨v', y4, rfl, h4⟩ := h3.cons_inv
  cases h4.nil_inv
  exact ⟨u, v, u', v', rfl⟩
theorem mem_ce {α : Type} {q T I C D : α} {r : List α} (h : q ∈ I :: C :: D :: T :: r) : q ∈ T :: I :: C :: D :: r := mem_pick 4 [1, 2, 3, 0] h
local macro_rules | `(tactic| walk_at "eval ListComp") => `(tactic| (k_here; (with_reducible show wpAny _ _ (eval (Expr.ListComp (Expr.Attribute _ _ _) _ _ _) _) _ _ _); k_dflt (refine Mine.ListComp_Tup (by k_asm) (by rfl) (by decide) (by rfl) (by decide) (by rfl) ?_)))
local macro_rules | `(tactic| walk_at "SrcT") => `(tactic| (k_here; k_dflt (refine Mine.SrcT.ledger (by rfl) (by k_asm) (by k_asm) (by k_mem) (by exact Nat.le_of_ble_eq_true rfl) ?_; intro g'; lcg_lit)))
local macro_rules | `(tactic| walk_at "CompRest") => `(tactic| ((with_reducible show LCg.CompRest _ _ _ _ _ _ _ (Expr.Attribute _ _ _) _ _ _ _ _ _ _ _ _ _ _); with_unfolding_all first
  | (refine LCg.CompRest.succ ?_; intro v' I' oI' C' oC' D' m' h' tk' E' hv' hC' hx' F' N' off' ne'; lcg_open hv')
  | refine LCg.CompRest.zero ?_))
local macro_rules | `(tactic| walk_at "CompEnd") => `(tactic| ((with_reducible show LCg.CompEnd _ _ _ _ _ _ _ _ _ _ (Mine.SrcAtT _ _) _ (Value.int _ _) _); (with_reducible rename LCg.Off3 _ _ _ _ => off9); (with_reducible rename Fr _ _ _ _ => F9); (with_reducible rename News _ _ _ _ => N9); (refine LCg.CompEnd.intro F9 N9 _ (fun p hp => hp) off9 (by lcg_src) ?_); clear off9))
local macro_rules | `(tactic| walk_at "eval ListComp") => `(tactic| (k_here; (with_reducible show wpAny _ _ (eval (Expr.ListComp (Expr.Tuple _ _ _) [⟨_, Expr.Name _ _, _, _⟩] _ _) _) _ _ _); k_dflt (refine Mine.ListComp_Tup (by k_asm) (by rfl) (by decide) (by rfl) (by decide) (by rfl) ?_)))
local macro_rules | `(tactic| walk_at "eval ListComp") => `(tactic| (k_here; (with_reducible show wpAny _ _ (eval (Expr.ListComp (Expr.Tuple _ _ _) [⟨_, Expr.Call _ _ _ _, _, _⟩] _ _) _) _ _ _); k_dflt (refine LCg.ListComp_U (F₀ := by k_asm) (by with_unfolding_all rfl) (by decide) (by rfl) (by decide) (by rfl) ?_)))
local macro_rules | `(tactic| walk_at "CompSrc") => `(tactic| (k_here; (with_reducible show LCg.CompSrc _ _ _ _ _ _ _ (Expr.Tuple _ _ _) _ _ _ _ _ _); k_dflt (refine LCg.CompSrc.range (by rfl) (by k_asm) (by k_asm) (by assumption) (by first | decide | rfl) (by first | rfl | decide) (by first | size_fits | exact Nat.le_of_ble_eq_true rfl) ?_; intro g'; lcg_lit)))
local macro_rules | `(tactic| walk_at "subscriptTail") => `(tactic| (k_here; (with_reducible show wpAny _ _ (subscriptTail (Expr.Attribute _ _ _) _ (Value.ref _) (Value.int _ _)) _ _ _); k_dflt (first
  | refine Mine.tup_at (by k_asm) (by k_mem) (by first | decide | omega) (by first | decide | omega) (by rfl) ?_
  | refine Mine.item_at (by k_asm) (by k_mem) (by first | decide | omega) (by first | decide | omega) (by rfl) ?_)))
local macro_rules | `(tactic| walk_at "CompRest") => `(tactic| ((with_reducible show LCg.CompRest _ _ _ _ _ _ _ (Expr.Tuple _ _ _) _ _ _ _ _ _ _ _ _ _ _); with_unfolding_all first
  | (refine LCg.CompRest.succ ?_; intro v' I' oI' C' oC' D' m' h' tk' E' hv' hC' hx' F' N' off' ne'; (first | lcg_open hv' | (obtain ⟨t9', hv9'⟩ := hv'; subst hv9')))
  | refine LCg.CompRest.zero ?_))
local macro_rules | `(tactic| walk_at "CompEnd") => `(tactic| ((with_reducible show LCg.CompEnd _ _ _ _ _ _ _ _ _ _ _ _ (Value.ref _) _); (with_reducible rename LCg.Off3 _ _ _ _ => off9); (with_reducible rename Fr _ _ _ _ => F9); (with_reducible rename News _ _ _ _ => N9); (with_reducible rename @LT.lt Nat _ _ _ ∧ @LT.lt Nat _ _ _ ∧ @LT.lt Nat _ _ _ ∧ _ => l9); (refine LCg.CompEnd.intro F9 N9 (_ :: _) (fun p hp => Mine.mem_ce hp) ⟨⟨Nat.ne_of_gt l9.1, Nat.ne_of_gt l9.2.1, Nat.ne_of_gt l9.2.2.1⟩, off9⟩ (by lcg_src) ?_); clear off9 l9))
theorem law_holds : PySem.Challenge.rw_kh0017_01.Holds := by
  refine Mine.hd ?_
  k_fill
  intro w s₀ s₁ mg mb G Y fa o pm cd doc dV kV ho hd hcd hD hmg hg args vals as hpre hlay hrd hwl hlo
  have KX := km_in_of Y
  have hT8 := km_tabs_of Y
  have X := (Ground.X G).1
  have V := (Ground.X G).2
  refine Ground.open G ?_
  intro T B D TE TW
  have hT9 : TabsAt [(421, 419), (41, 37), (250, 248)] s₁.heap := List.forall_mem_cons.mpr ⟨⟨codeHd_of_K (c := 421) (P := 419) KX (by kernel_rfl), hT8 419 (by k_mem)⟩, List.forall_mem_cons.mpr ⟨⟨codeHd_of_K (c := 41) (P := 37) KX (by kernel_rfl), hT8 37 (by k_mem)⟩, List.forall_mem_cons.mpr ⟨⟨codeHd_of_K (c := 250) (P := 248) KX (by kernel_rfl), hT8 248 (by k_mem)⟩, fun _ h => nomatch h⟩⟩⟩
  have he9 : cd = PySem.Value.ref 421 := law_code (x := PySem.Str.ofString "law") (c := 421) (P := 419) KX (Top.g T) (by kernel_rfl) hmg ho hd
  subst he9
  clear hmg
  wrow_args hpre hlay hrd hwl hlo
  all_goals (
    first | refine callC_kw (enter_call ?_) | refine enter_call ?_
    w_top on
    (refine kn_postA hT9 (fun _ _ => rfl) ?_)
    w_call any ho hd hcd hD T F
    clear hd
    kn_ghosts F T
    k_drop
    skip)
  (all_goals try k_fold)
  (((repeat ((with_reducible show wpAny _ _ (execs _ _) _ _ _); ((first | (k_unfold; (try dsimp only)) | (k_end; wrow_close) | walk1 | (dsimp only; walk1) | (leave1; walk_say "STEP leave1"; try dsimp only)))))))
  ((repeat' ((fail_if_success (with_reducible show wpAny _ (Around.deeper callerA _) (execs _ _) _ _ _)); ((first | (k_unfold; (try dsimp only)) | (k_end; wrow_close) | walk1 | (dsimp only; walk1) | (leave1; walk_say "STEP leave1"; try dsimp only))))))
  ((((try dsimp only); (refine Mine.tok_any ?_); intro tk9Zq; (with_reducible rename Fr _ _ _ _ => F7Zq); (try dsimp only at F7Zq); (with_reducible rename News _ _ _ _ => N7Zq); (try dsimp only at N7Zq))))
  rename IntsAre ys _ => i9
  refine five_of i9 (fun k hk => by (try dsimp only); split <;> (try split) <;> omega) ?_
  clear i9
  intro a0 a1 a2 a3 a4 u0 u1 u2 u3 u4 hn0 hn1 hn2 hn3 hn4 hys
  subst hys
  (try clear hT8); (try clear hT9); (try clear hcd); (try clear hD); (try clear ho); (try clear KX); (try clear X); (try clear V); (try clear D); (try clear TE); (try clear TW); (try clear G); (try clear Y); (try clear B)
  (((repeat ((with_reducible show wpAny _ _ (execs _ _) _ _ _); ((first | (k_unfold; (try dsimp only)) | (k_end; wrow_close) | walk1 | (dsimp only; walk1) | (leave1; walk_say "STEP leave1"; try dsimp only)))))))
  ((repeat' ((fail_if_success (with_reducible show wpAny _ (Around.deeper callerA _) (execs _ _) _ _ _)); ((first | (k_unfold; (try dsimp only)) | (k_end; wrow_close) | walk1 | (dsimp only; walk1) | (leave1; walk_say "STEP leave1"; try dsimp only))))))
  ((((try dsimp only); (refine Mine.tok_any ?_); intro tk9Zq; (with_reducible rename Fr _ _ _ _ => F7Zq); (try dsimp only at F7Zq); (with_reducible rename News _ _ _ _ => N7Zq); (try dsimp only at N7Zq))))
  rename Fr _ _ _ _ => F9
  obtain ⟨p, hp, F10⟩ := fr_gen (P := fun p => 7 ≤ p) F9 (primes_ge (Int.fmod_nonneg_of_pos _ (by decide)) (Int.fmod_lt_of_pos _ (by decide)))
  clear F9
  rename News _ _ _ _ => N9
  have N10 := news_tail N9
  clear N9
  (((repeat ((with_reducible show wpAny _ _ (execs _ _) _ _ _); ((first | (k_unfold; (try dsimp only)) | (k_end; wrow_close) | walk1 | (dsimp only; walk1) | (leave1; walk_say "STEP leave1"; try dsimp only)))))))
  ((repeat' ((fail_if_success (with_reducible show wpAny _ (Around.deeper callerA _) (execs _ _) _ _ _)); ((first | (k_unfold; (try dsimp only)) | (k_end; wrow_close) | walk1 | (dsimp only; walk1) | (leave1; walk_say "STEP leave1"; try dsimp only))))))
  ((((try dsimp only); (refine Mine.tok_any ?_); intro tk9Zq; (with_reducible rename Fr _ _ _ _ => F7Zq); (try dsimp only at F7Zq); (with_reducible rename News _ _ _ _ => N7Zq); (try dsimp only at N7Zq))))
  rename _ = Data.cell (some (.int _ _)) => d8
  obtain ⟨_, ⟨n, rfl, hn, hn2⟩, d9⟩ := cell_gen (P := fun v => ∃ n : Nat, v = (n : Int) ∧ 16 ≤ n ∧ n ≤ 64) d8 (nat_of (by have := Int.fmod_nonneg_of_pos (([a0, a1, a2, a3, a4].getD (Int.toNat 0) 0).fdiv 10) (b := 49) (by decide); omega) (by have := Int.fmod_lt_of_pos (([a0, a1, a2, a3, a4].getD (Int.toNat 0) 0).fdiv 10) (b := 49) (by decide); omega))
  clear d8
  rename Fr _ _ _ _ => F8
  obtain ⟨_, ⟨r, rfl, _, hr⟩, F9⟩ := fr_gen (P := fun v => ∃ n : Nat, v = (n : Int) ∧ 0 ≤ n ∧ n ≤ 40) F8 (nat_of (Int.fmod_nonneg_of_pos _ (by decide)) (by have := Int.fmod_lt_of_pos ([a0, a1, a2, a3, a4].getD (Int.toNat 1) 0) (b := 30) (by decide); omega))
  clear F8
  rename News _ _ _ _ => N8
  have N9 := news_tail N8
  clear N8
  (((repeat ((with_reducible show wpAny _ _ (execs _ _) _ _ _); ((first | (k_unfold; (try dsimp only)) | (k_end; wrow_close) | walk1 | (dsimp only; walk1) | (leave1; walk_say "STEP leave1"; try dsimp only)))))))
  ((repeat' ((fail_if_success (with_reducible show wpAny _ _ (call (Value.ref 410) _) _ _ _)); ((first | (k_unfold; (try dsimp only)) | (k_end; wrow_close) | walk1 | (dsimp only; walk1) | (leave1; walk_say "STEP leave1"; try dsimp only))))))
  ((((try dsimp only); (refine Mine.tok_any ?_); intro tk9Zq; (with_reducible rename Fr _ _ _ _ => F7Zq); (try dsimp only at F7Zq); (with_reducible rename News _ _ _ _ => N7Zq); (try dsimp only at N7Zq))))
  refine octets_call3 (by show 0 ≤ a2; assumption) (Int.fmod_nonneg_of_pos _ (by decide)) (Int.lt_trans (Int.fmod_lt_of_pos _ (by decide)) (by decide)) (by k_asm) (by k_asm) (by k_asm) (by k_asm) (by assumption) rfl (by walk_at "small") (by walk_at "small") ?_
  intro l1 y1 M h1 k1 hM1 hM2 F1 N1 o1
  have e11 : @Ne Nat 419 l1 := o1 (419, tabObj #[]) (by k_mem)
  have e12 : @Ne Nat 37 l1 := o1 (37, tabObj #[]) (by k_mem)
  have e13 : @Ne Nat 248 l1 := o1 (248, tabObj #[]) (by k_mem)
  (try dsimp only)
  ((repeat' ((fail_if_success (with_reducible show wpAny _ _ (call (Value.ref 410) _) _ _ _)); ((first | (k_unfold; (try dsimp only)) | (k_end; wrow_close) | walk1 | (dsimp only; walk1) | (leave1; walk_say "STEP leave1"; try dsimp only))))))
  ((((try dsimp only); (refine Mine.tok_any ?_); intro tk9Zq; (with_reducible rename Fr _ _ _ _ => F7Zq); (try dsimp only at F7Zq); (with_reducible rename News _ _ _ _ => N7Zq); (try dsimp only at N7Zq))))
  refine octets_call3 (by show 0 ≤ a3; assumption) (Int.fmod_nonneg_of_pos _ (by decide)) (Int.fmod_lt_of_pos _ (by decide)) (by k_asm) (by k_asm) (by k_asm) (by k_asm) (by assumption) rfl (by walk_at "small") (by walk_at "small") ?_
  intro l2 y2 Tg h2 k2 hT1 hT2 F2 N2 o2
  have e21 : @Ne Nat 419 l2 := o2 (419, tabObj #[]) (by k_mem)
  have e22 : @Ne Nat 37 l2 := o2 (37, tabObj #[]) (by k_mem)
  have e23 : @Ne Nat 248 l2 := o2 (248, tabObj #[]) (by k_mem)
  have e24 : @Ne Nat l1 l2 := o2 (l1, LCg.lst y1) (by k_mem)
  (try dsimp only)
  ((repeat' ((fail_if_success (with_reducible show wpAny _ (Around.deeper callerA _) (execs _ _) _ _ _)); ((first | (k_unfold; (try dsimp only)) | (k_end; wrow_close) | walk1 | (dsimp only; walk1) | (leave1; walk_say "STEP leave1"; try dsimp only))))))
  ((((try dsimp only); (refine Mine.tok_any ?_); intro tk9Zq; (with_reducible rename Fr _ _ _ _ => F7Zq); (try dsimp only at F7Zq); (with_reducible rename News _ _ _ _ => N7Zq); (try dsimp only at N7Zq))))
  rename News _ _ _ _ => N8
  have N9 := news_tail N8
  clear N8
  (((repeat ((with_reducible show wpAny _ _ (execs _ _) _ _ _); ((first | (k_unfold; (try dsimp only)) | (k_end; wrow_close) | walk1 | (dsimp only; walk1) | (leave1; walk_say "STEP leave1"; try dsimp only)))))))
  ((repeat' ((fail_if_success (with_reducible show wpAny _ (Around.deeper callerA _) (execs _ _) _ _ _)); ((first | (k_unfold; (try dsimp only)) | (k_end; wrow_close) | walk1 | (dsimp only; walk1) | (leave1; walk_say "STEP leave1"; try dsimp only))))))
  ((((try dsimp only); (refine Mine.tok_any ?_); intro tk9Zq; (with_reducible rename Fr _ _ _ _ => F7Zq); (try dsimp only at F7Zq); (with_reducible rename News _ _ _ _ => N7Zq); (try dsimp only at N7Zq))))
  rename Fr _ _ _ _ => F8
  obtain ⟨_, ⟨c, rfl, _, hc⟩, F9⟩ := fr_gen (P := fun v => ∃ n : Nat, v = (n : Int) ∧ 0 ≤ n ∧ n ≤ 2) F8 (nat_of (Int.fmod_nonneg_of_pos _ (by decide)) (by have := Int.fmod_lt_of_pos ([a0, a1, a2, a3, a4].getD (Int.toNat 4) 0) (b := 3) (by decide); omega))
  clear F8
  (((repeat ((with_reducible show wpAny _ _ (execs _ _) _ _ _); ((first | (k_unfold; (try dsimp only)) | (k_end; wrow_close) | walk1 | (dsimp only; walk1) | (leave1; walk_say "STEP leave1"; try dsimp only)))))))
  ((repeat' ((fail_if_success (with_reducible show wpAny _ _ (eval (Expr.Lambda _ _ _ _) _) _ _ _)); ((first | (k_unfold; (try dsimp only)) | (k_end; wrow_close) | walk1 | (dsimp only; walk1) | (leave1; walk_say "STEP leave1"; try dsimp only))))))
  k_here
  kn_here
  k_dflt (refine' kla_eval ?d0 ?_; (case d0 => exact rfl))
  (k_dflt (refine' kla_nest ?F ?N ?T ?C ?cd ?U ?t ?n ?cl ?_; (case F => k_asm); (case N => k_asm); (case T => k_asm); (case cd => exact rfl); (case C => kn_code); (case U => k_updF); (case t => kn_triples); (case n => kn_among); (case cl => exact rfl); k_whole))
  intro f' c' oc' vs' t' ct' h' tk' F' N' d1' d2' l1' l2'
  (try dsimp only at N')
  (try k_lt l1')
  (try k_lt2 l2')
  ((repeat' ((fail_if_success (with_reducible show wpAny _ (Around.deeper callerA _) (execs _ _) _ _ _)); ((first | (k_unfold; (try dsimp only)) | (k_end; wrow_close) | walk1 | (dsimp only; walk1) | (leave1; walk_say "STEP leave1"; try dsimp only))))))
  ((((try dsimp only); (refine Mine.tok_any ?_); intro tk9Zq; (with_reducible rename Fr _ _ _ _ => F7Zq); (try dsimp only at F7Zq); (with_reducible rename News _ _ _ _ => N7Zq); (try dsimp only at N7Zq))))
  (try dsimp only)
  (((repeat ((with_reducible show wpAny _ _ (execs _ _) _ _ _); ((first | (k_unfold; (try dsimp only)) | (k_end; wrow_close) | walk1 | (dsimp only; walk1) | (leave1; walk_say "STEP leave1"; try dsimp only)))))))
  ((repeat' ((fail_if_success (with_reducible show wpAny _ _ (call (Value.type "bytes") _) _ _ _)); ((first | (k_unfold; (try dsimp only)) | (k_end; wrow_close) | walk1 | (dsimp only; walk1) | (leave1; walk_say "STEP leave1"; try dsimp only))))))
  ((((try dsimp only); (refine Mine.tok_any ?_); intro tk9Zq; (with_reducible rename Fr _ _ _ _ => F7Zq); (try dsimp only at F7Zq); (with_reducible rename News _ _ _ _ => N7Zq); (try dsimp only at N7Zq))))
  refine bytes_of (by k_asm) (by k_asm) rfl (by k_mem) hM2 hM1 ?_
  intro h5 t5 k5 F5 N5
  (try dsimp only)
  ((repeat' ((fail_if_success (with_reducible show wpAny _ _ (call (Value.type "bytes") _) _ _ _)); ((first | (k_unfold; (try dsimp only)) | (k_end; wrow_close) | walk1 | (dsimp only; walk1) | (leave1; walk_say "STEP leave1"; try dsimp only))))))
  ((((try dsimp only); (refine Mine.tok_any ?_); intro tk9Zq; (with_reducible rename Fr _ _ _ _ => F7Zq); (try dsimp only at F7Zq); (with_reducible rename News _ _ _ _ => N7Zq); (try dsimp only at N7Zq))))
  refine bytes_of (by k_asm) (by k_asm) rfl (by k_mem) hT2 hT1 ?_
  intro h6 t6 k6 F6 N6
  (try dsimp only)
  ((repeat' ((fail_if_success (with_reducible show wpAny _ _ (call (Value.ref 63) _) _ _ _)); ((first | (k_unfold; (try dsimp only)) | (k_end; wrow_close) | walk1 | (dsimp only; walk1) | (leave1; walk_say "STEP leave1"; try dsimp only))))))
  ((((try dsimp only); (with_reducible rename Fr _ _ _ _ => F7Zq); (try dsimp only at F7Zq); (with_reducible rename News _ _ _ _ => N7Zq); (try dsimp only at N7Zq))))
  rename News _ _ _ _ => N9
  rename Fr _ _ _ _ => F9
  rename CodeHd _ 41 37 => C41
  rename_i x9 dd9 ka9 kb9 tv9 h9 k9 l91 l92
  have N9b := news_base N9
  have H37 := ne_all (k := 37) N9b (by repeat' (first | exact nil_ne | refine cons_ne (by omega) ?_))
  have H248 := ne_all (k := 248) N9b (by repeat' (first | exact nil_ne | refine cons_ne (by omega) ?_))
  have hLam := lamIn_of2 (f := f') (n := n) N9b ⟨_, _, _, _, _, c', _, _, _, oc', _, vs', _, _, (by k_mem), (by k_mem), d1', d2', (by k_mem), d9⟩
  refine fq_field (n := n) (ps := #[]) hc hp (hLam.mono ?hL) (by k_asm) (by k_asm) (by k_asm) (news_p37 N9) (by exact True.intro) C41 (by assumption) rfl (.of_eq hg) ?_ (by walk_at "small") (by walk_at "small") hn hn2 hr (by rw [List.size_toArray]; omega) (by rw [List.size_toArray]; omega) ?_
  (case hL => intro q hq; exact List.mem_append_left [_] hq)
  · repeat' (first | exact nil_ne | refine cons_ne (by omega) ?_)
  clear F9 l91 l92 N9b N9
  intro tu vsq objs hh7 tk7 g7 ps7 hfq F7 N7 hps7 G7
  revert H37 H248
  (((repeat (with_reducible rename @LT.lt Nat _ _ _ ∧ _ => hx9; clear hx9)); (repeat (with_reducible rename @Ne Nat _ _ ∧ _ => hx9; clear hx9)); (repeat (with_reducible rename IsRange _ _ _ _ _ _ _ _ => hx9; clear hx9)); (repeat (with_reducible rename @LT.lt Nat _ _ _ => hx9; clear hx9)); (repeat (with_reducible rename @Ne Nat _ _ => hx9; clear hx9)); (repeat (with_reducible rename ∀ _, _ ∈ _ → _ ≠ _ => hx9; clear hx9))))
  intro H37 H248
  (try dsimp only)
  ((repeat' ((fail_if_success (with_reducible show wpAny _ _ (isTrue _ _ _) _ _ _)); ((first | (k_unfold; (try dsimp only)) | (k_end; wrow_close) | walk1 | (dsimp only; walk1) | (leave1; walk_say "STEP leave1"; try dsimp only))))))
  ((((try dsimp only); (refine Mine.tok_any ?_); intro tk9Zq; (with_reducible rename Fr _ _ _ _ => F7Zq); (try dsimp only at F7Zq); (with_reducible rename News _ _ _ _ => N7Zq); (try dsimp only at N7Zq))))
  rename Fr _ _ _ _ => F7
  rename News _ _ _ _ => N7
  refine test_mid F7 (news_k N7) ?_ ?_
  rotate_left 1
  · clear F7 N7 hfq
    intro h9 tk9 F9 N9
    ((repeat' ((fail_if_success (with_reducible show wpAny _ (Around.deeper callerA _) (execs _ _) _ _ _)); ((first | (k_unfold; (try dsimp only)) | (k_end; wrow_close) | walk1 | (dsimp only; walk1) | (leave1; walk_say "STEP leave1"; try dsimp only))))))
    ((((try dsimp only); (refine Mine.tok_any ?_); intro tk9Zq; (with_reducible rename Fr _ _ _ _ => F7Zq); (try dsimp only at F7Zq); (with_reducible rename News _ _ _ _ => N7Zq); (try dsimp only at N7Zq))))
    (((repeat ((with_reducible show wpAny _ _ (execs _ _) _ _ _); ((first | (k_unfold; (try dsimp only)) | (k_end; wrow_close) | walk1 | (dsimp only; walk1) | (leave1; walk_say "STEP leave1"; try dsimp only)))))))
    ((repeat' ((fail_if_success (with_reducible show wpAny _ _ (call (Value.type "bytes") _) _ _ _)); ((first | (k_unfold; (try dsimp only)) | (k_end; wrow_close) | walk1 | (dsimp only; walk1) | (leave1; walk_say "STEP leave1"; try dsimp only))))))
    ((((try dsimp only); (refine Mine.tok_any ?_); intro tk9Zq; (with_reducible rename Fr _ _ _ _ => F7Zq); (try dsimp only at F7Zq); (with_reducible rename News _ _ _ _ => N7Zq); (try dsimp only at N7Zq))))
    refine bytes_of (by k_asm) (by k_asm) rfl (by k_mem) hM2 hM1 ?_
    intro h5 t5 k5 F5 N5
    (try dsimp only)
    ((repeat' ((fail_if_success (with_reducible show wpAny _ _ (call (Value.type "bytes") _) _ _ _)); ((first | (k_unfold; (try dsimp only)) | (k_end; wrow_close) | walk1 | (dsimp only; walk1) | (leave1; walk_say "STEP leave1"; try dsimp only))))))
    ((((try dsimp only); (refine Mine.tok_any ?_); intro tk9Zq; (with_reducible rename Fr _ _ _ _ => F7Zq); (try dsimp only at F7Zq); (with_reducible rename News _ _ _ _ => N7Zq); (try dsimp only at N7Zq))))
    refine bytes_of (by k_asm) (by k_asm) rfl (by k_mem) hT2 hT1 ?_
    intro h6 t6 k6 F6 N6
    (try dsimp only)
    ((repeat' ((fail_if_success (with_reducible show wpAny _ _ (call (Value.ref 389) _) _ _ _)); ((first | (k_unfold; (try dsimp only)) | (k_end; wrow_close) | walk1 | (dsimp only; walk1) | (leave1; walk_say "STEP leave1"; try dsimp only))))))
    ((((try dsimp only); (refine Mine.tok_any ?_); intro tk9Zq; (with_reducible rename Fr _ _ _ _ => F7Zq); (try dsimp only at F7Zq); (with_reducible rename News _ _ _ _ => N7Zq); (try dsimp only at N7Zq))))
    rename News _ _ _ _ => N9
    rename CodeHd _ 41 37 => C41
    rename CodeHd _ 250 248 => C250
    rename Top topProg _ _ _ _ (ghostOf _ _) => T9
    refine fq2_new hp (by k_asm) (by k_asm) (by k_asm) (news_q1 N9) (by exact True.intro) C250 T9 rfl G7 (cons_ne (by omega) (cons_ne (by omega) (cons_ne (by decide) H248))) (by walk_at "small") (by walk_at "small") ?_
    intro x8 ct8 d8 D8 k81 k82 k83 k84 k85 u8 v8 t8 h8 tk8 g8 ps8 F8 N8 hps8 G8 l8 l81 l82
    obtain ⟨z1, z2, z3, z4, z5⟩ := l8
    replace l81 := ltN l81
    replace l82 := ltN l82
    clear N9
    (try dsimp only)
    ((repeat' ((fail_if_success (with_reducible show wpAny _ _ (call (Value.ref 56) _) _ _ _)); ((first | (k_unfold; (try dsimp only)) | (k_end; wrow_close) | walk1 | (dsimp only; walk1) | (leave1; walk_say "STEP leave1"; try dsimp only))))))
    ((((try dsimp only); (refine Mine.tok_any ?_); intro tk9Zq; (with_reducible rename Fr _ _ _ _ => F7Zq); (try dsimp only at F7Zq); (with_reducible rename News _ _ _ _ => N7Zq); (try dsimp only at N7Zq))))
    rename News _ _ _ _ => N9
    refine fq2_field hc hp hLam (by k_asm) (by k_asm) (by k_asm) (news_q2 N9) hps7 hps8 C41 C250 T9 rfl G8 (cons_ne (by decide) (cons_ne (by omega) (cons_ne (by omega) (cons_ne (by omega) H37)))) (cons_ne (by omega) (cons_ne (by omega) (cons_ne (by omega) H248))) (by walk_at "small") (by walk_at "small") hn hn2 hr (by rw [List.size_toArray]; omega) (by rw [List.size_toArray]; omega) ?_
    clear N9 z1 z2 z3 z4 z5 l81 l82 H37 H248
    (((repeat (with_reducible rename @LT.lt Nat _ _ _ ∧ _ => hx9; clear hx9)); (repeat (with_reducible rename @Ne Nat _ _ ∧ _ => hx9; clear hx9)); (repeat (with_reducible rename @LT.lt Nat _ _ _ => hx9; clear hx9))))
    intro tu2 vs2 objs2 h9 tk9 g9 ps9 ps29 hfq F9 N9 hps9 hps29 G9
    have N10 := news_q3 N9
    clear N9
    (try dsimp only)
    ((repeat' ((fail_if_success (with_reducible show wpAny _ _ (call (Value.ref 417) _) _ _ _)); ((first | (k_unfold; (try dsimp only)) | (k_end; wrow_close) | walk1 | (dsimp only; walk1) | (leave1; walk_say "STEP leave1"; try dsimp only))))))
    ((((try dsimp only); (refine Mine.tok_any ?_); intro tk9Zq; (with_reducible rename Fr _ _ _ _ => F7Zq); (try dsimp only at F7Zq); (with_reducible rename News _ _ _ _ => N7Zq); (try dsimp only at N7Zq))))
    refine numbers_callE (c := 2 * c) (by push_cast; rfl) hM2 hT2 hM1 hT1 (by k_asm) (by k_asm) (by k_asm) (by k_asm) T9 rfl (by walk_at "small") (by walk_at "small") hn hn2 hr (by omega) hp ?_
    intro ln ys nn h8 tk8 hI8 F8 N8
    (try dsimp only)
    ((repeat' ((fail_if_success (with_reducible show wpAny _ _ (storeName _ (Str.ofString "due") _) _ _ _)); ((first | (k_unfold; (try dsimp only)) | (k_end; wrow_close) | walk1 | (dsimp only; walk1) | (leave1; walk_say "STEP leave1"; try dsimp only))))))
    ((((try dsimp only); (refine Mine.tok_any ?_); intro tk9Zq; (with_reducible rename Fr _ _ _ _ => F7Zq); (try dsimp only at F7Zq); (with_reducible rename News _ _ _ _ => N7Zq); (try dsimp only at N7Zq))))
    rename News _ _ _ _ => N8
    rename Fr _ _ _ _ => F8
    have N9 := news_q4 N8
    clear N8
    have e1 : 64 * (2 * c) = 128 * c := by omega
    rw [e1] at hI8
    refine storeX_C F8 N9 rfl (UpdF.head (cell_ne N9 (by assumption) ?_)) (by assumption) ?_
    · exact List.forall_mem_cons.mpr ⟨fun _ e => (by cases e), List.forall_mem_cons.mpr ⟨fun _ e => (by cases e), List.forall_mem_cons.mpr ⟨fun _ e => (by cases e), List.forall_mem_cons.mpr ⟨fun _ e => (by cases e), List.forall_mem_cons.mpr ⟨fun _ e => (by cases e), hfq.noCell⟩⟩⟩⟩⟩
    clear N9 F8
    intro h9 o9 F9 N9 d9'
    (try dsimp only at N9 ⊢)
    refine Fq2Are.elim (f := elemAt (expd n M.toArray Tg.toArray (128 * c) r) p) hfq hc ?_ ?_ ?_
    · intro q1 q2 q3; subst q1 q2 q3
      obtain rfl := nil_of hI8
      clear hI8 hfq
      ((repeat' ((fail_if_success (with_reducible show wpAny _ _ (compareOp _ (Value.ref _) (Value.ref _)) _ _ _)); ((first | (k_unfold; (try dsimp only)) | (k_end; wrow_close) | walk1 | (dsimp only; walk1) | (leave1; walk_say "STEP leave1"; try dsimp only))))))
      ((((repeat (with_reducible rename @LT.lt Nat _ _ _ ∧ _ => hx9; clear hx9)); (repeat (with_reducible rename @Ne Nat _ _ ∧ _ => hx9; clear hx9)); (repeat (with_reducible rename @LT.lt Nat _ _ _ => hx9; clear hx9)))))
      ((first | (k_unfold; (try dsimp only)) | (k_end; wrow_close) | walk1 | (dsimp only; walk1) | (leave1; walk_say "STEP leave1"; try dsimp only)))
      refine ⟨⟨G9, ?_⟩, ?_⟩
      · rename Fr _ _ _ _ => F9
        exact goodW_bool (by exact F9) rfl (fun _ => rfl) (by first | rfl | with_unfolding_all rfl)
      · k_steps
    · intro xa da ca Da ka1 ka2 ka3 ka4 ka5 ta ua va q1 q2 q3; subst q1 q2 q3
      obtain ⟨uu, vv, rfl⟩ := two_of hI8
      clear hI8 hfq
      rename News _ _ _ _ => N9
      generalize elemAt (expd n M.toArray Tg.toArray (128 * 1) r) p = el at N9
      ((repeat' ((fail_if_success (with_reducible show wpAny _ _ (compareOp _ (Value.ref _) (Value.ref _)) _ _ _)); ((first | (k_unfold; (try dsimp only)) | (k_end; wrow_close) | walk1 | (dsimp only; walk1) | (leave1; walk_say "STEP leave1"; try dsimp only))))))
      rename News _ _ _ _ => N9
      have g1 : ([el 0, el 1].getD (2 * (0 + ((0 : Nat) : Int))).toNat 0) = el 0 := rfl
      have g2 : ([el 0, el 1].getD (2 * (0 + ((0 : Nat) : Int)) + 1).toNat 0) = el 1 := rfl
      rw [g1, g2] at N9
      clear g1 g2
      ((((repeat (with_reducible rename @LT.lt Nat _ _ _ ∧ _ => hx9; clear hx9)); (repeat (with_reducible rename @Ne Nat _ _ ∧ _ => hx9; clear hx9)); (repeat (with_reducible rename @LT.lt Nat _ _ _ => hx9; clear hx9)))))
      ((first | (k_unfold; (try dsimp only)) | (k_end; wrow_close) | walk1 | (dsimp only; walk1) | (leave1; walk_say "STEP leave1"; try dsimp only)))
      refine ⟨⟨G9, ?_⟩, ?_⟩
      · rename Fr _ _ _ _ => F9
        exact goodW_bool (by exact F9) rfl (fun _ => rfl) (by first | rfl | with_unfolding_all rfl)
      · k_steps
    · intro xa da ca Da ka1 ka2 ka3 ka4 ka5 ta ua va xb db cb Db kb1 kb2 kb3 kb4 kb5 tb ub vb q1 q2 q3; subst q1 q2 q3
      obtain ⟨uu, vv, uu', vv', rfl⟩ := four_of hI8
      clear hI8 hfq
      rename News _ _ _ _ => N9
      generalize elemAt (expd n M.toArray Tg.toArray (128 * 2) r) p = el at N9
      ((repeat' ((fail_if_success (with_reducible show wpAny _ _ (compareOp _ (Value.ref _) (Value.ref _)) _ _ _)); ((first | (k_unfold; (try dsimp only)) | (k_end; wrow_close) | walk1 | (dsimp only; walk1) | (leave1; walk_say "STEP leave1"; try dsimp only))))))
      rename News _ _ _ _ => N9
      have g1 : ([el 0, el 1, el 2, el 3].getD (2 * (0 + ((0 : Nat) : Int))).toNat 0) = el 0 := rfl
      have g2 : ([el 0, el 1, el 2, el 3].getD (2 * (0 + ((0 : Nat) : Int)) + 1).toNat 0) = el 1 := rfl
      have g3 : ([el 0, el 1, el 2, el 3].getD (2 * (0 + ((0 + 1 : Nat) : Int))).toNat 0) = el 2 := rfl
      have g4 : ([el 0, el 1, el 2, el 3].getD (2 * (0 + ((0 + 1 : Nat) : Int)) + 1).toNat 0) = el 3 := rfl
      rw [g1, g2, g3, g4] at N9
      clear g1 g2 g3 g4
      ((((repeat (with_reducible rename @LT.lt Nat _ _ _ ∧ _ => hx9; clear hx9)); (repeat (with_reducible rename @Ne Nat _ _ ∧ _ => hx9; clear hx9)); (repeat (with_reducible rename @LT.lt Nat _ _ _ => hx9; clear hx9)))))
      ((first | (k_unfold; (try dsimp only)) | (k_end; wrow_close) | walk1 | (dsimp only; walk1) | (leave1; walk_say "STEP leave1"; try dsimp only)))
      refine ⟨⟨G9, ?_⟩, ?_⟩
      · rename Fr _ _ _ _ => F9
        exact goodW_bool (by exact F9) rfl (fun _ => rfl) (by first | rfl | with_unfolding_all rfl)
      · k_steps
  refine FqAre.elim hfq hc ?_ ?_ ?_
  · intro q1 q2 q3; subst q1 q2 q3
    simp only [List.cons_append, List.nil_append] at N7
    ((repeat' ((fail_if_success (with_reducible show wpAny _ _ (call (Value.ref 417) _) _ _ _)); ((first | (k_unfold; (try dsimp only)) | (k_end; wrow_close) | walk1 | (dsimp only; walk1) | (leave1; walk_say "STEP leave1"; try dsimp only))))))
    ((((try dsimp only); (refine Mine.tok_any ?_); intro tk9Zq; (with_reducible rename Fr _ _ _ _ => F7Zq); (try dsimp only at F7Zq); (with_reducible rename News _ _ _ _ => N7Zq); (try dsimp only at N7Zq))))
    rename News _ _ _ _ => N9
    refine numbers_call (t1 := 0) (t2 := 0) (M := M) (Tg := Tg) (n := n) (r := r) (c := 0) hM2 hT2 hM1 hT1 (by k_asm) (by k_asm) (by k_asm) (news_n0 N9) (by assumption) rfl (by walk_at "small") (by walk_at "small") hn hn2 hr (by decide) hp ?_
    clear N9
    intro ln ys nn h8 tk8 hI8 F8 N8 l8
    obtain rfl := nil_of hI8
    clear l8 hI8
    (try dsimp only)
    ((repeat' ((fail_if_success (with_reducible show Mid _ _ _ _ _ _ _)); ((first | (k_unfold; (try dsimp only)) | (k_end; wrow_close) | walk1 | (dsimp only; walk1) | (leave1; walk_say "STEP leave1"; try dsimp only))))))
    rename News _ _ _ _ => N9
    exact ⟨rfl, _, _, rfl, by assumption, news_m N9⟩
  · intro xa da ka kb ta q1 q2 q3; subst q1 q2 q3
    simp only [List.cons_append, List.nil_append] at N7
    ((repeat' ((fail_if_success (with_reducible show wpAny _ _ (call (Value.ref 417) _) _ _ _)); ((first | (k_unfold; (try dsimp only)) | (k_end; wrow_close) | walk1 | (dsimp only; walk1) | (leave1; walk_say "STEP leave1"; try dsimp only))))))
    ((((try dsimp only); (refine Mine.tok_any ?_); intro tk9Zq; (with_reducible rename Fr _ _ _ _ => F7Zq); (try dsimp only at F7Zq); (with_reducible rename News _ _ _ _ => N7Zq); (try dsimp only at N7Zq))))
    rename News _ _ _ _ => N9
    refine numbers_call (t1 := 0) (t2 := 0) (M := M) (Tg := Tg) (n := n) (r := r) (c := 1) hM2 hT2 hM1 hT1 (by k_asm) (by k_asm) (by k_asm) (news_n2 N9) (by assumption) rfl (by walk_at "small") (by walk_at "small") hn hn2 hr (by decide) hp ?_
    clear N9
    intro ln ys nn h8 tk8 hI8 F8 N8 l8
    obtain ⟨uu, rfl⟩ := one_of hI8
    clear l8 hI8
    (try dsimp only)
    ((repeat' ((fail_if_success (with_reducible show Mid _ _ _ _ _ _ _)); ((first | (k_unfold; (try dsimp only)) | (k_end; wrow_close) | walk1 | (dsimp only; walk1) | (leave1; walk_say "STEP leave1"; try dsimp only))))))
    rename News _ _ _ _ => N9
    exact ⟨rfl, _, _, rfl, by assumption, news_m N9⟩
  · intro xa da ka kb ta xb db kc kd tb q1 q2 q3; subst q1 q2 q3
    simp only [List.cons_append, List.nil_append] at N7
    ((repeat' ((fail_if_success (with_reducible show wpAny _ _ (call (Value.ref 417) _) _ _ _)); ((first | (k_unfold; (try dsimp only)) | (k_end; wrow_close) | walk1 | (dsimp only; walk1) | (leave1; walk_say "STEP leave1"; try dsimp only))))))
    ((((try dsimp only); (refine Mine.tok_any ?_); intro tk9Zq; (with_reducible rename Fr _ _ _ _ => F7Zq); (try dsimp only at F7Zq); (with_reducible rename News _ _ _ _ => N7Zq); (try dsimp only at N7Zq))))
    rename News _ _ _ _ => N9
    refine numbers_call (t1 := 0) (t2 := 0) (M := M) (Tg := Tg) (n := n) (r := r) (c := 2) hM2 hT2 hM1 hT1 (by k_asm) (by k_asm) (by k_asm) (news_n4 N9) (by assumption) rfl (by walk_at "small") (by walk_at "small") hn hn2 hr (by decide) hp ?_
    clear N9
    intro ln ys nn h8 tk8 hI8 F8 N8 l8
    obtain ⟨uu, vv, rfl⟩ := two_of hI8
    clear l8 hI8
    (try dsimp only)
    ((repeat' ((fail_if_success (with_reducible show Mid _ _ _ _ _ _ _)); ((first | (k_unfold; (try dsimp only)) | (k_end; wrow_close) | walk1 | (dsimp only; walk1) | (leave1; walk_say "STEP leave1"; try dsimp only))))))
    rename News _ _ _ _ => N9
    exact ⟨rfl, _, _, rfl, by assumption, news_m N9⟩
end
end Mine
theorem PySem.Challenge.cw_kh0017_01_holds : PySem.Challenge.rw_kh0017_01.Holds :=
  Mine.law_holds
