import PyProof.Rows.All
import Wide.All
import OpenK.AllK
import Wide.FinOn
import KE.KWords
import PySem.Challenge.RW_xr0019_01
set_option compiler.extract_closed false
set_option bootstrap.genMatcherCode false
set_option genSizeOf false
set_option genSizeOfSpec false
set_option genInjectivity false
set_option Elab.async false
set_option maxRecDepth 100000
set_option maxHeartbeats 8000000
set_option linter.all false
open PySem PySem.W PyProof.Rows PySem.Calls PySem.Spec
set_option compiler.extract_closed false
set_option bootstrap.genMatcherCode false
set_option maxHeartbeats 8000000
namespace Mine.Internal
noncomputable def view : Program:=PySem.W.view PySem.Challenge.pw_xr0019_01 [0,1,3,4,5,6,7,9,11,12,13,14,16,18,19,20,21,22,23,24,25,26,27]
theorem left_of {p q:Program} {loose:List Str} {Xt:Shared → Bool} {α:Type} {Yf:Shared → α} {Ya:World → α} {N:Nat}
  (h1:∀ w,(openEnds treeTable p w N).map (fun s=>openSeen q loose (importedModules p.main.body) Xt true s) = some (openGood q loose))
  (h2:∀ w,(openEnds treeTable p w N).map Yf = some (Ya w)) : LeftO p q loose Xt Yf Ya N:=fun w=>by
 have e1:=h1 w
 have e2:=h2 w
 cases h : openEnds treeTable p w N with
 | none=>rw [h] at e2; cases e2
 | some s=>
  rw [h] at e1 e2
  exact congrArg some (Prod.ext (Option.some.inj e1) (Option.some.inj e2))
noncomputable abbrev pX : Program:=PySem.Challenge.rw_xr0019_01.row.toRowW.prog
noncomputable abbrev looseX : List Str:=["IPV4_RE","_Accumulator"]
noncomputable abbrev XtX : Shared → Bool:=fun s=>xlAt Mine.Internal.view [] s && recOk (RowW.records PySem.Challenge.rw_xr0019_01.row.toRowW) s
theorem seen_of {α β:Type} {o:Option Shared} {f:Shared → α} {g:Shared → β} {a:α} {b:β} (h1:o.map f = some a) (h2:o.map g = some b) : o.map (fun s=>(f s,g s)) = some (a,b):=by
 cases o with
 | none=>cases h1
 | some s=>exact congrArg some (Prod.ext (Option.some.inj h1) (Option.some.inj h2))
theorem seenA (w:World) : (openEnds treeTable pX w 3424).map (fun s=>(seen ((recsOf view).map (·.name)) (ownsOf view) [] { s with gens:=#[] },(s.heap.bltView,s.heap.keysOk (looseW view looseX) ((recsOf view).map (·.name)) ((litsOf view).map (·.1)) ((clssOf view (looseW view looseX)).map (·.name)) && s.heap.accountedOkI (importedModules pX.main.body) && s.heap.isNs mainGlobals && s.heap.isNs builtinsNs && tablesOk view s.heap && XtX s && s.gens.size == 0,tabsOk view s),(pinSeenD view (drecsOf view) s,plainSeenE view (looseW view looseX) s,plainSeenD view looseX s),(wideSeen view s,clsSeenW view looseX s))) = some ((expectedOf view),((bltViewBooted,true,true)),((pinGoodD (drecsOf view),plainGoodE view (looseW view looseX),plainGoodD view looseX)),((wideGood view,clsGoodW view looseX))):=by
 unfold openEnds fencedOpening topFrom
 rw [PySem.W.Fast.te14364793385576792824,PySem.W.Fast.te14082659384304107361,PySem.W.Fast.te10274390034422433532,PySem.W.Fast.te14289696077712309145,PySem.W.Fast.te1435165496053646825,PySem.W.Fast.te8920871248978507458,PySem.W.Fast.te5160383126252970620,PySem.W.Fast.te7317090234206586261,PySem.W.Fast.te7369524293546568484]
 kernel_rfl
theorem seenX (w:World) : (openEnds treeTable pX w 3424).map (fun s=>openSeen view looseX (importedModules pX.main.body) XtX true s) = some (openGood view looseX):=by
 have h:=seenA w
 generalize openEnds treeTable pX w 3424 = o at *
 cases o with
 | none=>cases h
 | some s=>
  have e:=Option.some.inj h
  exact congrArg some (Prod.ext (congrArg (·.1) e) (Prod.ext (congrArg (·.2.1.1) e) (Prod.ext (congrArg (·.2.1.2.1) e) (Prod.ext (congrArg (·.2.1.2.2) e) (Prod.ext (congrArg (·.2.2.1.1) e) (Prod.ext (congrArg (·.2.2.1.2.1) e) (Prod.ext (congrArg (·.2.2.1.2.2) e) (Prod.ext (congrArg (·.2.2.2.1) e) (congrArg (·.2.2.2.2) e)))))))))
theorem opened (H:Hook) {d:DefRec} {kwd:List (Str × Expr)} (left:LeftO pX view looseX XtX H.obs H.val 3424) (hdef:defOf view PySem.Challenge.rw_xr0019_01.row.name = some (d,kwd)) (hp:pX.theDef PySem.Challenge.rw_xr0019_01.row.name = some (d.params,d.body,d.scope)) (hk:kwWritten? d.params.kwonlyargs d.params.kw_defaults = some kwd) (said:PySem.Challenge.rw_xr0019_01.row.wellSaid = true)
  (hw:PySem.Challenge.rw_xr0019_01.row.toRowW.promised) (hc:WalkO view looseX (XL view []) H.says PySem.Challenge.rw_xr0019_01.row.toRowW d kwd fun f vs=>PySem.call f vs) : PySem.Challenge.rw_xr0019_01.row.Holds:=
 holds_open (XP:=XL view []) left (Hook.of H) (Hook.keeps H) (fun s e=>xl_of s (Bool.and_eq_true_iff.mp e).1) XL.keeps hdef hp hk (fun s e=>recFacts_of (Bool.and_eq_true_iff.mp e).2) (by rfl) said (by decide +kernel) ⟨rfl,rfl,rfl,rfl,rfl,by decide +kernel⟩ hw hc
local macro_rules | `(tactic| o_law) => `(tactic| refine holds_law (by kernel_rfl) fun said => ?_)
local macro_rules | `(tactic| o_head ($f:ident $K $a $e)) => `(tactic| refine opened (kmHook $K $a $e [197, 204]) (left_of seenX fun w => by
 unfold openEnds fencedOpening topFrom
 rw [PySem.W.Fast.te14364793385576792824,PySem.W.Fast.te14082659384304107361,PySem.W.Fast.te10274390034422433532,PySem.W.Fast.te14289696077712309145,PySem.W.Fast.te1435165496053646825,PySem.W.Fast.te8920871248978507458]
 kernel_rfl) (by rfl) (by rfl) (by rfl) (by assumption) ?hw ?hc)
open_top hd for PySem.Challenge.rw_xr0019_01
end Mine.Internal
local macro_rules | `(tactic| w_left) => `(tactic| first | assumption | exact Nat.zero_le _ | exact Int.natCast_nonneg _ | exact Nat.le_trans (by assumption) (by decide) | exact Nat.lt_of_lt_of_le (by assumption) (by decide) | exact Nat.lt_of_le_of_lt (by assumption) (by decide) | exact Nat.le_of_lt (by assumption) | exact Nat.lt_trans (by assumption) (by assumption) | exact Nat.lt_of_lt_of_le (by assumption) (by assumption) | exact Nat.le_trans (by assumption) (by assumption) | exact Int.ofNat_lt.mpr (Nat.lt_of_le_of_lt (by assumption) (by decide)) | exact Int.ofNat_lt.mpr (Nat.lt_trans (by assumption) (by decide)) | lia | (first | lia | omega))
section
namespace Mine.Internal
theorem mem1 {α:Type u} {a b:α} (h:a ∈ [b]) : a = b:=List.mem_singleton.mp h
theorem memc {α:Type u} {a b:α} {l:List α} (h:a ∈ b :: l) : a = b ∨ a ∈ l:=List.mem_cons.mp h
theorem mema {α:Type u} {a:α} {l m:List α} (h:a ∈ l ++ m) : a ∈ l ∨ a ∈ m:=List.mem_append.mp h
theorem memm {α:Type u} {β:Type v} {f:α → β} {l:List α} {b:β} (h:b ∈ l.map f) : ∃ a,a ∈ l ∧ f a = b:=List.mem_map.mp h
theorem memL {α:Type u} {a:α} {l:List α} (m:List α) (h:a ∈ l) : a ∈ l ++ m:=List.mem_append_left m h
theorem memR {α:Type u} {a:α} {m:List α} (l:List α) (h:a ∈ m) : a ∈ l ++ m:=List.mem_append_right l h
theorem ndc {α:Type u} {a:α} {l:List α} (h:(a :: l).Nodup) : a ∉ l ∧ l.Nodup:=List.nodup_cons.mp h
theorem ndk {α:Type u} {a:α} {l:List α} (h:a ∉ l ∧ l.Nodup) : (a :: l).Nodup:=List.nodup_cons.mpr h
/- figures -/
theorem max_nat {b n:Nat} (h:b ≤ n) : (max (b:Int) (n:Int)).toNat = n:=by rw [Int.max_eq_right (Int.ofNat_le.mpr h)]; exact Int.toNat_natCast n
theorem neg1_nat (n:Nat) : (-1 + (n:Int)).toNat = n - 1:=by rw [Int.add_comm]; exact Int.toNat_sub n 1
theorem sub_succ_of {p s k:Nat} (h:p - s = k + 1) : p - (s + 1) = k:=by rw [← Nat.sub_sub,h]; rfl
theorem sub_left {p s k:Nat} (h:p - s = k + 1) : s < p:=Nat.lt_of_sub_eq_succ h
theorem sub_step {n i:Nat} (h:i < n) : n - (i + 1) < n - i:=Nat.sub_lt_sub_left h (Nat.lt_succ_self i)
theorem min_r {a b:Int} (h:b < a) : min a b = b:=Int.min_eq_right (Int.le_of_lt h)
theorem min_l {a b:Int} (h:¬ b < a) : min a b = a:=Int.min_eq_left (Int.not_lt.mp h)
theorem max_r {a b:Int} (h:b > a) : max a b = b:=Int.max_eq_right (Int.le_of_lt h)
theorem max_l {a b:Int} (h:¬ b > a) : max a b = a:=Int.max_eq_left (Int.not_lt.mp h)
theorem pt_lt {n:Nat} (h:n ≤ 111) : n - 107 < 5:=Nat.lt_of_le_of_lt (Nat.sub_le_sub_right h 107) (by decide)
theorem pt_int {n:Nat} (h:n ≤ 111) : ((n - 107:Nat) : Int) < 2 ^ 63:=Int.ofNat_lt.mpr (Nat.lt_of_lt_of_le (pt_lt h) (by decide))
theorem pt_add {i:Nat} (h:i < 5) : 107 ≤ 107 + i ∧ 107 + i ≤ 111:=⟨Nat.le_add_right _ _,Nat.add_le_add_left (Nat.le_of_lt_succ h) 107⟩
theorem sub_sub_le (a b:Nat) : a - (a - b) ≤ b:=Nat.sub_le_iff_le_add.mpr (Nat.sub_le_iff_le_add'.mp (Nat.le_refl _))
theorem pred_succ {j:Nat} (h:0 < j) : j = j - 1 + 1:=(Nat.sub_add_cancel h).symm
theorem toNat_lt {a:Int} {n:Nat} (h0:0 ≤ a) (h:a < n) : a.toNat < n:=(Int.toNat_lt h0).mpr h
theorem toNat_eq {a:Int} (h0:0 ≤ a) : a = (a.toNat:Int):=(Int.toNat_of_nonneg h0).symm
theorem lt_min_l {m a b:Nat} (h:m < min a b) : m < a:=Nat.lt_of_lt_of_le h (Nat.min_le_left _ _)
theorem lt_min_r {m a b:Nat} (h:m < min a b) : m < b:=Nat.lt_of_lt_of_le h (Nat.min_le_right _ _)
theorem lt_cases3 {P:Nat → Prop} (h0:P 0) (h1:P 1) (h2:P 2) : ∀ p,p < 3 → P p:=fun p h=>by
 cases p with
 | zero=>exact h0
 | succ p=>cases p with
  | zero=>exact h1
  | succ p=>cases p with
   | zero=>exact h2
   | succ p=>exact absurd h (Nat.not_lt.mpr (Nat.le_add_left 3 p))
theorem lt_cases5 {P:Nat → Prop} (h0:P 0) (h1:P 1) (h2:P 2) (h3:P 3) (h4:P 4) : ∀ p,p < 5 → P p:=fun p h=>by
 cases p with
 | zero=>exact h0
 | succ p=>cases p with
  | zero=>exact h1
  | succ p=>exact lt_cases3 (P:=fun p=>P (p + 2)) h2 h3 h4 p (Nat.lt_of_add_lt_add_right h)
theorem all_c {α:Type} {P:α → Prop} {a:α} {l:List α} (h:P a) (t:∀ x ∈ l,P x) : ∀ x ∈ a :: l,P x:=List.forall_mem_cons.mpr ⟨h,t⟩
theorem all_n {α:Type} {P:α → Prop} : ∀ x ∈ ([] : List α),P x:=fun ζ h=>nomatch h
theorem ne_add {a b:Nat} (h:a < b) : ¬ 107 + a = 107 + b:=fun q=>Nat.ne_of_lt h (Nat.add_left_cancel q)
theorem si_room {n r m l M p s:Nat} (h:n + (r + m) ≤ 9) (hm:m = 2 * l - 1) (hs:s = l) (hM:M + p = 2 * s) (hp:1 < p) : n + 1 + (r + M) ≤ 9:=by
 rw [hs] at hM
 have h1 : M + 1 ≤ m:=by rw [hm]; exact Nat.le_sub_one_of_lt (Nat.lt_of_lt_of_le (Nat.add_lt_add_left hp M) (Nat.le_of_eq hM))
 exact Nat.le_trans (Nat.le_of_eq (by rw [Nat.add_assoc,Nat.add_comm 1,Nat.add_assoc])) (Nat.le_trans (Nat.add_le_add_left (Nat.add_le_add_left h1 _) _) h)
theorem room6 {p r1 r2 st st1 sp:Nat} (h1:r1 + r2 = 1 + 0 + st) (h4:st1 = st + p) (h3:st1 ≤ sp) (h:sp ≤ 5) : p + r1 ≤ 6:=by (first | lia | omega)
theorem two_less {l:Nat} (h:0 < l) : 1 ≤ 2 * l - 1:=Nat.le_sub_one_of_lt (Nat.lt_of_lt_of_le (by decide) (Nat.mul_le_mul_left 2 h))
theorem len1 {α:Type} {P:List α → Prop} (h:∀ a,P [a]) : ∀ l,l.length = 1 → P l:=fun l e=>by
 cases l with
 | nil=>cases e
 | cons a l=>cases l with
  | nil=>exact h a
  | cons b l=>cases e
theorem len2 {α:Type} {P:List α → Prop} (h:∀ a b l,P (a :: b :: l)) : ∀ l,2 ≤ l.length → P l:=fun l e=>by
 cases l with
 | nil=>exact absurd (show 2 ≤ 0 from e) (by decide)
 | cons a l=>cases l with
  | nil=>exact absurd (show 2 ≤ 1 from e) (by decide)
  | cons b l=>exact h a b l
theorem cps {P:Prop} (h:∀ G : Prop,(P → G) → G) : P:=h P id
theorem ite_p {α:Sort _} {P:α → Prop} {c:Prop} [Decidable c] {x y:α} (h:c → P x) (h':¬ c → P y) : P (if c then x else y):=by
 by_cases q : c
 ·rw [if_pos q]; exact h q
 ·rw [if_neg q]; exact h' q
section
variable {a b c:Int}
theorem min3a (h1:b < a) (h2:c < b) : min a (min b c) = c:=by rw [min_r h2,min_r (Int.lt_trans h2 h1)]
theorem min3b (h1:b < a) (h2:¬ c < b) : min a (min b c) = b:=by rw [min_l h2,min_r h1]
theorem min3c (h1:¬ b < a) (h2:c < a) : min a (min b c) = c:=by rw [min_r (Int.lt_of_lt_of_le h2 (Int.not_lt.mp h1)),min_r h2]
theorem min3d (h1:¬ b < a) (h2:¬ c < a) : min a (min b c) = a:=Int.min_eq_left (Int.le_min.mpr ⟨Int.not_lt.mp h1,Int.not_lt.mp h2⟩)
theorem max3a (h1:b > a) (h2:c > b) : max a (max b c) = c:=by rw [max_r h2,max_r (Int.lt_trans h1 h2)]
theorem max3b (h1:b > a) (h2:¬ c > b) : max a (max b c) = b:=by rw [max_l h2,max_r h1]
theorem max3c (h1:¬ b > a) (h2:c > a) : max a (max b c) = c:=by rw [max_r (Int.lt_of_le_of_lt (Int.not_lt.mp h1) h2),max_r h2]
theorem max3d (h1:¬ b > a) (h2:¬ c > a) : max a (max b c) = a:=Int.max_eq_left (Int.max_le.mpr ⟨Int.not_lt.mp h1,Int.not_lt.mp h2⟩)
end
theorem best_max (f:Nat → Int) : f (PySem.argBest (fun i j=>decide (f i > f j)) 2) = max (f 0) (max (f 1) (f 2)):=by
 show f (if decide (f 2 > f (if decide (f 1 > f 0) = true then 1 else 0)) = true then 2 else (if decide (f 1 > f 0) = true then 1 else 0)) = _
 by_cases h1 : f 1 > f 0
 ·rw [if_pos (decide_eq_true h1)]
  exact ite_p (P:=fun i=>f i = _) (fun h2=>(max3a h1 (of_decide_eq_true h2)).symm) fun h2=>(max3b h1 fun q=>h2 (decide_eq_true q)).symm
 ·rw [if_neg (fun q=>h1 (of_decide_eq_true q))]
  exact ite_p (P:=fun i=>f i = _) (fun h2=>(max3c h1 (of_decide_eq_true h2)).symm) fun h2=>(max3d h1 fun q=>h2 (decide_eq_true q)).symm
theorem best_min (f:Nat → Int) : f (PySem.argBest (fun i j=>decide (f i < f j)) 2) = min (f 0) (min (f 1) (f 2)):=by
 show f (if decide (f 2 < f (if decide (f 1 < f 0) = true then 1 else 0)) = true then 2 else (if decide (f 1 < f 0) = true then 1 else 0)) = _
 by_cases h1 : f 1 < f 0
 ·rw [if_pos (decide_eq_true h1)]
  exact ite_p (P:=fun i=>f i = _) (fun h2=>(min3a h1 (of_decide_eq_true h2)).symm) fun h2=>(min3b h1 fun q=>h2 (decide_eq_true q)).symm
 ·rw [if_neg (fun q=>h1 (of_decide_eq_true q))]
  exact ite_p (P:=fun i=>f i = _) (fun h2=>(min3c h1 (of_decide_eq_true h2)).symm) fun h2=>(min3d h1 fun q=>h2 (decide_eq_true q)).symm
end Mine.Internal
end
section
namespace Mine.Internal
noncomputable abbrev P0 : Program:=PySem.Challenge.pw_xr0019_01
noncomputable abbrev K0 (w:World) : Frag:=Mine.Internal.hd.heap_1 w.params
inductive V where
 | none | bool (b:Bool) | int (i:Int) | str (s:Str) | byt (b:Array UInt8) | flt (x:UInt64)
 | tup (vs:List V) | lst (vs:List V)
 | val (v:Value)
 | mob (a:Addr)
mutual
inductive VR (S:Shared) (ms:List Addr) (s:Shared) : V → Value → Prop
 | none : VR S ms s .none .none
 | bool (b:Bool) : VR S ms s (.bool b) (.bool b)
 | int (i:Int) (t:Tok) : VR S ms s (.int i) (.int i t)
 | str (x:Str) (t:Tok) : VR S ms s (.str x) (.str x t)
 | byt (b:Array UInt8) (t:Tok) : VR S ms s (.byt b) (.bytes b t)
 | flt (x:UInt64) (t:Tok) (h0:S.toks ≤ t) (h1:t < s.toks) : VR S ms s (.flt x) (.float x t)
 | tup {vs:List V} {a:Addr} {xs:Array Value} {n:Nat} : s.heap.get? a = some { cls:=.type "tuple",data:=.seq xs n } → a ∉ ms → VRs S ms s vs xs.toList → VR S ms s (.tup vs) (.ref a)
 | lst {vs:List V} {a:Addr} {xs:Array Value} {n:Nat} : s.heap.get? a = some { cls:=.type "list",data:=.seq xs n } → a ∉ ms → VRs S ms s vs xs.toList → VR S ms s (.lst vs) (.ref a)
 | val (v:Value) : VR S ms s (.val v) v
 | mob (a:Addr) : VR S ms s (.mob a) (.ref a)
inductive VRs (S:Shared) (ms:List Addr) (s:Shared) : List V → List Value → Prop
 | nil : VRs S ms s [] []
 | cons {v:V} {x:Value} {vs:List V} {xs:List Value} : VR S ms s v x → VRs S ms s vs xs → VRs S ms s (v :: vs) (x :: xs)
end
theorem cls_ne (s:String) : (Value.type s) ≠ Value.none:=by intro h; cases h
structure Kp (s s':Shared) : Prop where
 k : Keeps s s'
 t : s.toks ≤ s'.toks
theorem kget {s s':Shared} (k:Kp s s') {b:Addr} {o:Obj} (e:s.heap.get? b = some o) : s'.heap.get? b = some o:=by
 obtain ⟨⟨h',tk,rfl,hk⟩,_⟩:=k; exact hk _ _ e
theorem kall {s s':Shared} (k:Kp s s') : ∀ b o,s.heap.get? b = some o → s'.heap.get? b = some o:=fun ζ ζ e=>kget k e
noncomputable def Up (ms ms':List Addr) (s s':Shared) : Prop:=∀ b o,b ∉ ms → o.cls ≠ .none → s.heap.get? b = some o → b ∉ ms' ∧ s'.heap.get? b = some o
inductive VNone : Value → Prop
 | mk : VNone .none
inductive VBool (b:Bool) : Value → Prop
 | mk : VBool b (.bool b)
inductive VInt (i:Int) : Value → Prop
 | mk (t:Tok) : VInt i (.int i t)
inductive VStr (x:Str) : Value → Prop
 | mk (t:Tok) : VStr x (.str x t)
inductive VByt (b:Array UInt8) : Value → Prop
 | mk (t:Tok) : VByt b (.bytes b t)
inductive VFlt (S s:Shared) (x:UInt64) : Value → Prop
 | mk (t:Tok) (h0:S.toks ≤ t) (h1:t < s.toks) : VFlt S s x (.float x t)
inductive VSeq (cls:String) (S:Shared) (ms:List Addr) (s:Shared) (vs:List V) : Value → Prop
 | mk {a:Addr} {xs:Array Value} {n:Nat} : s.heap.get? a = some { cls:=.type cls,data:=.seq xs n } → a ∉ ms → VRs S ms s vs xs.toList → VSeq cls S ms s vs (.ref a)
inductive VMob (a:Addr) : Value → Prop
 | mk : VMob a (.ref a)
noncomputable def VI (S:Shared) (ms:List Addr) (s:Shared) : V → Value → Prop
 | .none=>VNone
 | .bool b=>VBool b
 | .int i=>VInt i
 | .str x=>VStr x
 | .byt b=>VByt b
 | .flt x=>VFlt S s x
 | .tup vs=>VSeq "tuple" S ms s vs
 | .lst vs=>VSeq "list" S ms s vs
 | .val v=>Eq v
 | .mob a=>VMob a
section
variable {S S':Shared} {ms ms':List Addr} {s s':Shared}
theorem VR.inv {v:V} {x:Value} (h:VR S ms s v x) : VI S ms s v x:=by
 cases h with
 | none=>exact .mk
 | bool=>exact .mk
 | int=>exact .mk _
 | str=>exact .mk _
 | byt=>exact .mk _
 | flt _ _ h0 h1=>exact .mk _ h0 h1
 | tup g m r=>exact .mk g m r
 | lst g m r=>exact .mk g m r
 | val=>exact rfl
 | mob=>exact .mk
theorem VRs.ind {P:List V → List Value → Prop} (h0:P [] []) (h1:∀ {v x vs xs},VR S ms s v x → VRs S ms s vs xs → P vs xs → P (v :: vs) (x :: xs)) {vs:List V} {xs:List Value} (h:VRs S ms s vs xs) : P vs xs:=
 VRs.rec (motive_1:=fun ζ ζ ζ=>True) (motive_2:=fun vs xs ζ=>P vs xs) trivial (fun ζ=>trivial) (fun ζ ζ=>trivial) (fun ζ ζ=>trivial) (fun ζ ζ=>trivial) (fun ζ ζ ζ ζ=>trivial) (fun ζ ζ ζ ζ=>trivial) (fun ζ ζ ζ ζ=>trivial) (fun ζ=>trivial) (fun ζ=>trivial) h0 (fun a b ζ h=>h1 a b h) h
structure Pass (S S' s s':Shared) (P:V → Prop) (Ps:List V → Prop) : Prop where
 tup : ∀ {vs},P (.tup vs) → Ps vs
 lst : ∀ {vs},P (.lst vs) → Ps vs
 cons : ∀ {v vs},Ps (v :: vs) → P v ∧ Ps vs
 flt : ∀ {x t},P (.flt x) → S.toks ≤ t → t < s.toks → S'.toks ≤ t ∧ t < s'.toks
theorem VR.map {P:V → Prop} {Ps:List V → Prop} (p:Pass S S' s s' P Ps) (hk:Up ms ms' s s') {v:V} {x:Value} (h:VR S ms s v x) : P v → VR S' ms' s' v x:=
 VR.rec (motive_1:=fun v x ζ=>P v → VR S' ms' s' v x) (motive_2:=fun vs xs ζ=>Ps vs → VRs S' ms' s' vs xs) (fun ζ=>.none) (fun b ζ=>.bool b) (fun i t ζ=>.int i t) (fun i t ζ=>.str i t) (fun i t ζ=>.byt i t)
  (fun x t h0 h1 h=>.flt x t (p.flt h h0 h1).1 (p.flt h h0 h1).2) (fun g m ζ r h=>.tup (hk _ _ m (cls_ne _) g).2 (hk _ _ m (cls_ne _) g).1 (r (p.tup h))) (fun g m ζ r h=>.lst (hk _ _ m (cls_ne _) g).2 (hk _ _ m (cls_ne _) g).1 (r (p.lst h)))
  (fun v ζ=>.val v) (fun a ζ=>.mob a) (fun ζ=>.nil) (fun ζ ζ a b h=>.cons (a (p.cons h).1) (b (p.cons h).2)) h
theorem VRs.map {P:V → Prop} {Ps:List V → Prop} (p:Pass S S' s s' P Ps) (hk:Up ms ms' s s') {vs:List V} {xs:List Value} (h:VRs S ms s vs xs) : Ps vs → VRs S' ms' s' vs xs:=
 h.ind (P:=fun vs xs=>Ps vs → VRs S' ms' s' vs xs) (fun ζ=>.nil) fun a ζ r h=>.cons (a.map p hk (p.cons h).1) (r (p.cons h).2)
theorem Pass.mono (ht:s.toks ≤ s'.toks) : Pass S S s s' (fun ζ=>True) (fun ζ=>True):=⟨fun ζ=>trivial,fun ζ=>trivial,fun ζ=>⟨trivial,trivial⟩,fun ζ h0 h1=>⟨h0,Nat.lt_of_lt_of_le h1 ht⟩⟩
theorem VR.mono (hk:Up ms ms' s s') (ht:s.toks ≤ s'.toks) {v:V} {x:Value} (h:VR S ms s v x) : VR S ms' s' v x:=h.map (.mono ht) hk trivial
theorem VRs.mono (hk:Up ms ms' s s') (ht:s.toks ≤ s'.toks) {vs:List V} {xs:List Value} (h:VRs S ms s vs xs) : VRs S ms' s' vs xs:=h.map (.mono ht) hk trivial
end
theorem Up.keeps {ms:List Addr} {s s':Shared} (k:Kp s s') : Up ms ms s s':=fun b o m ζ e=>⟨m,kget k e⟩
theorem VR.keeps {S:Shared} {ms:List Addr} {s s':Shared} {v:V} {x:Value} (r:VR S ms s v x) (k:Kp s s') : VR S ms s' v x:=r.mono (.keeps k) k.t
theorem VRs.keeps {S:Shared} {ms:List Addr} {s s':Shared} {v:List V} {x:List Value} (r:VRs S ms s v x) (k:Kp s s') : VRs S ms s' v x:=r.mono (.keeps k) k.t
theorem VRs.length {S:Shared} {ms:List Addr} {h:Shared} {vs:List V} {xs:List Value} (r:VRs S ms h vs xs) : xs.length = vs.length:=
 r.ind (P:=fun vs xs=>xs.length = vs.length) rfl fun ζ ζ e=>congrArg Nat.succ e
theorem VRs.get {S:Shared} {ms:List Addr} {h:Shared} {vs:List V} {xs:List Value} (r:VRs S ms h vs xs) : ∀ {i:Nat} {v:V},vs[i]? = some v → ∃ x,xs[i]? = some x ∧ VR S ms h v x:=by
 refine r.ind (P:=fun vs xs=>∀ {i:Nat} {v:V},vs[i]? = some v → ∃ x,xs[i]? = some x ∧ VR S ms h v x) (fun e=>by cases e) fun a ζ ih i v e=>?_
 cases i with
 | zero=>cases e; exact ⟨_,rfl,a⟩
 | succ i=>exact ih e
theorem VRs.take {S:Shared} {ms:List Addr} {h:Shared} {vs:List V} {xs:List Value} (r:VRs S ms h vs xs) : ∀ l : Nat,VRs S ms h (vs.take l) (xs.take l):=
 r.ind (P:=fun vs xs=>∀ l : Nat,VRs S ms h (vs.take l) (xs.take l)) (fun l=>by rw [List.take_nil,List.take_nil]; exact .nil) fun a ζ ih l=>by
  cases l with
  | zero=>exact .nil
  | succ l=>exact .cons a (ih l)
theorem VRs.drop {S:Shared} {ms:List Addr} {h:Shared} {vs:List V} {xs:List Value} (r:VRs S ms h vs xs) : ∀ l : Nat,VRs S ms h (vs.drop l) (xs.drop l):=
 r.ind (P:=fun vs xs=>∀ l : Nat,VRs S ms h (vs.drop l) (xs.drop l)) (fun l=>by rw [List.drop_nil,List.drop_nil]; exact .nil) fun a r ih l=>by
  cases l with
  | zero=>exact .cons a r
  | succ l=>exact ih l
theorem VRs.set {S:Shared} {ms:List Addr} {h:Shared} {v:V} {x:Value} (hv:VR S ms h v x) {vs:List V} {xs:List Value} (j:Nat) (r:VRs S ms h vs xs) : VRs S ms h (vs.set j v) (xs.set j x):=by
 refine r.ind (P:=fun vs xs=>∀ j : Nat,VRs S ms h (vs.set j v) (xs.set j x)) (fun ζ=>.nil) (fun a r ih j=>?_) j
 cases j with
 | zero=>exact .cons hv r
 | succ j=>exact .cons a (ih j)
theorem VRs.append {S:Shared} {ms:List Addr} {h:Shared} {vs:List V} {xs:List Value} (r:VRs S ms h vs xs) {vs':List V} {xs':List Value} (r':VRs S ms h vs' xs') : VRs S ms h (vs ++ vs') (xs ++ xs'):=
 r.ind (P:=fun vs xs=>VRs S ms h (vs ++ vs') (xs ++ xs')) r' fun a ζ r=>.cons a r
inductive MO where
 | list (vs:List V)
 | dict (kvs:List (Str × V))
 | acc (d:Addr) (vs:List V)
 | inst (c d:Addr)
inductive DV (S:Shared) (ms:List Addr) (s:Shared) : List (Str × V) → List (Str × Value) → Prop
 | nil : DV S ms s [] []
 | cons {k:Str} {v:V} {x:Value} {kvs:List (Str × V)} {kxs:List (Str × Value)} : VR S ms s v x → DV S ms s kvs kxs → DV S ms s ((k,v) :: kvs) ((k,x) :: kxs)
theorem DV.mono {S:Shared} {ms ms':List Addr} {s s':Shared} (hk:Up ms ms' s s') (ht:s.toks ≤ s'.toks) {a:List (Str × V)} {b:List (Str × Value)} (h:DV S ms s a b) : DV S ms' s' a b:=by
 induction h with
 | nil=>exact .nil
 | cons a _ ih=>exact .cons (a.mono hk ht) ih
inductive MRSeq (cls:Value) (d:Option Addr) (S:Shared) (ms:List Addr) (s:Shared) (a:Addr) (vs:List V) : Prop
 | mk (xs:Array Value) (n:Nat) : s.heap.get? a = some ⟨cls,d,.seq xs n,#[]⟩ → VRs S ms s vs xs.toList → MRSeq cls d S ms s a vs
inductive MRDict (w:World) (S:Shared) (ms:List Addr) (s:Shared) (a:Addr) (kvs:List (Str × V)) : Prop
 | mk (kvals:List (Str × Value)) : s.heap.DictOf (PySem.strKind P0 w) a kvals → DV S ms s kvs kvals → MRDict w S ms s a kvs
noncomputable def MR (w:World) (S:Shared) (ms:List Addr) (s:Shared) (a:Addr) : MO → Prop
 | .list vs=>MRSeq (.type "list") none S ms s a vs
 | .dict kvs=>MRDict w S ms s a kvs
 | .acc d vs=>MRSeq (.ref 235) (some d) S ms s a vs
 | .inst c d=>s.heap.get? a = some ⟨.ref c,some d,.plain,#[]⟩
theorem MR.live {w:World} {S:Shared} {ms:List Addr} {s:Shared} {a:Addr} {o:MO} (r:MR w S ms s a o) : ∃ ob,s.heap.get? a = some ob:=by
 cases o with
 | list vs=>obtain ⟨xs,n,g,r⟩:=r; exact ⟨_,g⟩
 | dict kvs=>obtain ⟨kvals,⟨o,_,_,g,_⟩,_⟩:=r; exact ⟨_,g⟩
 | acc d vs=>obtain ⟨xs,n,g,r⟩:=r; exact ⟨_,g⟩
 | inst c d=>exact ⟨_,r⟩
theorem MR.mono {w:World} {S:Shared} {ms ms':List Addr} {s s':Shared} {a:Addr} {o:MO} (hk:Up ms ms' s s') (ht:s.toks ≤ s'.toks) (ha:∀ o,s.heap.get? a = some o → s'.heap.get? a = some o) (r:MR w S ms s a o) : MR w S ms' s' a o:=by
 cases o with
 | list vs=>obtain ⟨xs,n,g,r⟩:=r; exact ⟨xs,n,ha _ g,r.mono hk ht⟩
 | dict kvs=>obtain ⟨kvals,g,r⟩:=r; exact ⟨kvals,g.at ha,r.mono hk ht⟩
 | acc d vs=>obtain ⟨xs,n,g,r⟩:=r; exact ⟨xs,n,ha _ g,r.mono hk ht⟩
 | inst c d=>exact ha _ r
structure St where
 loc : List (Str × V)
 mu : List (Addr × MO)
structure Cx where
 w : World
 S0 : Shared
 env : Env
 out : List Addr
 gen : Bool
noncomputable abbrev Cx.wo (c:Cx) (out:List Addr) : Cx:={ c with out:=out }
noncomputable abbrev own (c:Cx) (σ:St) : List Addr:=c.env.locals :: σ.mu.map (·.1)
noncomputable abbrev msOf (c:Cx) (σ:St) : List Addr:=own c σ ++ c.out
inductive LocAt (env:Env) (m:Str → Option Value) (x:Str) (P:Value → Prop) : Prop
 | mk (hk:env.kindOf x = some .local) (y:Value) : m x = some y → P y → LocAt env m x P
inductive CellAt (env:Env) (h:Heap) (x:Str) (P:Value → Prop) : Prop
 | mk (hk:env.kindOf x = some .cell ∨ env.kindOf x = some .free) (c:Addr) (y:Value) : env.cells.lookup x = some c → h.IsCell c (some y) → P y → CellAt env h x P
noncomputable def VarAt (env:Env) (h:Heap) (m:Str → Option Value) (x:Str) (P:Value → Prop) : Prop:=LocAt env m x P ∨ CellAt env h x P
structure EnvOk (env:Env) : Prop where
 kind : env.scope.kind = .function
 globals : env.globals = mainGlobals
 builtins : env.builtins = builtinsNs
structure Base (w:World) (S0:Shared) : Prop where
 X : (K0 w).In S0.heap
 tab : ∀ P,(P = 197 ∨ P = 204) → S0.heap.get? P = some (tabObj #[])
 T : ∃ p loose mg mb,TopRead p loose mg mb S0.heap
 top : ∃ p loose mean mg mb,Top p loose mean mg mb S0.heap
noncomputable def Tabs (h:Heap) : Prop:=∀ P,(P = 197 ∨ P = 204) → ∃ ps,h.get? P = some (tabObj ps) ∧ TriplesOk ps.toList
structure Glob (w:World) (S0 s:Shared) : Prop where
 base : Base w S0
 old : OldK S0.heap s.heap
 st : ∀ o,S0.heap.get? cStatics = some o → s.heap.get? cStatics = some o
 os : s.os = S0.os
 bare : AllBare s.gens
 tok : S0.toks ≤ s.toks
 tab : Tabs s.heap
theorem Tabs.at {h h':Heap} (x:Tabs h) (hk:∀ P,(P = 197 ∨ P = 204) → ∀ o,h.get? P = some o → h'.get? P = some o) : Tabs h':=fun P hP=>let ⟨ps,e,k⟩:=x P hP; ⟨ps,hk P hP _ e,k⟩
noncomputable def Live (ms:List Addr) (h:Heap) : Prop:=∀ a ∈ ms,∃ o,h.get? a = some o
noncomputable def Lo (S0:Shared) (a:Addr) : Prop:=S0.heap.get? a = none ∧ 304 < a
inductive VarsAt (c:Cx) (σ:St) (s:Shared) : Prop
 | mk (m:Str → Option Value) : s.heap.Ns c.env.locals m → (∀ x v,σ.loc.lookup x = some v → VarAt c.env s.heap m x (VR c.S0 (msOf c σ) s v)) → VarsAt c σ s
structure R (c:Cx) (σ:St) (s:Shared) : Prop where
 glob : Glob c.w c.S0 s
 eok : EnvOk c.env
 vars : VarsAt c σ s
 cells : ∀ p ∈ c.env.cells,(p.2 ∈ c.out ∨ (c.env.kindOf p.1 ≠ some .cell ∧ ∃ o,c.S0.heap.get? p.2 = some o)) ∧ ∃ v,s.heap.IsCell p.2 v
 apart : c.env.cells.Pairwise fun x y=>x.2 ≠ y.2
 mu : ∀ p ∈ σ.mu,MR c.w c.S0 (msOf c σ) s p.1 p.2
 nd : (own c σ).Nodup
 disj : ∀ a ∈ own c σ,a ∉ c.out
 live : Live c.out s.heap
 lo : ∀ a ∈ own c σ,Lo c.S0 a
 clo : ∀ p ∈ c.env.cells,c.env.kindOf p.1 = some .cell → Lo c.S0 p.2
theorem Glob.keeps {w:World} {S0 s s':Shared} (g:Glob w S0 s) (k:Kp s s') : Glob w S0 s':=by
 obtain ⟨⟨h',tk,rfl,hk⟩,ht⟩:=k
 exact ⟨g.base,g.old.step_keeps hk,fun o e=>hk _ _ (g.st o e),g.os,g.bare,Nat.le_trans g.tok ht,g.tab.at fun P ζ o e=>hk P o e⟩
theorem krefl (s:Shared) : Kp s s:=⟨⟨s.heap,s.toks,rfl,fun ζ ζ e=>e⟩,Nat.le_refl _⟩
theorem ktrans {a b c:Shared} (x:Kp a b) (y:Kp b c) : Kp a c:=by
 refine ⟨?_,Nat.le_trans x.t y.t⟩
 obtain ⟨h,t,rfl,k⟩:=x.k
 obtain ⟨h',t',rfl,k'⟩:=y.k
 exact ⟨h',t',rfl,fun b o e=>k' b o (k b o e)⟩
theorem ktoks {s:Shared} (t:Nat) (ht:s.toks ≤ t:=by first | exact Nat.le_succ _ | exact Nat.le_refl _ | (first | lia | omega)) : Kp s { s with toks:=t }:=⟨⟨s.heap,t,rfl,fun ζ ζ e=>e⟩,ht⟩
theorem kpush {s:Shared} (o:Obj) (t:Nat) (ht:s.toks ≤ t:=by first | exact Nat.le_refl _ | exact Nat.le_succ _ | (first | lia | omega)) : Kp s { s with heap:=s.heap.push o,toks:=t }:=⟨⟨_,t,rfl,fun ζ ζ e=>Heap.get?_push_of_some _ e⟩,ht⟩
theorem kheap {s:Shared} {h':Heap} {t:Nat} (hk:∀ b o,s.heap.get? b = some o → h'.get? b = some o) (ht:s.toks ≤ t:=by first | assumption | exact Nat.le_refl _ | exact Nat.le_succ _ | (first | lia | omega)) : Kp s { s with heap:=h',toks:=t }:=⟨⟨_,t,rfl,hk⟩,ht⟩
theorem VarAt.keeps {env:Env} {h h':Heap} {m:Str → Option Value} {x:Str} {P Q:Value → Prop} (r:VarAt env h m x P) (hk:∀ b o,h.get? b = some o → h'.get? b = some o) (hP:∀ y,P y → Q y) : VarAt env h' m x Q:=by
 rcases r with ⟨a,y,b,c⟩ | ⟨a,c,y,b,d,e⟩
 ·exact .inl ⟨a,y,b,hP _ c⟩
 ·exact .inr ⟨a,c,y,b,d.keeps hk,hP _ e⟩
theorem Live.keeps {ms:List Addr} {h h':Heap} (l:Live ms h) (hk:∀ b o,h.get? b = some o → h'.get? b = some o) : Live ms h':=fun a ha=>let ⟨o,e⟩:=l a ha; ⟨o,hk _ _ e⟩
theorem R.keeps {c:Cx} {σ:St} {s s':Shared} (r:R c σ s) (k:Kp s s') : R c σ s':=by
 have hk:=kall k
 obtain ⟨m,hm,hv⟩:=r.vars
 refine ⟨r.glob.keeps k,r.eok,⟨m,hm.keeps hk,fun x v e=>(hv x v e).keeps hk fun y hy=>hy.keeps k⟩,fun p hp=>⟨(r.cells p hp).1,?_⟩,r.apart,fun p hp=>(r.mu p hp).mono (.keeps k) k.t fun o e=>hk _ o e,r.nd,r.disj,r.live.keeps hk,r.lo,r.clo⟩
 obtain ⟨v,hc⟩:=(r.cells p hp).2; exact ⟨v,hc.keeps hk⟩
theorem R.liveMs {c:Cx} {σ:St} {s:Shared} (r:R c σ s) : Live (msOf c σ) s.heap:=by
 intro a ha
 rcases mema ha with ha | ha
 ·rcases memc ha with rfl | ha
  ·obtain ⟨m,⟨o,_,_,e,_⟩,_⟩:=r.vars; exact ⟨o,e⟩
  ·obtain ⟨p,hp,rfl⟩:=memm ha; exact (r.mu p hp).live
 ·exact r.live a ha
structure Fit (k:Nat) (A:Around) : Prop where
 hh : A.handled = none
 dp : A.depth + k ≤ 1000
 un : A.units + 10 * k ≤ 9800
theorem Fit.mono {k k':Nat} {A:Around} (f:Fit k A) (h:k' ≤ k) : Fit k' A:=⟨f.hh,by have:=f.dp; w_left,by have:=f.un; w_left⟩
theorem Fit.in1 {k:Nat} {A:Around} (f:Fit (k + 1) A) : Fit k A.in1:=⟨f.hh,by have:=f.dp; show A.depth + k ≤ 1000; w_left,by have:=f.un; show A.units + 1 + 10 * k ≤ 9800; w_left⟩
theorem Fit.deeper {k:Nat} {A:Around} {e:Env} (f:Fit (k + 1) A) : Fit k (A.deeper e):=⟨f.hh,by have:=f.dp; show A.depth + 1 + k ≤ 1000; w_left,by have:=f.un; show A.units + 3 + 10 * k ≤ 9800; w_left⟩
theorem Fit.room {k:Nat} {A:Around} (f:Fit (k + 1) A) : A.depth < recursionLimit:=by have:=f.dp; show A.depth < 1000; w_left
theorem Fit.units {k:Nat} {A:Around} (f:Fit (k + 1) A) : A.units < cLine:=by have:=f.un; show A.units < 9900; w_left
noncomputable abbrev WP (w:World) (A:Around) {α:Type} (t:Sem α) (Q:α → Shared → Prop) (s:Shared) : Prop:=wpAny (model P0 w) A t Q (fun ζ ζ=>False) s
structure GL (w:World) (S0:Shared) (ms:List Addr) (s:Shared) : Prop where
 glob : Glob w S0 s
 live : Live ms s.heap
theorem GL.keeps {w:World} {S0:Shared} {ms:List Addr} {s s':Shared} (g:GL w S0 ms s) (k:Kp s s') : GL w S0 ms s':=⟨g.glob.keeps k,g.live.keeps (kall k)⟩
theorem R.gl {c:Cx} {σ:St} {s:Shared} (r:R c σ s) : GL c.w c.S0 (msOf c σ) s:=⟨r.glob,r.liveMs⟩
theorem GL.fresh {w:World} {S0:Shared} {ms:List Addr} {s:Shared} (g:GL w S0 ms s) : s.heap.objs.size ∉ ms:=fun h=>let ⟨_,e⟩:=g.live _ h; Nat.lt_irrefl _ (Heap.lt_size e)
noncomputable def OP1 (w:World) (S0:Shared) (k:Nat) (t:Value → Sem Value) (a v:V) : Prop:=∀ ms A s x,Fit k A → GL w S0 ms s → VR S0 ms s a x → WP w A (t x) (fun z s'=>VR S0 ms s' v z ∧ Kp s s') s
noncomputable def OP2 (w:World) (S0:Shared) (k:Nat) (t:Value → Value → Sem Value) (a b v:V) : Prop:=∀ ms A s x y,Fit k A → GL w S0 ms s → VR S0 ms s a x → VR S0 ms s b y → WP w A (t x y) (fun z s'=>VR S0 ms s' v z ∧ Kp s s') s
noncomputable def OPn (w:World) (S0:Shared) (k:Nat) (t:List Value → Sem Value) (vs:List V) (v:V) : Prop:=∀ ms A s xs,Fit k A → GL w S0 ms s → VRs S0 ms s vs xs → WP w A (t xs) (fun z s'=>VR S0 ms s' v z ∧ Kp s s') s
noncomputable def EV (c:Cx) (k:Nat) (σ:St) (e:Expr) (v:V) : Prop:=∀ A s,Fit k A → R c σ s → WP c.w A (eval e c.env) (fun x s'=>VR c.S0 (msOf c σ) s' v x ∧ Kp s s') s
noncomputable def EVB (c:Cx) (k:Nat) (σ:St) (e:Expr) (b:Bool) : Prop:=∀ A s,Fit k A → R c σ s → WP c.w A (isTrue e c.env (eval e c.env)) (fun x s'=>x = b ∧ Kp s s') s
inductive AF where
 | next | brk | cont | ret (v:V)
noncomputable def FR (S:Shared) (ms:List Addr) (h:Shared) : AF → Flow → Prop
 | .next,.next=>True
 | .brk,.brk=>True
 | .cont,.cont=>True
 | .ret v,.ret x=>VR S ms h v x
 | _,_=>False
noncomputable def ownC (env:Env) : List Addr:=(env.cells.filter fun p=>env.kindOf p.1 == some .cell).map (·.2)
theorem mem_ownC {env:Env} {p:Str × Addr} (h:p ∈ env.cells) (hk:env.kindOf p.1 = some .cell) : p.2 ∈ ownC env:=List.mem_map_of_mem (List.mem_filter.mpr ⟨h,by rw [hk]; rfl⟩)
theorem of_mem_ownC {env:Env} {a:Addr} (h:a ∈ ownC env) : ∃ p ∈ env.cells,p.2 = a ∧ env.kindOf p.1 = some .cell:=by
 obtain ⟨p,hp,rfl⟩:=memm h
 obtain ⟨h1,h2⟩:=List.mem_filter.mp hp
 exact ⟨p,h1,rfl,by simpa using h2⟩
noncomputable abbrev own2 (c:Cx) (σ:St) : List Addr:=own c σ ++ ownC c.env
noncomputable def Gk (gen:Bool) (b:Addr) (o:Obj) : Prop:=gen = true → (b = 197 ∨ b = 204) → o.cls ≠ .none
structure Step (c:Cx) (σ:St) (s:Shared) (σ':St) (s':Shared) : Prop where
 kept : ∀ b o,b ∉ own2 c σ → Gk c.gen b o → s.heap.get? b = some o → s'.heap.get? b = some o
 fresh : ∀ a ∈ σ'.mu.map (·.1),a ∈ σ.mu.map (·.1) ∨ s.heap.get? a = none
 there : ∀ b o,s.heap.get? b = some o → ∃ o',s'.heap.get? b = some o'
 gens : c.gen = false → s'.gens = s.gens
 drawn : s'.drawn = s.drawn
 toks : s.toks ≤ s'.toks
theorem Step.refl (c:Cx) (σ:St) (s:Shared) : Step c σ s σ s:=⟨fun ζ ζ ζ ζ e=>e,fun ζ h=>.inl h,fun ζ o e=>⟨o,e⟩,fun ζ=>rfl,rfl,Nat.le_refl _⟩
theorem Step.of_keeps {c:Cx} {σ:St} {s s':Shared} (k:Kp s s') : Step c σ s σ s':=by
 obtain ⟨⟨h',tk,rfl,hk⟩,ht⟩:=k
 exact ⟨fun b o ζ ζ e=>hk b o e,fun ζ h=>.inl h,fun b o e=>⟨o,hk b o e⟩,fun ζ=>rfl,rfl,ht⟩
theorem Step.trans {c:Cx} {σ σ₁ σ₂:St} {s s₁ s₂:Shared} (x:Step c σ s σ₁ s₁) (y:Step c σ₁ s₁ σ₂ s₂) : Step c σ s σ₂ s₂:=by
 have nm : ∀ b o,b ∉ own2 c σ → s.heap.get? b = some o → b ∉ own2 c σ₁:=fun b o hb e hm=>by
  rcases mema hm with hm | hm
  ·rcases memc hm with rfl | hm
   ·exact hb (memL _ (.head _))
   ·rcases x.fresh b hm with h | h
    ·exact hb (memL _ (.tail _ h))
    ·rw [e] at h; cases h
  ·exact hb (memR _ hm)
 refine ⟨fun b o hb hc e=>y.kept b o (nm b o hb e) hc (x.kept b o hb hc e),fun a ha=>?_,fun b o e=>let ⟨o',e'⟩:=x.there b o e; y.there b o' e',fun hg=>(y.gens hg).trans (x.gens hg),y.drawn.trans x.drawn,Nat.le_trans x.toks y.toks⟩
 rcases y.fresh a ha with h | h
 ·exact x.fresh a h
 ·right
  cases e : s.heap.get? a with
  | none=>rfl
  | some o=>obtain ⟨o',e'⟩:=x.there a o e; rw [h] at e'; cases e'
inductive ExP (c:Cx) (σ:St) (s:Shared) (Q:AF → St → Prop) (fl:Flow) (s':Shared) : Prop
 | mk (af:AF) (σ':St) : Q af σ' → R c σ' s' → FR c.S0 (msOf c σ') s' af fl → Step c σ s σ' s' → ExP c σ s Q fl s'
inductive EmP (c:Cx) (σ:St) (s:Shared) (Q:V → St → Prop) (x:Value) (s':Shared) : Prop
 | mk (v:V) (σ':St) : Q v σ' → R c σ' s' → VR c.S0 (msOf c σ') s' v x → Step c σ s σ' s' → EmP c σ s Q x s'
noncomputable def EX (c:Cx) (k:Nat) (σ:St) (st:Stmt) (Q:AF → St → Prop) : Prop:=∀ A s,Fit k A → R c σ s → WP c.w A (exec st c.env) (ExP c σ s Q) s
noncomputable def EXs (c:Cx) (k:Nat) (σ:St) (st:List Stmt) (Q:AF → St → Prop) : Prop:=∀ A s,Fit k A → R c σ s → WP c.w A (execs st c.env) (ExP c σ s Q) s
end Mine.Internal
end
local macro_rules | `(tactic| w_dflts $h:ident) => `(tactic| first | cases Mine.Internal.VR.inv $h | cases ($h))
section
namespace Mine.Internal
section heap
variable {w:World} {S0 s:Shared}
theorem old_ns {h₀ h:Heap} (k:OldK h₀ h) {a:Addr} {m:Str → Option Value} (n:h₀.Ns a m) (ha:a ≠ cStatics) : h.Ns a m:=by
 obtain ⟨o,es,ep,g,d,r⟩:=n
 rcases k.old a o g with x | ⟨_,_,vs,_,hv,_⟩ | ⟨e,_⟩
 ·exact ⟨o,es,ep,x,d,r⟩
 ·rw [d] at hv; w_dflts hv
 ·exact absurd e ha
theorem Glob.limit (g:Glob w S0 s) : s.heap.NoLimit:=by
 obtain ⟨p,l,mg,mb,T⟩:=g.base.T
 obtain ⟨mc,⟨o,es,ep,e,r⟩,hn⟩:=T.nolimit
 exact ⟨mc,⟨o,es,ep,g.st o e,r⟩,hn⟩
noncomputable abbrev K1 (w:World) : Frag:=(K0 w).filter fun p=>!(p.2.cls == Value.none) || p.1 == cStatics
theorem nodup_of_lookups {β:Type} {l:List (Addr × β)} (hn:(l.map (·.1)).Nodup) {p:Addr × β} (hp:p ∈ l) : l.lookup p.1 = some p.2:=by
 induction l with
 | nil=>cases hp
 | cons q l ih=>
  obtain ⟨h1,h2⟩:=ndc hn
  rw [List.lookup_cons]
  rcases memc hp with rfl | hp
  ·rw [beq_self_eq_true]
  ·rw [beq_eq_false_iff_ne.mpr fun e : p.1 = q.1=>h1 (by show q.1 ∈ _; rw [← e]; exact List.mem_map_of_mem hp)]
   exact ih h2 hp
theorem mem_of_lookupA {β:Type} {l:List (Addr × β)} {a:Addr} {b:β} (h:l.lookup a = some b) : (a,b) ∈ l:=by
 induction l with
 | nil=>cases h
 | cons q l ih=>
  rw [List.lookup_cons] at h
  cases e : a == q.1 with
  | true=>rw [e] at h; cases h; rw [eq_of_beq e]; exact .head _
  | false=>rw [e] at h; exact .tail _ (ih h)
theorem K0_keys (P:Params) : ((Mine.Internal.hd.heap_1 P).map (·.1)).Nodup:=of_decide_eq_true (by kernel_rfl)
theorem Glob.X1 (g:Glob w S0 s) : (K1 w).In s.heap:=by
 intro a o e
 have hm:=mem_of_lookupA e
 obtain ⟨hm,hc⟩:=List.mem_filter.mp hm
 have h0:=g.base.X a o (nodup_of_lookups (K0_keys w.params) hm)
 by_cases hn : o.cls = .none
 ·have : a = cStatics:=by
   have hc' : (!(o.cls == Value.none) || a == cStatics) = true:=hc
   rw [hn,show (Value.none == Value.none) = true from rfl] at hc'
   simpa using hc'
  subst this
  exact g.st o h0
 ·exact g.old.get_of_cls h0 hn
structure Names (w:World) (mg mb:Str → Option Value) (h:Heap) : Prop where
 g : h.Ns mainGlobals mg
 b : h.Ns builtinsNs mb
 builtins : ∀ x : Str,x ≠ "__name__" → mb x = bootBuiltins x
theorem Glob.names (g:Glob w S0 s) : ∃ mg mb,Names w mg mb s.heap:=by
 obtain ⟨p,l,mg,mb,T⟩:=g.base.T
 exact ⟨mg,mb,old_ns g.old T.g (by decide),old_ns g.old T.b (by decide),T.builtins⟩
end heap
section exprs
variable {c:Cx} {k:Nat} {σ:St}
theorem EV.name {x:Str} {pos:Pos} {v:V} (hl:σ.loc.lookup x = some v) (hd:(x == ("__debug__":Str)) = false:=by decide) (hn:(x == ("__classdict__":Str)) = false:=by decide) : EV c k σ (.Name x pos) v:=by
 intro A s f r
 obtain ⟨m,hm,hv⟩:=r.vars
 refine wpAny_Name ?_ hd
 rcases hv x v hl with ⟨hk,y,hy,hr⟩ | ⟨hk,a,y,ha,hc,hr⟩
 ·exact wpAny_loadName_local r.eok.kind hk hm hy ⟨hr,krefl s⟩
 ·rcases hk with hk | hk
  ·exact wpAny_loadName_cell r.eok.kind hk ha hc ⟨hr,krefl s⟩
  ·exact wpAny_loadName_free r.eok.kind hk ha hc ⟨hr,krefl s⟩ hn
theorem EV.glob {x:Str} {pos:Pos} {v:Value} (e:nsIn (K1 c.w) mainGlobals x = some (some v)) (hx:c.env.kindOf x = some .globalImplicit) (hd:(x == ("__debug__":Str)) = false:=by decide) : EV c k σ (.Name x pos) (.val v):=by
 intro A s f r
 obtain ⟨mg,mb,N⟩:=r.glob.names
 refine Name_function_global r.eok.kind hx (loadGlobal_global (mg:=mg) ?_ (mg_of r.glob.X1 N.g e) ⟨.val v,krefl s⟩) hd
 rw [r.eok.globals]; exact N.g
theorem EV.boot {x:Str} {pos:Pos} {v:Value} (e:nsIn (K1 c.w) mainGlobals x = some none) (hx:c.env.kindOf x = some .globalImplicit) (hb:bootBuiltins x = some v) (hn:x ≠ "__name__":=by decide) (hd:(x == ("__debug__":Str)) = false:=by decide) : EV c k σ (.Name x pos) (.val v):=by
 intro A s f r
 obtain ⟨mg,mb,N⟩:=r.glob.names
 refine Name_function_global r.eok.kind hx (loadGlobal_builtin (mg:=mg) (mb:=mb) ?_ (mg_none_of r.glob.X1 N.g e) ?_ ((N.builtins x hn).trans hb) ⟨.val v,krefl s⟩) hd
 ·rw [r.eok.globals]; exact N.g
 ·rw [r.eok.builtins]; exact N.b
theorem EV.int {i:Int} {kk:Nat} {pos:Pos} : EV c k σ (.Constant (.int i) kk pos) (.int i):=fun ζ s ζ ζ=>wpAny_Constant_int ⟨.int _ _,ktoks _⟩
theorem EV.str {i:Str} {kk:Nat} {pos:Pos} : EV c k σ (.Constant (.str i) kk pos) (.str i):=fun ζ s ζ ζ=>Constant_str ⟨.str _ _,ktoks _⟩
theorem EV.bool {b:Bool} {kk:Nat} {pos:Pos} : EV c k σ (.Constant (.bool b) kk pos) (.bool b):=fun ζ s ζ ζ=>fun ζ ζ ζ=>⟨.bool _,krefl s⟩
theorem EV.none {kk:Nat} {pos:Pos} : EV c k σ (.Constant .none kk pos) .none:=fun ζ s ζ ζ=>fun ζ ζ ζ=>⟨.none,krefl s⟩
theorem EV.flt {x:UInt64} {kk:Nat} {pos:Pos} : EV c k σ (.Constant (.float x) kk pos) (.flt x):=fun ζ s ζ r=>fun ζ ζ ζ=>⟨.flt _ _ r.glob.tok (Nat.lt_succ_self _),ktoks _⟩
theorem EV.byt {b:List UInt8} {kk:Nat} {pos:Pos} : EV c k σ (.Constant (.bytes b) kk pos) (.byt b.toArray):=fun ζ s ζ ζ=>fun ζ ζ ζ=>⟨.byt _ _,ktoks _⟩
theorem EV.mono {k':Nat} {e:Expr} {v:V} (h:EV c k σ e v) (hk:k ≤ k') : EV c k' σ e v:=fun A s f r=>h A s (f.mono hk) r
theorem WPmono {w:World} {A:Around} {α:Type} {t:Sem α} {Q Q':α → Shared → Prop} {s:Shared} (h:WP w A t Q s) (hQ:∀ a s',Q a s' → Q' a s') : WP w A t Q' s:=wpAny_mono h hQ fun ζ ζ x=>x
theorem EV.bin {l r:Expr} {op:Operator} {pos:Pos} {a b v:V} (hl:EV c k σ l a) (hr:EV c k σ r b) (ho:OP2 c.w c.S0 k (binaryOp op) a b v) : EV c k σ (.BinOp l op r pos) v:=by
 intro A s f r
 refine wpAny_BinOp (WPmono (hl A s f r) fun x s₁ w0=>?_)
 obtain ⟨hx,k₁⟩:=w0
 refine WPmono (hr A s₁ f (r.keeps k₁)) fun y s₂ w0=>?_
 obtain ⟨hy,k₂⟩:=w0
 have r₂:=(r.keeps k₁).keeps k₂
 refine WPmono (ho _ A s₂ x y f r₂.gl (hx.keeps k₂) hy) fun z s₃ ⟨hz,k₃⟩=>⟨hz,ktrans k₁ (ktrans k₂ k₃)⟩
theorem EV.cmp {l r:Expr} {op:CmpOp} {pos:Pos} {a b v:V} (hl:EV c k σ l a) (hr:EV c k σ r b) (ho:OP2 c.w c.S0 k (compareOp op) a b v) (hm:behindInMarks op r = false:=by rfl) : EV c k σ (.Compare l [op] [r] pos) v:=by
 intro A s f r
 refine wpAny_Compare1 (WPmono (hl A s f r) fun x s₁ w0=>?_) hm
 obtain ⟨hx,k₁⟩:=w0
 refine WPmono (hr A s₁ f (r.keeps k₁)) fun y s₂ w0=>?_
 obtain ⟨hy,k₂⟩:=w0
 have r₂:=(r.keeps k₁).keeps k₂
 refine WPmono (ho _ A s₂ x y f r₂.gl (hx.keeps k₂) hy) fun z s₃ ⟨hz,k₃⟩=>⟨hz,ktrans k₁ (ktrans k₂ k₃)⟩
theorem EVB.cmp {l r:Expr} {op:CmpOp} {pos:Pos} {a b:V} {p:Bool} (hl:EV c k σ l a) (hr:EV c k σ r b) (ho:OP2 c.w c.S0 k (compareOp op) a b (.bool p)) (hm:behindInMarks op r = false:=by rfl) : EVB c k σ (.Compare l [op] [r] pos) p:=by
 intro A s f r
 refine wpAny_isTrue_Compare1 (WPmono (hl A s f r) fun x s₁ w0=>?_) hm
 obtain ⟨hx,k₁⟩:=w0
 refine WPmono (hr A s₁ f (r.keeps k₁)) fun y s₂ w0=>?_
 obtain ⟨hy,k₂⟩:=w0
 have r₂:=(r.keeps k₁).keeps k₂
 refine WPmono (ho _ A s₂ x y f r₂.gl (hx.keeps k₂) hy) fun z s₃ w0=>?_
 obtain ⟨hz,k₃⟩:=w0
 w_dflts hz
 exact wpAny_truthy_bool ⟨rfl,ktrans k₁ (ktrans k₂ k₃)⟩
end exprs
end Mine.Internal
end
section
namespace Mine.Internal
noncomputable def EVL (c:Cx) (k:Nat) (σ:St) (es:List Expr) (vs:List V) : Prop:=∀ pos A s,Fit k A → R c σ s → WP c.w A (spliced (backTo pos (starEach es c.env))) (fun xs s'=>VRs c.S0 (msOf c σ) s' vs xs ∧ Kp s s') s
section
variable {c:Cx} {k:Nat} {σ:St}
theorem EVL.nil : EVL c k σ [] []:=fun ζ ζ s ζ ζ=>spliced_nil ⟨.nil,krefl s⟩
theorem EVL.cons {e:Expr} {es:List Expr} {v:V} {vs:List V} (h:EV c k σ e v) (hs:EVL c k σ es vs) (he:starEach (e :: es) c.env = (false,eval e c.env) :: starEach es c.env:=by rfl) : EVL c k σ (e :: es) (v :: vs):=by
 intro pos A s f r
 rw [he]
 refine spliced_cons (WPmono (h A s f r) fun x s₁ w0=>?_)
 obtain ⟨hx,k₁⟩:=w0
 refine WPmono (hs pos A s₁ f (r.keeps k₁)) fun xs s₂ ⟨hxs,k₂⟩=>⟨.cons (hx.keeps k₂) hxs,ktrans k₁ k₂⟩
theorem toArray_toList (xs:List Value) : xs.toArray.toList = xs:=List.toList_toArray ..
theorem vr_newTuple {S:Shared} {ms:List Addr} {s:Shared} {vs:List V} {xs:List Value} (hm:s.heap.objs.size ∉ ms) (r:VRs S ms s vs xs) : VR S ms { s with heap:=s.heap.push { cls:=.type "tuple",data:=.seq xs.toArray } } (.tup vs) (.ref s.heap.objs.size):=
 .tup (Heap.get?_push_size _ rfl) hm (by rw [toArray_toList]; exact r.keeps (kpush _ _))
theorem vr_newList {S:Shared} {ms:List Addr} {s:Shared} {vs:List V} {xs:List Value} (hm:s.heap.objs.size ∉ ms) (r:VRs S ms s vs xs) : VR S ms { s with heap:=s.heap.push { cls:=.type "list",data:=.seq xs.toArray } } (.lst vs) (.ref s.heap.objs.size):=
 .lst (Heap.get?_push_size _ rfl) hm (by rw [toArray_toList]; exact r.keeps (kpush _ _))
noncomputable def evS (l:List (Str × V)) : Expr → Option V
 | .Name x _=>if (x == ("__debug__":Str)) || (x == ("__classdict__":Str)) then none else l.lookup x
 | .Constant (.int i) _ _=>some (.int i)
 | .Constant (.str s) _ _=>some (.str s)
 | .Constant (.bool b) _ _=>some (.bool b)
 | .Constant .none _ _=>some .none
 | _=>none
theorem EV.ev {e:Expr} {v:V} (h:evS σ.loc e = some v) : EV c k σ e v ∧ ∀ es,starEach (e :: es) c.env = (false,eval e c.env) :: starEach es c.env:=by
 unfold evS at h
 split at h
 ·split at h
  ·cases h
  ·rename_i x _ q
   have q:=Bool.or_eq_false_iff.mp (Bool.not_eq_true _ ▸ q)
   exact ⟨EV.name h q.1 q.2,fun ζ=>rfl⟩
 ·cases h; exact ⟨EV.int,fun ζ=>rfl⟩
 ·cases h; exact ⟨EV.str,fun ζ=>rfl⟩
 ·cases h; exact ⟨EV.bool,fun ζ=>rfl⟩
 ·cases h; exact ⟨EV.none,fun ζ=>rfl⟩
 ·cases h
noncomputable def evLS (l:List (Str × V)) (es:List Expr) : Option (List V):=es.foldr (fun e r=>(evS l e).bind fun v=>r.bind fun vs=>some (v :: vs)) (some [])
theorem EVL.ev {es:List Expr} {vs:List V} (h:evLS σ.loc es = some vs) : EVL c k σ es vs:=by
 induction es generalizing vs with
 | nil=>cases h; exact .nil
 | cons e es ih=>
  obtain ⟨v,h1,h2⟩:=Option.bind_eq_some_iff.mp h
  obtain ⟨us,h3,h4⟩:=Option.bind_eq_some_iff.mp h2
  cases h4
  have q:=EV.ev (c:=c) (k:=k) h1
  exact .cons q.1 (ih h3) (q.2 es)
theorem EV.tuple {es:List Expr} {vs:List V} {n:Nat} {pos:Pos} (h:EVL c k σ es vs) (hz:vs.length ≤ sizeLine:=by exact Nat.le_of_ble_eq_true rfl) : EV c k σ (.Tuple es n pos) (.tup vs):=by
 intro A s f r
 refine Tuple_ (WPmono (h pos A s f r) fun xs s₁ w0=>?_)
 obtain ⟨hx,k₁⟩:=w0
 refine wpAny_newObj_type ⟨vr_newTuple (r.keeps k₁).gl.fresh hx,ktrans k₁ (kpush _ _)⟩ ?_
 show xs.toArray.size ≤ sizeLine
 rw [List.size_toArray,hx.length]; exact hz
theorem EV.list {es:List Expr} {vs:List V} {pos:Pos} (h:EVL c k σ es vs) (hz:vs.length ≤ sizeLine:=by exact Nat.le_of_ble_eq_true rfl) : EV c k σ (.List es pos) (.lst vs):=by
 intro A s f r
 refine List_ (WPmono (h pos A s f r) fun xs s₁ w0=>?_)
 obtain ⟨hx,k₁⟩:=w0
 refine wpAny_newObj_type ⟨vr_newList (r.keeps k₁).gl.fresh hx,ktrans k₁ (kpush _ _)⟩ ?_
 show xs.toArray.size ≤ sizeLine
 rw [List.size_toArray,hx.length]; exact hz
noncomputable def Callee (w:World) (S0:Shared) (f:Value) : Prop:=∀ s,Glob w S0 s → ∃ k,(k = Keeper.frame ∨ k = Keeper.machine ∨ k = Keeper.boundFrame) ∧ Looks (model P0 w) s.heap (keeperOf f) k
theorem Callee.builtin {w:World} {S0:Shared} {id:String} : Callee w S0 (.builtin id):=fun ζ ζ=>⟨.machine,.inr (.inl rfl),Looks.of_pure rfl⟩
theorem Callee.type {w:World} {S0:Shared} {id:String} : Callee w S0 (.type id):=fun ζ ζ=>⟨.machine,.inr (.inl rfl),Looks.of_pure rfl⟩
theorem Callee.top {w:World} {S0:Shared} {a:Addr} (h:keepIn (K1 w) (.ref a) = true) : Callee w S0 (.ref a):=fun ζ g=>keeps_K h _ g.X1
theorem plainArgs : ∀ {es:List Expr} {env:Env} {pos:Pos},((starEach es env).any (·.1) = false) → (backTo pos (starEach es env)).any (·.1) = false:=by
 intro es env pos h
 unfold backTo
 rw [List.any_map]
 exact h
theorem wp_evalArgs {w:World} {A:Around} {s:Shared} {f:Value} {args:List (Bool × Sem Value)} {Q:Args → Shared → Prop} (hp:args.any (·.1) = false)
  (h:WP w A (spliced args) (fun vs s'=>Q ⟨vs,[]⟩ s') s) : WP w A (evalArgs f true args []) Q s:=by
 cases args with
 | nil=>
  unfold evalArgs
  show wpAny _ A (spliced [] >>= _) Q _ s
  refine wpAny_bind (wpAny_mono h (fun vs s' h'=>?_) fun ζ ζ x=>x)
  refine wpAny_bind (wpAny_pure ?_)
  refine wpAny_holding ?_
  exact wpAny_bind (wpAny_pure (wpAny_bind (wpAny_pure (wpAny_pure h'))))
 | cons a rest=>
  obtain ⟨b,t⟩:=a
  cases b with
  | true=>simp at hp
  | false=>exact evalArgs_plain h
theorem EV.callv {fe:Expr} {es:List Expr} {f:Value} {vs:List V} {v:V} {pos:Pos} (hf:EV c k σ fe (.val f)) (ha:EVL c k σ es vs) (hc:Callee c.w c.S0 f) (ho:OPn c.w c.S0 k (fun xs=>call f xs) vs v)
  (he:eval (.Call fe es [] pos) c.env = (do callWith pos (← eval fe c.env) [] (backTo pos (starEach es c.env)) []):=by rfl) (hp:(starEach es c.env).any (·.1) = false:=by rfl) : EV c k σ (.Call fe es [] pos) v:=by
 intro A s f r
 rw [he]
 refine wpAny_bind (WPmono (hf A s f r) fun x s₁ w0=>?_)
 obtain ⟨hx,k₁⟩:=w0
 w_dflts hx
 have r₁:=r.keeps k₁
 refine callWith_of (P:=fun h=>∃ s',s'.heap = h ∧ Glob c.w c.S0 s') (by rw [plainArgs hp]; rfl) (fun h ⟨s',e,g⟩=>e ▸ hc s' g) ?_
 refine wp_evalArgs (plainArgs hp) (WPmono (ha pos A s₁ f r₁) fun xs s₂ w0=>?_)
 obtain ⟨hxs,k₂⟩:=w0
 have r₂:=r₁.keeps k₂
 refine ⟨⟨s₂,rfl,r₂.glob⟩,?_⟩
 refine WPmono (ho _ A s₂ xs f r₂.gl hxs) fun z s₃ ⟨hz,k₃⟩=>⟨hz,ktrans k₁ (ktrans k₂ k₃)⟩
end
end Mine.Internal
end
section
namespace Mine.Internal
noncomputable def V.ty : V → String
 | .none=>"NoneType" | .bool _=>"bool" | .int _=>"int" | .str _=>"str" | .byt _=>"bytes" | .flt _=>"float" | .tup _=>"tuple" | .lst _=>"list" | .val _=>"" | .mob _=>""
noncomputable def V.flat : V → Bool
 | .val _=>false | .mob _=>false | _=>true
theorem VR.typeIs {S:Shared} {ms:List Addr} {s:Shared} {v:V} {x:Value} (r:VR S ms s v x) (hf:v.flat = true) : s.TypeIs x v.ty:=by
 cases r with
 | none=>rfl
 | bool=>rfl
 | int=>rfl
 | str=>rfl
 | byt=>rfl
 | flt=>rfl
 | tup g _ _=>exact ⟨_,g,rfl⟩
 | lst g _ _=>exact ⟨_,g,rfl⟩
 | val=>cases hf
 | mob=>cases hf
theorem VR.noDict {S:Shared} {ms:List Addr} {s:Shared} {v:V} {x:Value} (r:VR S ms s v x) (hf:v.flat = true) : ∀ a,x = .ref a → ∃ o,s.heap.get? a = some o ∧ o.dict = Option.none:=by
 intro a e
 cases r with
 | tup g _ _=>cases e; exact ⟨_,g,rfl⟩
 | lst g _ _=>cases e; exact ⟨_,g,rfl⟩
 | val=>cases hf
 | mob=>cases hf
 | _=>cases e
structure Meth (T:String) (name:Str) (id:String) : Prop where
 pa : PlainAttrs T
 slot : Slot T name id
 hty : typeOf (.builtin id) = pure (.type "method_descriptor")
section
variable {c:Cx} {k:Nat} {σ:St}
structure Site (c:Cx) (o:Expr) (name:Str) (es:List Expr) (apos pos:Pos) : Prop where
 base : attributeBase o name c.env (eval o c.env) = eval o c.env
 few : ((backTo pos (starEach es c.env)).all (fun x=>!x.1) && (backToKw pos (keywordEach [] c.env)).all (fun x=>x.1.isSome) && decide (es.length + ([] : List Keyword).length + (if ([] : List Keyword).isEmpty then 0 else 1) < 30)) = true
 line : (apos.endLine == pos.line) = true
 plain : (starEach es c.env).any (·.1) = false
theorem EV.meth {o:Expr} {name:Str} {apos pos:Pos} {es:List Expr} {a:V} {id:String} {vs:List V} {v:V} (hv:EV c k σ o a) (hf:a.flat = true) (m:Meth a.ty name id) (ha:EVL c k σ es vs)
  (ho:OPn c.w c.S0 k (fun xs=>call (.builtin id) xs) (a :: vs) v)
  (S:Site c o name es apos pos:=by exact ⟨rfl,rfl,rfl,rfl⟩) : EV c k σ (.Call (.Attribute o name apos) es [] pos) v:=by
 intro A s f r
 refine wpAny_Call_method S.base S.few S.line m.pa m.slot m.hty (WPmono (hv A s f r) fun x s₁ w0=>?_)
 obtain ⟨hx,k₁⟩:=w0
 have r₁:=r.keeps k₁
 refine ⟨hx.typeIs hf,hx.noDict hf,?_⟩
 refine callWith_of (P:=fun h=>True) (by rw [plainArgs S.plain]; rfl) (fun h ζ=>⟨.machine,.inr (.inl rfl),Looks.of_pure rfl⟩) ?_
 refine wp_evalArgs (plainArgs S.plain) (WPmono (ha pos A s₁ f r₁) fun xs s₂ ⟨hxs,k₂⟩=>⟨trivial,?_⟩)
 have r₂:=r₁.keeps k₂
 refine WPmono (ho _ A s₂ (x :: xs) f r₂.gl (.cons (hx.keeps k₂) hxs)) fun z s₃ ⟨hz,k₃⟩=>⟨hz,ktrans k₁ (ktrans k₂ k₃)⟩
structure Item (T:String) : Prop where
 look : ∃ id,typeLookup (.type T) "__getitem__" = pure (some (.builtin id))
theorem subscripted_false (sl:Expr) (o i:Value) {w:World} {A:Around} {Q:Value → Shared → Prop} {s:Shared} (h:WP w A (getItem o i) Q s) : WP w A (subscripted sl false o i) Q s:=by
 unfold subscripted
 split
 ·exact wpAny_operating h
 ·rename_i e; cases e
 ·exact wpAny_operating h
theorem EV.sub {e i:Expr} {pos:Pos} {a b v:V} (he:EV c k σ e a) (hf:a.flat = true) (hT:Item a.ty) (hi:EV c k σ i b) (ho:OP2 c.w c.S0 k getItem a b v) : EV c k σ (.Subscript e i pos) v:=by
 intro A s f r
 rw [eval_Subscript]
 refine wpAny_bind (WPmono (he A s f r) fun x s₁ ⟨hx,k₁⟩=>wpAny_bind (wpAny_holding (WPmono (hi A s₁ f (r.keeps k₁)) fun y s₂ ⟨hy,k₂⟩=>wpAny_bind (wpAny_standAt (wpAny_bind ?_)))))
 have r₂:=(r.keeps k₁).keeps k₂
 have hx₂:=hx.keeps k₂
 have hT₂:=hx₂.typeIs (s:=s₂) hf
 obtain ⟨id,hl⟩:=hT.look
 rw [getitemInPython_of_ne hT₂.not_modules]
 refine wpAny_bind (wpAny_specialOf hT₂ hl (wpAny_pure (wpAny_bind (subscripted_false i x y ?_))))
 refine WPmono (ho _ A s₂ x y f r₂.gl hx₂ hy) fun z s₃ ⟨hz,k₃⟩=>wpAny_bind (wpAny_letTemporaryGo (wpAny_pure ⟨hz,ktrans k₁ (ktrans k₂ k₃)⟩))
noncomputable def OPT (w:World) (S0:Shared) (k:Nat) (a:V) (b:Bool) : Prop:=∀ ms A s x,Fit k A → GL w S0 ms s → VR S0 ms s a x → WP w A (truthy x) (fun z s'=>z = b ∧ Kp s s') s
theorem EVB.val {e:Expr} {a:V} {b:Bool} (he:EV c k σ e a) (ht:OPT c.w c.S0 k a b) (hi:isTrue e c.env (eval e c.env) = (do let v ← eval e c.env; standAt e.pos; holding [v] (truthy v)):=by rfl) : EVB c k σ e b:=by
 intro A s f r
 rw [hi]
 refine wpAny_bind (WPmono (he A s f r) fun x s₁ ⟨hx,k₁⟩=>wpAny_bind (wpAny_standAt (wpAny_holding ?_)))
 exact WPmono (ht _ A s₁ x f (r.keeps k₁).gl hx) fun z s₂ ⟨hz,k₂⟩=>⟨hz,ktrans k₁ k₂⟩
theorem EVB.not {e:Expr} {pos:Pos} {b:Bool} (h:EVB c k σ e b) : EVB c k σ (.UnaryOp .Not e pos) (!b):=by
 intro A s f r
 show WP c.w A (do return !(← isTrue e c.env (eval e c.env))) _ s
 exact wpAny_bind (WPmono (h A s f r) fun x s₁ ⟨hx,k₁⟩=>wpAny_pure ⟨by rw [hx],k₁⟩)
theorem EVB.and2 {l r:Expr} {pos:Pos} {a b:Bool} (hl:EVB c k σ l a) (hr:a = true → EVB c k σ r b) (hb:a = false → b = false) : EVB c k σ (.BoolOp .And [l,r] pos) b:=by
 intro A s f R
 show WP c.w A (allTrue .And [l,r] c.env) _ s
 refine wpAny_allTrue_And_cons (WPmono (hl A s f R) fun x s₁ w0=>?_)
 obtain ⟨hx,k₁⟩:=w0
 subst hx
 cases x with
 | false=>exact ⟨(hb rfl).symm,k₁⟩
 | true=>
  refine wpAny_allTrue_And_cons (WPmono (hr rfl A s₁ f (R.keeps k₁)) fun y s₂ w0=>?_)
  obtain ⟨hy,k₂⟩:=w0
  subst hy
  cases y with
  | false=>exact ⟨rfl,ktrans k₁ k₂⟩
  | true=>exact wpAny_allTrue_And_nil ⟨rfl,ktrans k₁ k₂⟩
theorem EVB.or2 {l r:Expr} {pos:Pos} {a b:Bool} (hl:EVB c k σ l a) (hr:a = false → EVB c k σ r b) (hb:a = true → b = true) : EVB c k σ (.BoolOp .Or [l,r] pos) b:=by
 intro A s f R
 show WP c.w A (allTrue .Or [l,r] c.env) _ s
 refine wpAny_allTrue_Or_cons (WPmono (hl A s f R) fun x s₁ w0=>?_)
 obtain ⟨hx,k₁⟩:=w0
 subst hx
 cases x with
 | true=>exact ⟨(hb rfl).symm,k₁⟩
 | false=>
  refine wpAny_allTrue_Or_cons (WPmono (hr rfl A s₁ f (R.keeps k₁)) fun y s₂ w0=>?_)
  obtain ⟨hy,k₂⟩:=w0
  subst hy
  cases y with
  | true=>exact ⟨rfl,ktrans k₁ k₂⟩
  | false=>exact wpAny_allTrue_Or_nil ⟨rfl,ktrans k₁ k₂⟩
theorem EVB.orF {l r:Expr} {pos:Pos} (hl:EVB c k σ l false) (hr:EVB c k σ r false) : EVB c k σ (.BoolOp .Or [l,r] pos) false:=.or2 hl (fun ζ=>hr) fun q=>nomatch q
theorem EV.un {e:Expr} {op:UnaryOp} {pos:Pos} {a v:V} (he:EV c k σ e a) (ho:OP1 c.w c.S0 k (unaryOp op) a v) : EV c k σ (.UnaryOp op e pos) v:=by
 intro A s f r
 show WP c.w A (do let v ← eval e c.env; standAt pos; holding [v] (unaryOp op v)) _ s
 refine wpAny_bind (WPmono (he A s f r) fun x s₁ ⟨hx,k₁⟩=>wpAny_bind (wpAny_standAt (wpAny_holding ?_)))
 exact WPmono (ho _ A s₁ x f (r.keeps k₁).gl hx) fun z s₂ ⟨hz,k₂⟩=>⟨hz,ktrans k₁ k₂⟩
theorem EVB.chain2 {l m r:Expr} {o₁ o₂:CmpOp} {pos:Pos} {a b d:V} {p q:Bool} (hl:EV c k σ l a) (hm:EV c k σ m b) (h₁:OP2 c.w c.S0 k (compareOp o₁) a b (.bool p)) (hr:p = true → EV c k σ r d) (h₂:p = true → OP2 c.w c.S0 k (compareOp o₂) b d (.bool q)) (hq:p = false → q = false)
  (hk:behindInMarks o₂ r = false:=by rfl) : EVB c k σ (.Compare l [o₁,o₂] [m,r] pos) q:=by
 intro A s f R
 show WP c.w A (do testChain pos (← eval l c.env) [o₁,o₂] [eval m c.env,markedBehindIn o₂ r (eval r c.env)]) _ s
 rw [markedBehindIn_of_false hk]
 refine wpAny_bind (WPmono (hl A s f R) fun x s₁ w0=>?_)
 obtain ⟨hx,k₁⟩:=w0
 unfold testChain
 refine wpAny_bind (wpAny_holding (WPmono (hm A s₁ f (R.keeps k₁)) fun y s₂ ⟨hy,k₂⟩=>wpAny_bind (wpAny_standAt (wpAny_bind (wpAny_holding ?_)))))
 have r₂:=(R.keeps k₁).keeps k₂
 refine WPmono (h₁ _ A s₂ x y f r₂.gl (hx.keeps k₂) hy) fun z s₃ w0=>?_
 obtain ⟨hz,k₃⟩:=w0
 w_dflts hz
 have rel : ∀ {vs keep:List Value} {Q:Unit → Shared → Prop} {s:Shared},Q () s → WP c.w A (release vs keep) Q s:=fun h Γ p ζ=>by rw [Sem.wp_release]; exact h
 refine wpAny_bind (rel (wpAny_bind (wpAny_holding (wpAny_truthy_bool ?_))))
 have r₃:=r₂.keeps k₃
 cases p with
 | false=>exact wpAny_pure ⟨(hq rfl).symm,ktrans k₁ (ktrans k₂ k₃)⟩
 | true=>
  simp only [if_true]
  unfold testChain
  refine wpAny_bind (wpAny_holding (WPmono (hr rfl A s₃ f r₃) fun u s₄ ⟨hu,k₄⟩=>wpAny_bind (wpAny_standAt (wpAny_bind (wpAny_operating ?_)))))
  have r₄:=r₃.keeps k₄
  refine WPmono (h₂ rfl _ A s₄ y u f r₄.gl ((hy.keeps k₃).keeps k₄) hu) fun z s₅ w0=>?_
  obtain ⟨hz,k₅⟩:=w0
  w_dflts hz
  exact wpAny_holding (wpAny_truthy_bool ⟨rfl,ktrans k₁ (ktrans k₂ (ktrans k₃ (ktrans k₄ k₅)))⟩)
end
end Mine.Internal
end
section
namespace Mine.Internal
noncomputable abbrev St.set (σ:St) (x:Str) (v:V) : St:={ σ with loc:=(x,v) :: σ.loc }
noncomputable def Stores (c:Cx) (x:Str) : Prop:=c.env.kindOf x = some .local ∨ (c.env.kindOf x = some .cell ∧ (c.env.cells.lookup x).isSome = true)
section
variable {c:Cx} {k:Nat} {σ:St}
theorem lookup_set {x y:Str} {v v':V} {l:List (Str × V)} (h:((x,v) :: l).lookup y = some v') : (y = x ∧ v' = v) ∨ (y ≠ x ∧ l.lookup y = some v'):=by
 rw [List.lookup_cons] at h
 by_cases e : (y == x) = true
 ·rw [e] at h; exact .inl ⟨beq_iff_eq.mp e,(Option.some.inj h).symm⟩
 ·have e' : (y == x) = false:=by simpa using e
  rw [e'] at h; exact .inr ⟨fun q=>(by rw [q,beq_self_eq_true] at e'; cases e'),h⟩
theorem old_same {h₀ h h':Heap} (K:OldK h₀ h) {a:Addr} (ha:h₀.get? a = none) (hs:Heap.SameBut a h h') : OldK h₀ h':=by
 have ne : ∀ b o,h₀.get? b = some o → b ≠ a:=fun b o e q=>by rw [q,ha] at e; cases e
 refine ⟨fun b o e=>?_,fun b o e=>let ⟨o',ho'⟩:=K.there b o e; ⟨o',(hs.2 b (ne b o e)).trans ho'⟩⟩
 rcases K.old b o e with x | ⟨t,hc,vs,more,hv,x⟩ | ⟨rfl,hc,⟨o',es,n,ho',r⟩,z⟩
 ·exact .inl ((hs.2 b (ne b o e)).trans x)
 ·exact .inr (.inl ⟨t,hc,vs,more,hv,(hs.2 b (ne b o e)).trans x⟩)
 ·exact .inr (.inr ⟨rfl,hc,⟨o',es,n,(hs.2 _ (ne _ o e)).trans ho',r⟩,fun key=>by rw [OldK.staticOf_congr (hs.2 _ (ne _ o e)) key]; exact z key⟩)
theorem glob_same {w:World} {S0 s:Shared} (g:Glob w S0 s) {a:Addr} {h':Heap} {t:Nat} (ha:S0.heap.get? a = none) (hs:Heap.SameBut a s.heap h') (ht:s.toks ≤ t:=by first | exact Nat.le_refl _ | exact Nat.le_succ _ | (first | lia | omega)) : Glob w S0 { s with heap:=h',toks:=t }:=by
 refine ⟨g.base,old_same g.old ha hs,fun o e=>(hs.2 _ ?_).trans (g.st o e),g.os,g.bare,Nat.le_trans g.tok ht,g.tab.at fun P hP o e=>(hs.2 _ fun q=>?_).trans e⟩
 ·intro q
  rw [q,ha] at e; cases e
 ·have:=g.base.tab P hP
  rw [q,ha] at this; cases this
theorem mem_own_locals : c.env.locals ∈ own c σ:=.head _
theorem storeVar2 {x:Str} {v:V} {y:Value} {A:Around} {s:Shared} (r:R c σ s) (hy:VR c.S0 (msOf c σ) s v y) (hx:Stores c x) :
  WP c.w A (storeName c.env x y) (fun ζ s'=>(R c (σ.set x v) s' ∧ Step c σ s (σ.set x v) s') ∧ (c.env.kindOf x = some .local → ∃ h' tk,s' = { s with heap:=h',toks:=tk } ∧ s.toks ≤ tk ∧ Heap.SameBut c.env.locals s.heap h' ∧ ∃ o,h'.get? c.env.locals = some o)) s:=by
 obtain ⟨m,hm,hv⟩:=r.vars
 have hp : (c.env.scope.kind == .class || (c.env.scope.kind == .module && c.env.locals != c.env.globals)) = false:=by rw [r.eok.kind]; rfl
 rcases hx with hx | ⟨hx,hc⟩
 ·refine wpAny_storeName_local hx hm (fun h' hn hs=>?_) hp
  have up : ∀ s' : Shared,s'.heap = h' → Up (msOf c σ) (msOf c σ) s s':=fun s' es b o hb ζ e=>⟨hb,es ▸ (hs.2 b fun q=>hb (q ▸ memL _ mem_own_locals)).trans e⟩
  have hcell : ∀ p ∈ c.env.cells,p.2 ≠ c.env.locals:=fun p hp q=>by
   rcases (r.cells p hp).1 with h | ⟨_,o,h⟩
   ·exact r.disj _ mem_own_locals (q ▸ h)
   ·rw [q,(r.lo _ mem_own_locals).1] at h; cases h
  refine ⟨?_,fun ζ=>⟨h',_,rfl,Nat.le_succ _,hs,let ⟨o,_,_,e,_⟩:=hn; ⟨o,e⟩⟩⟩
  refine ⟨⟨glob_same r.glob (r.lo _ mem_own_locals).1 hs,r.eok,⟨_,hn,fun z u hz=>?_⟩,fun p hp=>⟨(r.cells p hp).1,?_⟩,r.apart,fun p hp=>?_,r.nd,r.disj,fun a ha=>?_,r.lo,r.clo⟩,⟨fun b o hb ζ e=>?_,fun a ha=>.inl ha,fun b o e=>?_,fun ζ=>rfl,rfl,by first | exact Nat.le_refl _ | exact Nat.le_succ _⟩⟩
  ·rcases lookup_set hz with ⟨rfl,rfl⟩ | ⟨hne,hz⟩
   ·exact .inl ⟨hx,y,by simp,hy.mono (up _ rfl) (by first | exact Nat.le_refl _ | exact Nat.le_succ _)⟩
   ·rcases hv z u hz with ⟨hk,y',hm',hr⟩ | ⟨hk,a,y',ha,hc,hr⟩
    ·exact .inl ⟨hk,y',by simp [hne,hm'],hr.mono (up _ rfl) (by first | exact Nat.le_refl _ | exact Nat.le_succ _)⟩
    ·exact .inr ⟨hk,a,y',ha,hc.sameBut hs (hcell _ (mem_of_lookup ha)),hr.mono (up _ rfl) (by first | exact Nat.le_refl _ | exact Nat.le_succ _)⟩
  ·obtain ⟨u,hu⟩:=(r.cells p hp).2; exact ⟨u,hu.sameBut hs (hcell p hp)⟩
  ·refine (r.mu p hp).mono (up _ rfl) (by first | exact Nat.le_refl _ | exact Nat.le_succ _) fun o e=>(hs.2 _ fun q=>?_).trans e
   exact (ndc r.nd).1 (q ▸ List.mem_map_of_mem hp)
  ·obtain ⟨o,e⟩:=r.live a ha
   exact ⟨o,(hs.2 a fun q=>r.disj _ mem_own_locals (q ▸ ha)).trans e⟩
  ·exact (hs.2 b fun q=>hb (q ▸ memL _ mem_own_locals)).trans e
  ·by_cases q : b = c.env.locals
   ·obtain ⟨ol,_,_,hl,_⟩:=hn; exact ⟨ol,q ▸ hl⟩
   ·exact ⟨o,(hs.2 b q).trans e⟩
 ·obtain ⟨a,ha⟩:=Option.isSome_iff_exists.mp hc
  have hmem:=mem_of_lookup ha
  obtain ⟨hout',v₀,hv₀⟩:=r.cells _ hmem
  have hout : a ∈ c.out:=by
   rcases hout' with h | ⟨h,_⟩
   ·exact h
   ·exact absurd hx h
  refine wpAny_storeName_cell r.eok.kind hx ha hv₀ fun h' hn hs=>?_
  have hms : a ∈ msOf c σ:=memR _ hout
  have up : ∀ s' : Shared,s'.heap = h' → Up (msOf c σ) (msOf c σ) s s':=fun s' es b o hb ζ e=>⟨hb,es ▸ (hs.2 b fun q=>hb (q ▸ hms)).trans e⟩
  have hloc : c.env.locals ≠ a:=fun q=>r.disj _ mem_own_locals (q ▸ hout)
  refine ⟨?_,fun hl=>by rw [hx] at hl; cases hl⟩
  refine ⟨⟨glob_same (t:=s.toks) r.glob (r.clo _ hmem hx).1 hs,r.eok,⟨m,hm.sameBut hs hloc,fun z u hz=>?_⟩,fun p hp=>⟨(r.cells p hp).1,?_⟩,r.apart,fun p hp=>?_,r.nd,r.disj,fun b hb=>?_,r.lo,r.clo⟩,⟨fun b o hb ζ e=>?_,fun a ha=>.inl ha,fun b o e=>?_,fun ζ=>rfl,rfl,by first | exact Nat.le_refl _ | exact Nat.le_succ _⟩⟩
  ·rcases lookup_set hz with ⟨rfl,rfl⟩ | ⟨hne,hz⟩
   ·exact .inr ⟨.inl hx,a,y,ha,hn,hy.mono (up _ rfl) (by first | exact Nat.le_refl _ | exact Nat.le_succ _)⟩
   ·rcases hv z u hz with ⟨hk,y',hm',hr⟩ | ⟨hk,b,y',hb,hc,hr⟩
    ·exact .inl ⟨hk,y',hm',hr.mono (up _ rfl) (by first | exact Nat.le_refl _ | exact Nat.le_succ _)⟩
    ·exact .inr ⟨hk,b,y',hb,hc.sameBut hs (fun q=>hne (name_of_addr r.apart (mem_of_lookup hb) (q ▸ hmem))),hr.mono (up _ rfl) (by first | exact Nat.le_refl _ | exact Nat.le_succ _)⟩
  ·by_cases q : p.2 = a
   ·exact ⟨_,q ▸ hn⟩
   ·obtain ⟨u,hu⟩:=(r.cells p hp).2; exact ⟨u,hu.sameBut hs q⟩
  ·refine (r.mu p hp).mono (up _ rfl) (by first | exact Nat.le_refl _ | exact Nat.le_succ _) fun o e=>(hs.2 _ fun q=>?_).trans e
   exact r.disj _ (.tail _ (List.mem_map_of_mem hp)) (q ▸ hout)
  ·by_cases q : b = a
   ·obtain ⟨o,e,_⟩:=hn; exact ⟨o,q ▸ e⟩
   ·obtain ⟨o,e⟩:=r.live b hb; exact ⟨o,(hs.2 b q).trans e⟩
  ·exact (hs.2 b fun q=>hb (q ▸ memR _ (mem_ownC hmem hx))).trans e
  ·by_cases q : b = a
   ·obtain ⟨o,e,_⟩:=hn; exact ⟨o,q ▸ e⟩
   ·exact ⟨o,(hs.2 b q).trans e⟩
theorem storeVar {x:Str} {v:V} {y:Value} {A:Around} {s:Shared} (r:R c σ s) (hy:VR c.S0 (msOf c σ) s v y) (hx:Stores c x) :
  WP c.w A (storeName c.env x y) (fun ζ s'=>R c (σ.set x v) s' ∧ Step c σ s (σ.set x v) s') s:=WPmono (storeVar2 r hy hx) fun ζ ζ h=>h.1
noncomputable def EM (c:Cx) (k:Nat) (σ:St) (e:Expr) (Q:V → St → Prop) : Prop:=∀ A s,Fit k A → R c σ s → WP c.w A (eval e c.env) (EmP c σ s Q) s
theorem EM.of {e:Expr} {v:V} {Q:V → St → Prop} (h:EV c k σ e v) (hQ:Q v σ) : EM c k σ e Q:=fun A s f r=>
 WPmono (h A s f r) fun x s' ⟨hx,k₁⟩=>⟨v,σ,hQ,r.keeps k₁,hx,.of_keeps k₁⟩
theorem EXs.nil {Q:AF → St → Prop} (h:Q .next σ) : EXs c k σ [] Q:=fun A s f r=>wpAny_execs_nil ⟨.next,σ,h,r,trivial,.refl c σ s⟩
noncomputable def Seq (c:Cx) (k:Nat) (rest:List Stmt) (Q:AF → St → Prop) (af:AF) (σ:St) : Prop:=match af with
 | .next=>EXs c k σ rest Q
 | af=>Q af σ
noncomputable def LoopQ (J:St → Prop) (Q:AF → St → Prop) (af:AF) (σ:St) : Prop:=match af with
 | .brk=>Q .next σ
 | .ret u=>Q (.ret u) σ
 | _=>J σ
theorem EXs.cons {st:Stmt} {rest:List Stmt} {Q:AF → St → Prop} (h:EX c k σ st (Seq c k rest Q)) : EXs c k σ (st :: rest) Q:=by
 intro A s f r
 refine wpAny_execs_cons (WPmono (h A s f r) fun fl s₁ w0=>?_)
 obtain ⟨af,σ₁,hQ,r₁,hf,st₁⟩:=w0
 cases af with
 | next=>
  cases fl with
  | next=>exact WPmono (hQ A s₁ f r₁) fun fl₂ s₂ ⟨af₂,σ₂,hQ₂,r₂,hf₂,st₂⟩=>⟨af₂,σ₂,hQ₂,r₂,hf₂,st₁.trans st₂⟩
  | _=>exact hf.elim
 | brk=>
  cases fl with
  | brk=>exact ⟨.brk,σ₁,hQ,r₁,trivial,st₁⟩
  | _=>exact hf.elim
 | cont=>
  cases fl with
  | cont=>exact ⟨.cont,σ₁,hQ,r₁,trivial,st₁⟩
  | _=>exact hf.elim
 | ret v=>
  cases fl with
  | ret x=>exact ⟨.ret v,σ₁,hQ,r₁,hf,st₁⟩
  | _=>exact hf.elim
theorem EX.assignM {x:Str} {xp pos:Pos} {e:Expr} {Q:AF → St → Prop} (h:EM c k σ e fun v σ'=>Q .next (σ'.set x v)) (hx:Stores c x)
  (hs:swapsWith e (some (.Name x xp)) pos.line c.env = pure false) : EX c k σ (.Assign [.Name x xp] e pos) Q:=by
 intro A s f r
 refine wpAny_Assign_Name (WPmono (h A s f r) fun y s₁ w0=>?_) hs
 obtain ⟨v,σ₁,hQ,r₁,hy,st₁⟩:=w0
 exact WPmono (storeVar r₁ hy hx) fun ζ s₂ ⟨r₂,st₂⟩=>⟨.next,_,hQ,r₂,trivial,st₁.trans st₂⟩
theorem EX.assign {x:Str} {xp pos:Pos} {e:Expr} {v:V} {Q:AF → St → Prop} (h:EV c k σ e v) (hx:Stores c x) (hQ:Q .next (σ.set x v))
  (hs:swapsWith e (some (.Name x xp)) pos.line c.env = pure false) : EX c k σ (.Assign [.Name x xp] e pos) Q:=.assignM (.of h hQ) hx hs
theorem EX.ret {e:Expr} {pos:Pos} {v:V} {Q:AF → St → Prop} (h:EV c k σ e v) (hQ:Q (.ret v) σ) : EX c k σ (.Return (some e) pos) Q:=fun A s f r=>
 wpAny_Return_some (WPmono (h A s f r) fun x s₁ ⟨hx,k₁⟩=>⟨.ret v,σ,hQ,r.keeps k₁,hx,.of_keeps k₁⟩)
theorem EX.retM {e:Expr} {pos:Pos} {Q:AF → St → Prop} (h:EM c k σ e fun v σ'=>Q (.ret v) σ') : EX c k σ (.Return (some e) pos) Q:=fun A s f r=>
 wpAny_Return_some (WPmono (h A s f r) fun x s₁ ⟨v,σ₁,hQ,r₁,hx,st₁⟩=>⟨.ret v,σ₁,hQ,r₁,hx,st₁⟩)
theorem EX.brk {pos:Pos} {Q:AF → St → Prop} (hQ:Q .brk σ) : EX c k σ (.Break pos) Q:=fun A s f r=>wpAny_Break ⟨.brk,σ,hQ,r,trivial,.refl c σ s⟩
theorem EX.cont {pos:Pos} {Q:AF → St → Prop} (hQ:Q .cont σ) : EX c k σ (.Continue pos) Q:=fun A s f r=>wpAny_Continue ⟨.cont,σ,hQ,r,trivial,.refl c σ s⟩
theorem EX.ite {test:Expr} {body orelse:List Stmt} {pos:Pos} {b:Bool} {Q:AF → St → Prop} (h:EVB c k σ test b) (ht:b = true → EXs c k σ body Q) (he:b = false → EXs c k σ orelse Q) : EX c k σ (.If test body orelse pos) Q:=by
 intro A s f r
 refine wpAny_If (WPmono (h A s f r) fun x s₁ w0=>?_)
 obtain ⟨hx,k₁⟩:=w0
 subst hx
 have r₁:=r.keeps k₁
 cases x with
 | true=>exact WPmono (ht rfl A s₁ f r₁) fun fl s₂ ⟨af,σ₂,hQ,r₂,hf,st₂⟩=>⟨af,σ₂,hQ,r₂,hf,(Step.of_keeps k₁).trans st₂⟩
 | false=>exact WPmono (he rfl A s₁ f r₁) fun fl s₂ ⟨af,σ₂,hQ,r₂,hf,st₂⟩=>⟨af,σ₂,hQ,r₂,hf,(Step.of_keeps k₁).trans st₂⟩
theorem R.weak {σ':St} {s:Shared} (r:R c σ s) (hm:σ'.mu = σ.mu) (hl:∀ x v,σ'.loc.lookup x = some v → σ.loc.lookup x = some v) : R c σ' s:=by
 obtain ⟨m,h1,h2⟩:=r.vars
 have e : own c σ' = own c σ:=by show _ :: σ'.mu.map _ = _; rw [hm]
 have e2 : msOf c σ' = msOf c σ:=by show own c σ' ++ _ = _; rw [e]
 refine ⟨r.glob,r.eok,⟨m,h1,fun x v h=>by rw [e2]; exact h2 x v (hl x v h)⟩,r.cells,r.apart,fun p hp=>by rw [e2]; exact r.mu p (hm ▸ hp),e ▸ r.nd,e ▸ r.disj,r.live,e ▸ r.lo,r.clo⟩
end
end Mine.Internal
end
section
namespace Mine.Internal
noncomputable def FN (w:World) (S0:Shared) (k:Nat) (f:Addr) (vs:List V) (v:V) : Prop:=OPn w S0 k (fun xs=>call (.ref f) xs) vs v
theorem zip_ind {P:List Str → List Value → Prop} (h0:∀ xs,P [] xs) (h1:∀ n ns,P (n :: ns) []) (h2:∀ n ns x xs,P ns xs → P (n :: ns) (x :: xs)) : ∀ (ns:List Str) (xs:List Value),P ns xs:=fun ns=>by
 induction ns with
 | nil=>exact h0
 | cons n ns ih=>exact fun xs=>List.casesOn (motive:=fun xs=>P (n :: ns) xs) xs (h1 n ns) fun x xs=>h2 n ns x xs (ih xs)
theorem bindL_miss {kf:Str → Option NameKind} {x:Str} : ∀ (ns:List Str) (xs:List Value) {m:Str → Option Value},x ∉ ns → bindL kf (ns.zip xs) m x = m x:=
 zip_ind (fun ζ ζ ζ=>rfl) (fun ζ ζ ζ ζ=>rfl) fun n ns y xs ih m h=>by
  show bindL kf (ns.zip xs) _ x = _
  rw [ih fun q=>h (.tail _ q)]
  split
  ·exact if_neg fun q=>h (by rw [q]; exact .head _)
  ·rfl
theorem bindC_miss {kf:Str → Option NameKind} {x:Str} : ∀ (ns:List Str) (xs:List Value) {m:Str → Option Value},x ∉ ns → bindC kf (ns.zip xs) m x = m x:=
 zip_ind (fun ζ ζ ζ=>rfl) (fun ζ ζ ζ ζ=>rfl) fun n ns y xs ih m h=>by
  show bindC kf (ns.zip xs) _ x = _
  rw [ih fun q=>h (.tail _ q)]
  split
  ·rfl
  ·exact if_neg fun q=>h (by rw [q]; exact .head _)
theorem bindL_hit {kf:Str → Option NameKind} {x:Str} {y:Value} (hk:kf x = some .local) : ∀ (ns:List Str) (xs:List Value) {m:Str → Option Value},ns.Nodup → (ns.zip xs).lookup x = some y → bindL kf (ns.zip xs) m x = some y:=
 zip_ind (fun ζ ζ ζ h=>nomatch h) (fun ζ ζ ζ ζ h=>nomatch h) fun n ns z xs ih m hn h=>by
  have hn:=ndc hn
  rw [List.zip_cons_cons,List.lookup_cons] at h
  show bindL kf (ns.zip xs) _ x = _
  cases e : x == n with
  | true=>
   rw [e] at h; cases h
   cases eq_of_beq e
   rw [bindL_miss _ _ hn.1,if_pos hk,if_pos rfl]
  | false=>rw [e] at h; exact ih hn.2 h
theorem bindC_hit {kf:Str → Option NameKind} {x:Str} {y:Value} (hk:kf x ≠ some .local) : ∀ (ns:List Str) (xs:List Value) {m:Str → Option Value},ns.Nodup → (ns.zip xs).lookup x = some y → bindC kf (ns.zip xs) m x = some y:=
 zip_ind (fun ζ ζ ζ h=>nomatch h) (fun ζ ζ ζ ζ h=>nomatch h) fun n ns z xs ih m hn h=>by
  have hn:=ndc hn
  rw [List.zip_cons_cons,List.lookup_cons] at h
  show bindC kf (ns.zip xs) _ x = _
  cases e : x == n with
  | true=>
   rw [e] at h; cases h
   cases eq_of_beq e
   rw [bindC_miss _ _ hn.1,if_neg hk,if_pos rfl]
  | false=>rw [e] at h; exact ih hn.2 h
theorem zip_lookup {S:Shared} {ms:List Addr} {h:Shared} {x:Str} {v:V} {ns:List Str} {vs:List V} {xs:List Value} (r:VRs S ms h vs xs) (e:(ns.zip vs).lookup x = some v) : ∃ y,(ns.zip xs).lookup x = some y ∧ VR S ms h v y:=by
 induction ns generalizing vs xs with
 | nil=>cases e
 | cons n ns ih=>
  cases r with
  | nil=>cases e
  | cons a r=>
   rw [List.zip_cons_cons,List.lookup_cons] at e ⊢
   cases q : x == n with
   | true=>rw [q] at e; cases e; exact ⟨_,rfl,a⟩
   | false=>rw [q] at e; exact ih r e
theorem lookup_mem {α:Type} {x:Str} {ns:List Str} {xs:List α} {y:α} (e:(ns.zip xs).lookup x = some y) : x ∈ ns:=by
 induction ns generalizing xs with
 | nil=>cases e
 | cons n ns ih=>
  cases xs with
  | nil=>cases e
  | cons z xs=>
   rw [List.zip_cons_cons,List.lookup_cons] at e
   cases q : x == n with
   | true=>rw [beq_iff_eq.mp q]; exact .head _
   | false=>rw [q] at e; exact .tail _ (ih e)
noncomputable abbrev envF (qual:Str) (scope:Scope) (L f:Addr) (cd:Value) : Env:=newEnv scope L mainGlobals (cellsFrom (L + 1) scope.names []) (qual ++ ".<locals>.") (some f) cd none builtinsNs
noncomputable def BackM (Q:V → List (Addr × MO) → Prop) (af:AF) (σ:St) : Prop:=match af with | .ret u=>Q u σ.mu | .next=>Q .none σ.mu | _=>False
noncomputable abbrev Back (v:V) : AF → St → Prop:=BackM fun u ζ=>u = v
noncomputable abbrev adr (mu:List (Addr × MO)) : List Addr:=mu.map (·.1)
structure GM (w:World) (S0:Shared) (ms:List Addr) (mu:List (Addr × MO)) (s:Shared) : Prop where
 glob : Glob w S0 s
 live : Live ms s.heap
 muok : ∀ p ∈ mu,MR w S0 (adr mu ++ ms) s p.1 p.2
 nd : (adr mu).Nodup
 disj : ∀ a ∈ adr mu,a ∉ ms
 lo : ∀ a ∈ adr mu,Lo S0 a
structure StepM (gen:Bool) (mu:List (Addr × MO)) (s:Shared) (mu':List (Addr × MO)) (s':Shared) : Prop where
 kept : ∀ b o,b ∉ adr mu → Gk gen b o → s.heap.get? b = some o → s'.heap.get? b = some o
 fresh : ∀ a ∈ adr mu',a ∈ adr mu ∨ s.heap.get? a = none
 there : ∀ b o,s.heap.get? b = some o → ∃ o',s'.heap.get? b = some o'
 gens : gen = false → s'.gens = s.gens
 drawn : s'.drawn = s.drawn
 toks : s.toks ≤ s'.toks
inductive FnP (w:World) (S0:Shared) (ms:List Addr) (gen:Bool) (mu:List (Addr × MO)) (s:Shared) (Q:V → List (Addr × MO) → Prop) (z:Value) (s':Shared) : Prop
 | mk (v:V) (mu':List (Addr × MO)) : Q v mu' → GM w S0 ms mu' s' → VR S0 (adr mu' ++ ms) s' v z → StepM gen mu s mu' s' → FnP w S0 ms gen mu s Q z s'
noncomputable def FNM (w:World) (S0:Shared) (k:Nat) (gen:Bool) (t:List Value → Sem Value) (vs:List V) (mu:List (Addr × MO)) (Q:V → List (Addr × MO) → Prop) : Prop:=
 ∀ ms A s xs,Fit k A → GM w S0 ms mu s → VRs S0 (adr mu ++ ms) s vs xs → WP w A (t xs) (FnP w S0 ms gen mu s Q) s
section
variable {w:World} {S0:Shared} {k:Nat}
theorem S0_none {s:Shared} (g:Glob w S0 s) {a:Addr} (h:s.heap.objs.size ≤ a) : S0.heap.get? a = none:=by
 cases e : S0.heap.get? a with
 | none=>rfl
 | some o=>obtain ⟨o',e'⟩:=g.old.there a o e; exact absurd (Heap.lt_size e') (Nat.not_lt.mpr h)
theorem K0_304 (P:Params) : ((Mine.Internal.hd.heap_1 P).lookup 304).isSome = true:=by kernel_rfl
theorem Glob.lo {s:Shared} (g:Glob w S0 s) {a:Addr} (h:s.heap.objs.size ≤ a) : Lo S0 a:=by
 refine ⟨S0_none g h,?_⟩
 obtain ⟨o,e⟩:=Option.isSome_iff_exists.mp (K0_304 w.params)
 obtain ⟨o',e'⟩:=g.old.there _ _ (g.base.X _ _ e)
 exact Nat.lt_of_lt_of_le (Heap.lt_size e') h
theorem MR.live' {S:Shared} {ms:List Addr} {h:Shared} {a:Addr} {o:MO} (r:MR w S ms h a o) : a < h.heap.objs.size:=let ⟨_,e⟩:=r.live; Heap.lt_size e
theorem enter_core {A:Around} {s s₁:Shared} {ms:List Addr} {mu:List (Addr × MO)} {gen:Bool} {env:Env} {oc:List Addr} {loc:List (Str × V)} {m:Str → Option Value} {body:List Stmt} {Q:AF → St → Prop} {R':Result → Shared → Prop}
  (g:GM w S0 ms mu s) (kk:Kp s s₁) (eok:EnvOk env) (hloc:env.locals = s.heap.objs.size) (hns:s₁.heap.Ns env.locals m)
  (hv:∀ x v,loc.lookup x = some v → VarAt env s₁.heap m x (VR S0 (adr mu ++ ms) s v))
  (hcl:∀ p ∈ env.cells,((p.2 ∈ oc) ∨ (env.kindOf p.1 ≠ some .cell ∧ ∃ o,S0.heap.get? p.2 = some o)) ∧ ∃ v,s₁.heap.IsCell p.2 v)
  (hoc:∀ a ∈ oc,s.heap.objs.size < a ∧ ∃ o,s₁.heap.get? a = some o) (hap:env.cells.Pairwise fun x y=>x.2 ≠ y.2) (ft:Fit k A)
  (body_ok:EXs ⟨w,S0,env,oc ++ ms,gen⟩ k ⟨loc,mu⟩ body Q)
  (hR:∀ fl s' σ' af,Q af σ' → R ⟨w,S0,env,oc ++ ms,gen⟩ σ' s' → FR S0 (msOf ⟨w,S0,env,oc ++ ms,gen⟩ σ') s' af fl → StepM gen mu s σ'.mu s' → R' (.ok (.ret (match fl with | .ret v=>v | _=>.none))) s') :
  wpAny (model P0 w) A (execs body env) (fun fl s'=>R' (.ok (.ret (match fl with | .ret v=>v | _=>.none))) s') (fun ζ ζ=>False) s₁:=by
 have glob₁:=g.glob.keeps kk
 have lt_mu : ∀ a ∈ adr mu,a < s.heap.objs.size:=fun a ha=>by
  obtain ⟨p,hp,rfl⟩:=memm ha; exact (g.muok p hp).live'
 have lt_ms : ∀ a ∈ ms,a < s.heap.objs.size:=fun a ha=>let ⟨_,e⟩:=g.live a ha; Heap.lt_size e
 have up : Up (adr mu ++ ms) (msOf ⟨w,S0,env,oc ++ ms,gen⟩ ⟨loc,mu⟩) s s₁:=fun b o hb ζ e=>by
  refine ⟨fun q=>?_,kget kk e⟩
  have hlt:=Heap.lt_size e
  rcases mema q with q | q
  ·rcases memc q with rfl | q
   ·rw [hloc] at hlt; exact Nat.lt_irrefl _ hlt
   ·exact hb (memL _ q)
  ·rcases mema q with q | q
   ·exact Nat.lt_irrefl _ (Nat.lt_trans (hoc b q).1 hlt)
   ·exact hb (memR _ q)
 have r₁ : R ⟨w,S0,env,oc ++ ms,gen⟩ ⟨loc,mu⟩ s₁:=by
  refine ⟨glob₁,eok,⟨m,hns,fun x v e=>(hv x v e).keeps (fun ζ ζ e=>e) fun y hy=>hy.mono up kk.t⟩,fun p hp=>?_,hap,fun p hp=>?_,?_,fun a ha=>?_,fun a ha=>?_,fun a ha=>?_,fun p hp hk=>?_⟩
  ·obtain ⟨h1,h2⟩:=hcl p hp
   exact ⟨h1.imp (fun h=>memL _ h) id,h2⟩
  ·exact (g.muok p hp).mono up kk.t fun o e=>kget kk e
  ·refine ndk ⟨fun q=>?_,g.nd⟩
   have:=lt_mu _ q
   rw [hloc] at this; exact Nat.lt_irrefl _ this
  ·intro q
   rcases memc ha with rfl | ha
   ·rcases mema q with q | q
    ·have:=(hoc _ q).1; rw [hloc] at this; exact Nat.lt_irrefl _ this
    ·have:=lt_ms _ q; rw [hloc] at this; exact Nat.lt_irrefl _ this
   ·rcases mema q with q | q
    ·exact Nat.lt_irrefl _ (Nat.lt_trans (hoc _ q).1 (lt_mu _ ha))
    ·exact g.disj _ ha q
  ·rcases mema ha with q | q
   ·exact (hoc _ q).2
   ·obtain ⟨o,e⟩:=g.live a q; exact ⟨o,kget kk e⟩
  ·rcases memc ha with rfl | q
   ·exact g.glob.lo (Nat.le_of_eq hloc.symm)
   ·exact g.lo _ q
  ·obtain ⟨h1,h2⟩:=hcl p hp
   rcases h1 with h | ⟨h,_⟩
   ·exact g.glob.lo (Nat.le_of_lt (hoc _ h).1)
   ·exact absurd hk h
 refine wpAny_mono (body_ok A s₁ ft r₁) (fun fl s' w0=>?_) fun ζ ζ x=>x.elim
 obtain ⟨af,σ',hQ,r',hf,st⟩:=w0
 refine hR fl s' σ' af hQ r' hf ⟨fun b o hb hg e=>st.kept b o (fun q=>?_) hg (kget kk e),fun a ha=>?_,fun b o e=>st.there b o (kget kk e),fun hg=>?_,?_,Nat.le_trans kk.t st.toks⟩
 ·have hlt:=Heap.lt_size e
  rcases mema q with q | q
  ·rcases memc q with rfl | q
   ·exact Nat.lt_irrefl _ (hloc ▸ hlt)
   ·exact hb q
  ·obtain ⟨p,hp,rfl,hk⟩:=of_mem_ownC q
   rcases (hcl p hp).1 with h | ⟨h,_⟩
   ·exact Nat.lt_irrefl _ (Nat.lt_trans (hoc _ h).1 hlt)
   ·exact h hk
 ·rcases st.fresh a ha with h | h
  ·exact .inl h
  ·right
   cases e : s.heap.get? a with
   | none=>rfl
   | some o=>rw [kget kk e] at h; cases h
 ·obtain ⟨⟨h₁,tk,rfl,_⟩,_⟩:=kk; exact st.gens hg
 ·obtain ⟨⟨h₁,tk,rfl,_⟩,_⟩:=kk; exact st.drawn
theorem enter_call {A:Around} {s:Shared} {ms:List Addr} {mu:List (Addr × MO)} {gen:Bool} {f:Addr} {name qual:Str} {params:Arguments} {body:List Stmt} {scope:Scope} {dV kV doc pm cdv ct oc:Value} {an od:Option Addr} {osl:Array (Option Value)} {ns:List Str} {vs:List V} {xs ys:List Value} {Q:AF → St → Prop} {R':Result → Shared → Prop}
  (hK:(K1 w).lookup f = some ⟨oc,od,.func (fnOf name qual params body scope dV kV doc pm an cdv ct),osl⟩) (hcd:codeIn (K1 w) cdv qual = true) (hbind:BindsTo s (fnOf name qual params body scope dV kV doc pm an cdv ct) ⟨ys,[]⟩ (ns.zip xs))
  (hkind:(ns.all fun y=>scope.names.lookup y == some .local || scope.names.lookup y == some .cell) = true) (hns:ns.Nodup) (hnd:((cellsFrom 0 scope.names []).map (·.1)).Nodup)
  (hco:scope.isCoroutine = false) (hgen:scope.isGenerator = false) (hk:scope.kind = .function)
  (ft:Fit (k + 1) A) (g:GM w S0 ms mu s) (hx:VRs S0 (adr mu ++ ms) s vs xs)
  (body_ok:∀ L out,EXs ⟨w,S0,envF qual scope L f cdv,out,gen⟩ k ⟨ns.zip vs,mu⟩ body Q)
  (hR:∀ fl s' c σ' af,Q af σ' → R c σ' s' → (∀ a ∈ ms,a ∈ c.out) → c.gen = gen → FR c.S0 (msOf c σ') s' af fl → StepM gen mu s σ'.mu s' → c.w = w → c.S0 = S0 → R' (.ok (.ret (match fl with | .ret v=>v | _=>.none))) s') :
  codeAny (model P0 w) A (.call (.ref f) ⟨ys,[]⟩) R' s:=by
 refine codeAny_call_function (fd:=fnOf name qual params body scope dV kV doc pm an cdv ct) (body:=body) ft.room (g.glob.X1 _ _ hK) rfl hco hgen rfl (codeRec_of g.glob.X1 hcd) (hbind _ _ _ _ (wpAny_with_toks (Nat.le_refl _) ?_))
 have hkind' : ((ns.zip xs).all fun y=>scope.names.lookup y.1 == some .local || scope.names.lookup y.1 == some .cell) = true:=by
  rw [List.all_eq_true] at hkind ⊢
  intro y hy
  exact hkind y.1 (List.of_mem_zip hy).1
 refine wpAny_newFunctionEnv_cells hk (kindsX hkind' _) fun env he s₁ x htk=>?_
 have hkeep:=x.toInCall.keep
 obtain ⟨h₁,tk,hs₁⟩:=x.toInCall.same
 have kk : Kp s s₁:=⟨⟨h₁,tk,hs₁,fun b o e=>by have:=hkeep b o e; rwa [hs₁] at this⟩,htk⟩
 refine ⟨(g.glob.keeps kk).limit,codeAny_func ?_⟩
 have hcells : env.cells = cellsFrom (s.heap.objs.size + 1) scope.names []:=by rw [he]; rfl
 have hloc : env.locals = s.heap.objs.size:=by rw [he]; rfl
 have hnd' : (env.cells.map (·.1)).Nodup:=by rw [hcells]; exact cellsFrom_names scope.names 0 (s.heap.objs.size + 1) [] [] rfl ▸ hnd
 have ok:=enter_core (A:=A.deeper env) (oc:=env.cells.map (·.2)) (loc:=ns.zip vs) (R':=R') g kk ⟨by rw [he]; exact hk,by rw [he]; rfl,by rw [he]; rfl⟩ hloc x.toInCall.ns (fun y v hv=>?_) (fun p hp=>⟨.inl (List.mem_map_of_mem hp),_,x.cell p.1 p.2 (lookup_of_mem_nodup hnd' hp)⟩) (fun a ha=>?_) x.apart ft.deeper
  (by have:=body_ok s.heap.objs.size (env.cells.map (·.2) ++ ms); rw [he] at this ⊢; exact this) (fun fl s' σ' af hQ r hf st=>hR fl s' _ σ' af hQ r (fun a ha=>memR _ ha) rfl hf st rfl rfl)
 ·exact wpAny_mono ok (fun ζ ζ h=>h) fun ζ ζ h=>h.elim
 ·obtain ⟨z,hz,hr⟩:=zip_lookup hx hv
  have hm:=lookup_mem hz
  have hkk:=List.all_eq_true.mp hkind y hm
  have ek : env.kindOf y = scope.names.lookup y:=by rw [he]; rfl
  by_cases hl : env.kindOf y = some .local
  ·exact .inl ⟨hl,z,bindL_hit hl _ _ hns hz,hr⟩
  ·have hc : scope.names.lookup y = some .cell:=by
    rcases Bool.or_eq_true_iff.mp hkk with q | q
    ·exact absurd (ek.trans (by simpa using q)) hl
    ·simpa using q
   obtain ⟨c,hc'⟩:=Option.isSome_iff_exists.mp (by rw [hcells]; exact cellsFrom_some scope.names (s.heap.objs.size + 1) [] (.inl hc) : (env.cells.lookup y).isSome = true)
   exact .inr ⟨.inl (ek.trans hc),c,z,hc',by rw [← bindC_hit (m:=fun ζ=>none) hl _ _ hns hz]; exact x.cell y c hc',hr⟩
 ·obtain ⟨p,hp,rfl⟩:=memm ha
  have h1:=x.above p.1 p.2 hp
  rw [hloc] at h1
  obtain ⟨o,e,_⟩:=x.cell p.1 p.2 (lookup_of_mem_nodup hnd' hp)
  exact ⟨h1,o,e⟩
theorem backM {ms:List Addr} {mu:List (Addr × MO)} {gen:Bool} {Q:V → List (Addr × MO) → Prop} {c:Cx} {σ':St} {af:AF} {fl:Flow} {s s':Shared} (hms:∀ a ∈ ms,a ∈ c.out) (hQ:BackM Q af σ') (r:R c σ' s') (hf:FR c.S0 (msOf c σ') s' af fl) (st:StepM gen mu s σ'.mu s') (live:Live ms s.heap) :
  FnP c.w c.S0 ms gen mu s Q (match (generalizing:=false) fl with | .ret v=>v | _=>.none) s':=by
 have low : ∀ b,b ∉ msOf c σ' → b ∉ adr σ'.mu ++ ms:=fun b hb q=>by
  rcases mema q with q | q
  ·exact hb (memL _ (.tail _ q))
  ·exact hb (memR _ (hms _ q))
 have gm : GM c.w c.S0 ms σ'.mu s':=⟨r.glob,fun a ha=>let ⟨o,e⟩:=live a ha; st.there a o e,fun p hp=>(r.mu p hp).mono (fun b o hb ζ e=>⟨low b hb,e⟩) (Nat.le_refl _) fun o e=>e,(ndc r.nd).2,fun a ha q=>r.disj a (.tail _ ha) (hms _ q),fun a ha=>r.lo a (.tail _ ha)⟩
 cases af with
 | next=>
  cases fl with
  | next=>exact ⟨.none,σ'.mu,hQ,gm,.none,st⟩
  | _=>exact hf.elim
 | brk=>exact hQ.elim
 | cont=>exact hQ.elim
 | ret u=>
  cases fl with
  | ret y=>exact ⟨u,σ'.mu,hQ,gm,VR.mono (fun b o hb ζ e=>⟨low b hb,e⟩) (Nat.le_refl _) hf,st⟩
  | _=>exact hf.elim
structure FI where
 qual : Str
 scope : Scope
 f : Addr
 cd : Value
structure FX where
 L : Addr
 out : List Addr
noncomputable abbrev cF (I:FI) (gen:Bool) (w:World) (S0:Shared) (X:FX) : Cx:=⟨w,S0,envF I.qual I.scope X.L I.f I.cd,X.out,gen⟩
theorem args0 {α:Type} {P:List α → Prop} (h:P []) (xs:List α) (e:xs.length = 0) : P xs:=by rw [List.eq_nil_of_length_eq_zero e]; exact h
theorem argsS {α:Type} {P:List α → Prop} {n:Nat} (h:∀ x xs,xs.length = n → P (x :: xs)) (xs:List α) (e:xs.length = n + 1) : P xs:=by
 cases xs with
 | nil=>cases e
 | cons x xs=>exact h x xs (Nat.succ.inj e)
theorem args1 {α:Type} {P:List α → Prop} (h:∀ x,P [x]) : ∀ xs,xs.length = 1 → P xs:=argsS fun x=>args0 (h x)
theorem args2 {α:Type} {P:List α → Prop} (h:∀ x y,P [x,y]) : ∀ xs,xs.length = 2 → P xs:=argsS fun x=>args1 (P:=fun l=>P (x :: l)) (h x)
theorem args3 {α:Type} {P:List α → Prop} (h:∀ x y z,P [x,y,z]) : ∀ xs,xs.length = 3 → P xs:=argsS fun x=>args2 (P:=fun l=>P (x :: l)) (h x)
theorem args4 {α:Type} {P:List α → Prop} (h:∀ x y z u,P [x,y,z,u]) : ∀ xs,xs.length = 4 → P xs:=argsS fun x=>args3 (P:=fun l=>P (x :: l)) (h x)
theorem args5 {α:Type} {P:List α → Prop} (h:∀ x y z u v,P [x,y,z,u,v]) : ∀ xs,xs.length = 5 → P xs:=argsS fun x=>args4 (P:=fun l=>P (x :: l)) (h x)
theorem FNM.intro {gen:Bool} {f:Addr} {name qual:Str} {params:Arguments} {body:List Stmt} {scope:Scope} {dV kV doc pm cdv ct oc:Value} {an od:Option Addr} {osl:Array (Option Value)} {ns:List Str} {vs:List V} {mu:List (Addr × MO)} {Q:V → List (Addr × MO) → Prop}
  (hK:(K1 w).lookup f = some ⟨oc,od,.func (fnOf name qual params body scope dV kV doc pm an cdv ct),osl⟩) (hcd:codeIn (K1 w) cdv qual = true) (hbind:∀ xs : List Value,xs.length = vs.length → bindArgs (fnOf name qual params body scope dV kV doc pm an cdv ct) ⟨xs,[]⟩ = pure (ns.zip xs))
  (hkind:(ns.all fun y=>scope.names.lookup y == some .local || scope.names.lookup y == some .cell) = true) (hns:ns.Nodup) (hnd:((cellsFrom 0 scope.names []).map (·.1)).Nodup)
  (hco:scope.isCoroutine = false) (hgen:scope.isGenerator = false) (hk:scope.kind = .function)
  (body_ok:∀ X : FX,EXs (cF ⟨qual,scope,f,cdv⟩ gen w S0 X) k ⟨ns.zip vs,mu⟩ body (BackM Q)) : FNM w S0 (k + 1) gen (fun xs=>call (.ref f) xs) vs mu Q:=by
 intro ms A s xs ft g hx
 refine wpAny_call (enter_call (gen:=gen) hK hcd (.of_eq (hbind xs hx.length)) hkind hns hnd hco hgen hk ft g hx (fun L out=>body_ok ⟨L,out⟩) ?_)
 intro fl s' c σ' af hQ r hms hg hf st hw hS
 subst hw hS
 exact backM hms hQ r hf st g.live
theorem StepM.keeps {mu':List (Addr × MO)} {s s':Shared} (st:StepM false [] s mu' s') (hos:s'.os = s.os) : Kp s s':=by
 refine ⟨⟨s'.heap,s'.toks,?_,fun b o e=>st.kept b o (fun q=>nomatch q) (fun q=>by w_dflts q) e⟩,st.toks⟩
 have h1:=st.gens rfl
 have h2:=st.drawn
 cases s'; cases s; simp only at *; subst h1 h2 hos; rfl
theorem FN.of_FNM {f:Addr} {vs:List V} {v:V} (h:FNM w S0 k false (fun xs=>call (.ref f) xs) vs [] (fun u ζ=>u = v)) : FN w S0 k f vs v:=by
 intro ms A s xs ft g hx
 refine WPmono (h ms A s xs ft ⟨g.glob,g.live,fun p hp=>(nomatch hp),.nil,fun a ha=>(by cases ha),fun a ha=>(by cases ha)⟩ hx) fun z s' w0=>?_
 obtain ⟨u,mu',hu,gm,hv,st⟩:=w0
 subst hu
 exact ⟨hv.mono (fun b o hb ζ e=>⟨fun q=>hb (memR _ q),e⟩) (Nat.le_refl _),st.keeps (by rw [gm.glob.os,g.glob.os])⟩
theorem FN.intro {f:Addr} {name qual:Str} {params:Arguments} {body:List Stmt} {scope:Scope} {dV kV doc pm cdv ct oc:Value} {an od:Option Addr} {osl:Array (Option Value)} {ns:List Str} {vs:List V} {v:V}
  (hK:(K1 w).lookup f = some ⟨oc,od,.func (fnOf name qual params body scope dV kV doc pm an cdv ct),osl⟩) (hcd:codeIn (K1 w) cdv qual = true) (hbind:∀ xs : List Value,xs.length = vs.length → bindArgs (fnOf name qual params body scope dV kV doc pm an cdv ct) ⟨xs,[]⟩ = pure (ns.zip xs))
  (hkind:(ns.all fun y=>scope.names.lookup y == some .local || scope.names.lookup y == some .cell) = true) (hns:ns.Nodup) (hnd:((cellsFrom 0 scope.names []).map (·.1)).Nodup)
  (hco:scope.isCoroutine = false) (hgen:scope.isGenerator = false) (hk:scope.kind = .function)
  (body_ok:∀ X : FX,EXs (cF ⟨qual,scope,f,cdv⟩ false w S0 X) k ⟨ns.zip vs,[]⟩ body (Back v)) : FN w S0 (k + 1) f vs v:=
 .of_FNM (.intro hK hcd hbind hkind hns hnd hco hgen hk body_ok)
theorem FN.mono {k':Nat} {f:Addr} {vs:List V} {v:V} (h:FN w S0 k f vs v) (hk:k ≤ k') : FN w S0 k' f vs v:=fun ms A s xs ft g hx=>h ms A s xs (ft.mono hk) g hx
theorem FNM.mono {k':Nat} {gen:Bool} {t:List Value → Sem Value} {vs:List V} {mu:List (Addr × MO)} {Q:V → List (Addr × MO) → Prop} (h:FNM w S0 k gen t vs mu Q) (hk:k ≤ k') : FNM w S0 k' gen t vs mu Q:=fun ms A s xs ft g hx=>h ms A s xs (ft.mono hk) g hx
end
end Mine.Internal
end
section
namespace Mine.Internal
section
variable {w:World} {S0:Shared} {k:Nat}
theorem op_add {a b:Int} : OP2 w S0 k (binaryOp .Add) (.int a) (.int b) (.int (a + b)):=fun ζ ζ ζ ζ ζ ζ g hx hy=>by
 w_dflts hx; w_dflts hy; exact P.add_int ⟨.int _ _,ktoks _⟩
theorem op_sub {a b:Int} : OP2 w S0 k (binaryOp .Sub) (.int a) (.int b) (.int (a - b)):=fun ζ ζ ζ ζ ζ ζ g hx hy=>by
 w_dflts hx; w_dflts hy; exact P.sub_int ⟨.int _ _,ktoks _⟩
theorem op_mul {a b:Int} (h:IntMulOk a b) : OP2 w S0 k (binaryOp .Mult) (.int a) (.int b) (.int (a * b)):=fun ζ ζ ζ ζ ζ ζ g hx hy=>by
 w_dflts hx; w_dflts hy; exact P.mul_int ⟨.int _ _,ktoks _⟩ h
theorem op_mod {a b:Int} (h:b ≠ 0) : OP2 w S0 k (binaryOp .Mod) (.int a) (.int b) (.int (a.fmod b)):=fun ζ ζ ζ ζ ζ ζ g hx hy=>by
 w_dflts hx; w_dflts hy; exact AutoIntOps.mod_1 (by simpa using h) ⟨.int _ _,ktoks _⟩
theorem op_floordiv {a b:Int} (h:b ≠ 0) (h2:Builtin.divisionGoesByPylong a b = false) : OP2 w S0 k (binaryOp .FloorDiv) (.int a) (.int b) (.int (a.fdiv b)):=fun ζ ζ ζ ζ ζ ζ g hx hy=>by
 w_dflts hx; w_dflts hy; exact AutoIntOps.floordiv_1 (by simpa using h) (by rw [h2]; exact Bool.false_ne_true) ⟨.int _ _,ktoks _⟩
theorem op_neg {a:Int} : OP1 w S0 k (unaryOp .USub) (.int a) (.int (-a)):=fun ζ ζ ζ ζ ζ g hx=>by
 w_dflts hx; exact P.neg_int ⟨.int _ _,ktoks _⟩
theorem op_div {a b:Int} (h:b ≠ 0) (h2:Float64.isInf (Float64.ofFrac (decide (a < 0) != decide (b < 0)) a.natAbs b.natAbs) = false) : OP2 w S0 k (binaryOp .Div) (.int a) (.int b) (.flt (Float64.ofFrac (decide (a < 0) != decide (b < 0)) a.natAbs b.natAbs)):=fun ζ ζ ζ ζ ζ ζ g hx hy=>by
 w_dflts hx; w_dflts hy; exact AutoIntOps.truediv_2 (by simpa using h) (by rw [h2]; exact Bool.false_ne_true) ⟨.flt _ _ g.glob.tok (Nat.lt_succ_self _),ktoks _⟩
theorem op_fsub {a b:UInt64} : OP2 w S0 k (binaryOp .Sub) (.flt a) (.flt b) (.flt (Float64.sub a b)):=fun ζ ζ ζ ζ ζ ζ g hx hy=>by
 w_dflts hx; w_dflts hy; exact AutoFloatOps.sub_0 ⟨.flt _ _ g.glob.tok (Nat.lt_succ_self _),ktoks _⟩
theorem op_fadd {a b:UInt64} : OP2 w S0 k (binaryOp .Add) (.flt a) (.flt b) (.flt (Float64.add a b)):=fun ζ ζ ζ ζ ζ ζ g hx hy=>by
 w_dflts hx; w_dflts hy; exact AutoFloatOps.add_0 ⟨.flt _ _ g.glob.tok (Nat.lt_succ_self _),ktoks _⟩
theorem op_fdiv {a b:UInt64} (h:Float64.isZero b = false) : OP2 w S0 k (binaryOp .Div) (.flt a) (.flt b) (.flt (Float64.div a b)):=fun ζ ζ ζ ζ ζ ζ g hx hy=>by
 w_dflts hx; w_dflts hy; exact AutoFloatOps.truediv_1 (by rw [h]; exact Bool.false_ne_true) ⟨.flt _ _ g.glob.tok (Nat.lt_succ_self _),ktoks _⟩
theorem op_fmod {a b:UInt64} (h:Float64.isZero b = false) : OP2 w S0 k (binaryOp .Mod) (.flt a) (.flt b) (.flt (Float64.divmod a b).snd):=fun ζ ζ ζ ζ ζ ζ g hx hy=>by
 w_dflts hx; w_dflts hy; exact AutoFloatOps.mod_1 (by rw [h]; exact Bool.false_ne_true) ⟨.flt _ _ g.glob.tok (Nat.lt_succ_self _),ktoks _⟩
theorem op_eq {a b:Int} : OP2 w S0 k (compareOp .Eq) (.int a) (.int b) (.bool (a == b)):=fun ζ ζ ζ ζ ζ ζ g hx hy=>by
 w_dflts hx; w_dflts hy; exact P.eq_int ⟨.bool _,krefl _⟩
theorem op_ne {a b:Int} : OP2 w S0 k (compareOp .NotEq) (.int a) (.int b) (.bool (a != b)):=fun ζ ζ ζ ζ ζ ζ g hx hy=>by
 w_dflts hx; w_dflts hy; exact P.ne_int ⟨.bool _,krefl _⟩
theorem op_lt {a b:Int} : OP2 w S0 k (compareOp .Lt) (.int a) (.int b) (.bool (decide (a < b))):=fun ζ ζ ζ ζ ζ ζ g hx hy=>by
 w_dflts hx; w_dflts hy; exact P.lt_int ⟨.bool _,krefl _⟩
theorem op_gt {a b:Int} : OP2 w S0 k (compareOp .Gt) (.int a) (.int b) (.bool (decide (a > b))):=fun ζ ζ ζ ζ ζ ζ g hx hy=>by
 w_dflts hx; w_dflts hy; exact P.gt_int ⟨.bool _,krefl _⟩
theorem op_ge {a b:Int} : OP2 w S0 k (compareOp .GtE) (.int a) (.int b) (.bool (decide (a ≥ b))):=fun ζ ζ ζ ζ ζ ζ g hx hy=>by
 w_dflts hx; w_dflts hy; exact P.ge_int ⟨.bool _,krefl _⟩
theorem opt_int {a:Int} : OPT w S0 k (.int a) (a != 0):=fun ζ ζ ζ ζ ζ g hx=>by
 w_dflts hx; exact P.truthy_int ⟨rfl,krefl _⟩
theorem opt_bool {a:Bool} : OPT w S0 k (.bool a) a:=fun ζ ζ ζ ζ ζ g hx=>by
 w_dflts hx; exact wpAny_truthy_bool ⟨rfl,krefl _⟩
end
mutual
inductive Eqv (fl:Bool) : Nat → V → V → Bool → Prop
 | int (n:Nat) (a b:Int) : Eqv fl n (.int a) (.int b) (a == b)
 | str (n:Nat) (a b:Str) : Eqv fl n (.str a) (.str b) (a == b)
 | none (n:Nat) : Eqv fl n .none .none true
 | none_int (n:Nat) (b:Int) : Eqv fl n .none (.int b) false
 | flt (n:Nat) (a b:UInt64) : fl = true → (a = b → (Float64.cmp a b == some Ordering.eq) = true) → Eqv fl n (.flt a) (.flt b) (Float64.cmp a b == some Ordering.eq)
 | flt_int (n:Nat) (a:UInt64) (b:Int) : Eqv fl n (.flt a) (.int b) (Float64.cmpInt a b == some Ordering.eq)
 | tup {n:Nat} {xs ys:List V} {r:Bool} : Eqvs fl n xs ys r → Eqv fl (n + 1) (.tup xs) (.tup ys) r
 | lst {n:Nat} {xs ys:List V} {r:Bool} : Eqvs fl n xs ys r → Eqv fl (n + 1) (.lst xs) (.lst ys) r
inductive Eqvs (fl:Bool) : Nat → List V → List V → Bool → Prop
 | nil (n:Nat) : Eqvs fl n [] [] true
 | left (n:Nat) (x:V) (xs:List V) : Eqvs fl n (x :: xs) [] false
 | right (n:Nat) (x:V) (xs:List V) : Eqvs fl n [] (x :: xs) false
 | cons {n:Nat} {x y:V} {xs ys:List V} {a b:Bool} : Eqv fl n x y a → Eqvs fl n xs ys b → Eqvs fl n (x :: xs) (y :: ys) (a && b)
end
structure Older (fl:Bool) (S:Shared) (s:Shared) (S' s':Shared) : Prop where
 heap : s.heap = s'.heap
 old : fl = true → s.toks ≤ S'.toks ∧ 0 < S.toks
 booked : NoneBooked s'.heap
theorem rc_flt {A:Around} {s:Shared} (a:UInt64) (t:Tok) (b:UInt64) (u:Tok) : SeqAt.RcAt A s (.float a t) (.float b u) (Float64.cmp a b == some Ordering.eq):=fun prog w E Q h=>
 AutoFloatOps.eq_0 h
theorem rc_flt_int {A:Around} {s:Shared} (a:UInt64) (t:Tok) (b:Int) (u:Tok) : SeqAt.RcAt A s (.float a t) (.int b u) (Float64.cmpInt a b == some Ordering.eq):=fun prog w E Q h=>
 SeqAt.rc_left_or (typeIs_float s a t) (typeIs_int s b u) (by decide) (by rw [isSubtype_type]; kernel_rfl) F.slot_float_eq
  (call_gives F.slot_float_eq (typeIs_float s a t) F.entry_float_eq (F.args_float_eq_2 _ _) (AutoFloatG6.float___eq___float_int_0 a t b u) ⟨nofun,h⟩) (.inl rfl)
noncomputable def nFlt : Value → Bool
 | .float ..=>false
 | _=>true
theorem eq_of_rc {A:Around} {s:Shared} {x y:Value} {r:Bool} (hn:nFlt x = true) (h:SeqAt.RcAt A s x y r) (hs:x = y → r = true) : SeqAt.EqAt A s x y r:=fun prog w E Q hq=>by
 unfold eqBool
 refine wpAny_holding ?_
 refine wpAny_ite_split (fun hab=>?_) (fun ζ=>?_)
 ·rw [hs (eq_of_beq hab)] at hq
  exact wpAny_bind (wpAny_rule (wpAny_pure hq))
 ·cases x with
  | float=>cases hn
  | _=>exact wpAny_bind (h prog w E _ (wpAny_truthy_bool hq))
theorem eq_flt {A:Around} {s:Shared} {a b:UInt64} {t u:Tok} (ht:t ≠ 0) (hu:u ≠ 0) (htu:t ≠ u) (hb:NoneBooked s.heap) (hn:a = b → (Float64.cmp a b == some Ordering.eq) = true) : SeqAt.EqAt A s (.float a t) (.float b u) (Float64.cmp a b == some Ordering.eq):=fun prog w E Q hq=>by
 unfold eqBool
 refine wpAny_holding ?_
 refine wpAny_ite_split (fun hab=>?_) (fun ζ=>?_)
 ·have:=eq_of_beq hab
  injection this with h1 h2
  exact absurd h2 htu
 ·have rest : wpAny (model prog w) A (do truthOfDropped (← richCompare .Eq (.float a t) (.float b u))) Q E s:=wpAny_bind (rc_flt a t b u prog w E _ (wpAny_truthy_bool hq))
  show wpAny (model prog w) A (do if ← isSame (.float a t) (.float b u) then pure true else (do truthOfDropped (← richCompare .Eq (.float a t) (.float b u)))) Q E s
  refine wpAny_bind ?_
  show wpAny _ A (isSame.created (a == b && !Float64.isNaN a) t u) _ E s
  unfold isSame.created
  have h0 : (t == 0 || u == 0) = false:=by simp [ht,hu]
  have h1 : (t == u) = false:=by simpa using htu
  rw [h0,h1]
  refine wpAny_ite_false rfl (wpAny_ite_false rfl ?_)
  cases hab : (a == b && !Float64.isNaN a) with
  | false=>
   refine wpAny_ite_true rfl ?_
   exact wpAny_pure (by simpa using rest)
  | true=>
   refine wpAny_ite_false rfl ?_
   refine wpAny_bind (wpAny_sharingNotTold_none hb ?_)
   refine wpAny_ite_false rfl ?_
   refine wpAny_bind (wpAny_sharingNotTold_none hb ?_)
   refine wpAny_ite_false rfl ?_
   refine wpAny_bind (wpAny_rule (wpAny_bind (wpAny_askSetting (wpAny_pure ?_))))
   have hab' : a = b:=by
    have:=(Bool.and_eq_true _ _ ▸ hab:(a == b) = true ∧ _).1
    exact beq_iff_eq.mp this
   rw [hn hab'] at hq
   split
   ·exact wpAny_pure hq
   ·exact wpAny_bind (rc_flt a t b u prog w E _ (wpAny_truthy_bool (by rw [hn hab']; exact hq)))
theorem all_range_get : ∀ (bs:List Bool),(List.range bs.length).all (fun j=>bs[j]?.getD false) = bs.all id
 | []=>rfl
 | b :: bs=>by
  rw [List.length_cons,List.range_succ_eq_map,List.all_cons,List.all_map,List.all_cons]
  have:=all_range_get bs
  rw [← this]; rfl
noncomputable def EqP1 (S S':Shared) (ms:List Addr) (s' s:Shared) (n:Nat) (a b:V) (r:Bool) : Prop:=
 ∀ x y,VR S ms s' a x → VR S' ms s b y → (x = y → r = true) ∧ ∀ A : Around,A.units + n < cLine → SeqAt.RcAt A s x y r ∧ SeqAt.EqAt A s x y r
structure EqAll (A:Around) (s:Shared) (xs ys:List Value) (r:Bool) (bs:List Bool) : Prop where
 len : bs.length = min xs.length ys.length
 eq : r = (bs.all id && xs.length == ys.length)
 at' : ∀ j (h1:j < xs.length) (h2:j < ys.length),SeqAt.EqAt A s xs[j] ys[j] (bs[j]?.getD false)
theorem EqAll.min {A:Around} {s:Shared} {xs ys:Array Value} {r:Bool} {bs:List Bool} (h:EqAll A s xs.toList ys.toList r bs) : Min.min xs.size ys.size = bs.length:=by rw [h.len,Array.length_toList,Array.length_toList]
theorem EqAll.eqs {A:Around} {s:Shared} {xs ys:Array Value} {r:Bool} {bs:List Bool} (h:EqAll A s xs.toList ys.toList r bs) : r = (bs.all id && xs.size == ys.size):=h.eq
noncomputable def EqP2 (S S':Shared) (ms:List Addr) (s' s:Shared) (n:Nat) (a b:List V) (r:Bool) : Prop:=
 ∀ xs ys,VRs S ms s' a xs → VRs S' ms s b ys → (xs = ys → r = true) ∧ ∀ A : Around,A.units + n < cLine → ∃ bs,EqAll A s xs ys r bs
theorem units_in {A:Around} {n:Nat} (h:A.units + (n + 1) < cLine) : A.in1.units + n < cLine:=by
 show A.units + 1 + n < cLine
 w_left
theorem units_le {A:Around} {n:Nat} (h:A.units + (n + 1) < cLine) : A.units < cLine:=by w_left
theorem eq_flt_int {A:Around} {s:Shared} (a:UInt64) (t:Tok) (b:Int) (u:Tok) : SeqAt.EqAt A s (.float a t) (.int b u) (Float64.cmpInt a b == some Ordering.eq):=fun prog w E Q hq=>by
 unfold eqBool
 refine wpAny_holding (wpAny_ite_split (fun hab=>absurd (eq_of_beq hab) nofun) (fun ζ=>?_))
 exact wpAny_bind (rc_flt_int _ _ _ _ prog w E _ (wpAny_truthy_bool hq))
theorem EqP2.tup {fl:Bool} {S S':Shared} {ms:List Addr} {s' s:Shared} (O:Older fl S s' S' s) {n:Nat} {a b:List V} {r:Bool} (h:EqP2 S S' ms s' s n a b r) : EqP1 S S' ms s' s (n + 1) (.tup a) (.tup b) r:=by
 intro x y p q
 cases p.inv with | @mk l xs _ g _ ra=>
 cases q.inv with | @mk m ys _ g' _ rb=>
 rw [O.heap] at g
 have hs : Value.ref l = Value.ref m → r = true:=fun e=>by
  cases e
  rw [g] at g'
  cases g'
  exact (h _ _ ra rb).1 rfl
 refine ⟨hs,fun A hu=>?_⟩
 obtain ⟨bs,hb⟩:=(h _ _ ra rb).2 A.in1 (units_in hu)
 have rc:=SeqAt.RcAt.tuples (A:=A) (e:=fun j=>bs[j]?.getD false) (s:=s) ⟨_,g,rfl,_,rfl⟩ ⟨_,g',rfl,_,rfl⟩ (units_le hu) (fun j h1 h2=>hb.at' j (Array.length_toList ▸ h1) (Array.length_toList ▸ h2))
 rw [hb.min,all_range_get,← hb.eqs] at rc
 exact ⟨rc,eq_of_rc rfl rc hs⟩
theorem EqP2.lst {fl:Bool} {S S':Shared} {ms:List Addr} {s' s:Shared} (O:Older fl S s' S' s) {n:Nat} {a b:List V} {r:Bool} (h:EqP2 S S' ms s' s n a b r) : EqP1 S S' ms s' s (n + 1) (.lst a) (.lst b) r:=by
 intro x y p q
 cases p.inv with | @mk l xs _ g _ ra=>
 cases q.inv with | @mk m ys _ g' _ rb=>
 rw [O.heap] at g
 have hs : Value.ref l = Value.ref m → r = true:=fun e=>by
  cases e
  rw [g] at g'
  cases g'
  exact (h _ _ ra rb).1 rfl
 refine ⟨hs,fun A hu=>?_⟩
 obtain ⟨bs,hb⟩:=(h _ _ ra rb).2 A.in1 (units_in hu)
 have e:=hb.eqs
 have rc : SeqAt.RcAt A s (.ref l) (.ref m) r:=by
  by_cases hq : xs.size = ys.size
  ·have rc:=SeqAt.RcAt.lists (A:=A) (e:=fun j=>bs[j]?.getD false) (s:=s) ⟨_,g,rfl,_,rfl⟩ ⟨_,g',rfl,_,rfl⟩ hq (units_le hu) (fun j h1 h2=>hb.at' j (Array.length_toList ▸ h1) (Array.length_toList ▸ h2))
   rw [show xs.size = bs.length by rw [← hb.min,← hq,Nat.min_self],all_range_get] at rc
   rw [hq,beq_self_eq_true,Bool.and_true] at e
   rw [e]; exact rc
  ·have rc:=SeqAt.RcAt.lists_lengths (A:=A) (s:=s) (l:=_) (b:=_) ⟨_,g,rfl,_,rfl⟩ ⟨_,g',rfl,_,rfl⟩ (bne_iff_ne.mpr hq) (units_le hu)
   rw [beq_eq_false_iff_ne.mpr hq,Bool.and_false] at e
   rw [e]; exact rc
 exact ⟨rc,eq_of_rc rfl rc hs⟩
theorem EqP2.cons {S S':Shared} {ms:List Addr} {s' s:Shared} {n:Nat} {x y:V} {xs ys:List V} {a b:Bool} (h:EqP1 S S' ms s' s n x y a) (hs:EqP2 S S' ms s' s n xs ys b) : EqP2 S S' ms s' s n (x :: xs) (y :: ys) (a && b):=by
 intro us vs p q
 cases p with | @cons _ _ _ us p ps=>
 cases q with | @cons _ _ _ vs q qs=>
 obtain ⟨h1,h2⟩:=h _ _ p q
 obtain ⟨h3,h4⟩:=hs _ _ ps qs
 refine ⟨fun e=>by injection e with e1 e2; rw [h1 e1,h3 e2]; rfl,fun A hu=>?_⟩
 obtain ⟨bs,hb⟩:=h4 A hu
 refine ⟨a :: bs,⟨?_,?_,fun j j1 j2=>?_⟩⟩
 ·rw [List.length_cons,List.length_cons,List.length_cons,hb.len,Nat.succ_min_succ]
 ·rw [hb.eq,List.all_cons,List.length_cons,List.length_cons,Bool.and_assoc,show (us.length + 1 == vs.length + 1) = (us.length == vs.length) from by rw [Bool.eq_iff_iff,beq_iff_eq,beq_iff_eq,Nat.add_right_cancel_iff]]; rfl
 ·cases j with
  | zero=>exact (h2 A hu).2
  | succ j=>exact hb.at' j (Nat.lt_of_succ_lt_succ j1) (Nat.lt_of_succ_lt_succ j2)
theorem eqs_nil {A:Around} {s:Shared} {xs ys:List Value} (h:xs = [] ∨ ys = []) : EqAll A s xs ys (xs.length == ys.length) []:=by
 rcases h with rfl | rfl
 ·exact ⟨(Nat.zero_min _).symm,rfl,fun j h=>absurd h (Nat.not_lt_zero _)⟩
 ·exact ⟨(Nat.min_zero _).symm,rfl,fun j ζ h=>absurd h (Nat.not_lt_zero _)⟩
theorem eqp_flt {fl:Bool} {S S':Shared} {ms:List Addr} {s' s:Shared} (O:Older fl S s' S' s) (n:Nat) (a b:UInt64) (hf:fl = true) (hn:a = b → (Float64.cmp a b == some Ordering.eq) = true) : EqP1 S S' ms s' s n (.flt a) (.flt b) (Float64.cmp a b == some Ordering.eq):=by
 intro x y p q
 cases p.inv with | mk _ h0 h1=>
 cases q.inv with | mk _ h2 h3=>
 obtain ⟨h4,h5⟩:=O.old hf
 have hlt:=Nat.lt_of_lt_of_le (Nat.lt_of_lt_of_le h1 h4) h2
 exact ⟨fun e=>by cases e; exact absurd hlt (Nat.lt_irrefl _),fun A ζ=>⟨rc_flt _ _ _ _,eq_flt (Nat.ne_of_gt (Nat.lt_of_lt_of_le h5 h0)) (Nat.ne_of_gt (Nat.lt_of_le_of_lt (Nat.zero_le _) hlt)) (Nat.ne_of_lt hlt) O.booked hn⟩⟩
section
variable {S S':Shared} {ms:List Addr} {s' s:Shared}
theorem eqp_int (n:Nat) (a b:Int) : EqP1 S S' ms s' s n (.int a) (.int b) (a == b):=by
 intro x y p q; w_dflts p; w_dflts q; exact ⟨fun e=>by cases e; exact beq_self_eq_true _,fun A ζ=>⟨SeqAt.RcAt.int_int _ _ _ _,SeqAt.EqAt.int_int _ _ _ _⟩⟩
theorem eqp_str (n:Nat) (a b:Str) : EqP1 S S' ms s' s n (.str a) (.str b) (a == b):=by
 intro x y p q; w_dflts p; w_dflts q; exact ⟨fun e=>by cases e; exact beq_self_eq_true _,fun A ζ=>⟨SeqAt.RcAt.str_str _ _ _ _,SeqAt.EqAt.str_str _ _ _ _⟩⟩
theorem eqp_none (n:Nat) : EqP1 S S' ms s' s n .none .none true:=by
 intro x y p q; w_dflts p; w_dflts q; exact ⟨fun ζ=>rfl,fun A ζ=>⟨SeqAt.RcAt.none_none,SeqAt.EqAt.same _⟩⟩
theorem eqp_none_int (n:Nat) (b:Int) : EqP1 S S' ms s' s n .none (.int b) false:=by
 intro x y p q; w_dflts p; w_dflts q; exact ⟨nofun,fun A ζ=>⟨SeqAt.RcAt.none_int _ _,SeqAt.EqAt.none_int _ _⟩⟩
theorem eqp_flt_int (n:Nat) (a:UInt64) (b:Int) : EqP1 S S' ms s' s n (.flt a) (.int b) (Float64.cmpInt a b == some Ordering.eq):=by
 intro x y p q; w_dflts p; w_dflts q; exact ⟨nofun,fun A ζ=>⟨rc_flt_int _ _ _ _,eq_flt_int _ _ _ _⟩⟩
end
theorem Eqvs.all {fl:Bool} {S S':Shared} {ms:List Addr} {s' s:Shared} (O:Older fl S s' S' s) {n:Nat} {a b:List V} {r:Bool} (h:Eqvs fl n a b r) : EqP2 S S' ms s' s n a b r:=by
 refine Eqvs.rec (motive_1:=fun n a b r ζ=>EqP1 S S' ms s' s n a b r) (motive_2:=fun n a b r ζ=>EqP2 S S' ms s' s n a b r) eqp_int eqp_str eqp_none eqp_none_int (eqp_flt O) eqp_flt_int (fun ζ h=>EqP2.tup O h) (fun ζ h=>EqP2.lst O h) ?_ ?_ ?_ (fun ζ ζ h1 h2=>EqP2.cons h1 h2) h
 ·intro n xs ys p q; w_dflts p; w_dflts q; exact ⟨fun ζ=>rfl,fun A ζ=>⟨[],eqs_nil (.inl rfl)⟩⟩
 ·intro n x xs us vs p q; w_dflts p; w_dflts q; exact ⟨nofun,fun A ζ=>⟨[],eqs_nil (.inr rfl)⟩⟩
 ·intro n x xs us vs p q; w_dflts p; w_dflts q; exact ⟨nofun,fun A ζ=>⟨[],eqs_nil (.inl rfl)⟩⟩
theorem Eqv.rc {fl:Bool} {S S':Shared} {ms:List Addr} {s' s:Shared} (O:Older fl S s' S' s) {n:Nat} {a b:V} {r:Bool} {x y:Value} {A:Around} (hu:A.units + n < cLine) (h:Eqv fl n a b r) (p:VR S ms s' a x) (q:VR S' ms s b y) : SeqAt.RcAt A s x y r:=by
 have h : EqP1 S S' ms s' s n a b r:=by
  cases h with
  | int=>exact eqp_int _ _ _
  | str=>exact eqp_str _ _ _
  | none=>exact eqp_none _
  | none_int=>exact eqp_none_int _ _
  | flt _ _ _ hf hn=>exact eqp_flt O _ _ _ hf hn
  | flt_int=>exact eqp_flt_int _ _ _
  | tup e=>exact (e.all O).tup O
  | lst e=>exact (e.all O).lst O
 exact ((h x y p q).2 A hu).1
section
variable {w:World} {S0:Shared} {k:Nat}
theorem Glob.booked {s:Shared} (g:Glob w S0 s) : NoneBooked s.heap:=by
 have e : nsIn (K1 w) cStatics sharingNotToldKey = some none:=by kernel_rfl
 obtain ⟨p,l,mg,mb,T⟩:=g.base.T
 obtain ⟨mc,⟨o,es,ep,ho,hd,h1,hf⟩,hn⟩:=T.nolimit
 have ho':=g.st o ho
 refine ⟨mc,⟨o,es,ep,ho',hd,h1,hf⟩,?_⟩
 unfold nsIn at e
 split at e
 ·rename_i c d es' n' sl q
  have:=g.X1 _ _ q
  rw [ho'] at this
  cases this
  cases hd
  split at e
  ·cases e
  ·rename_i he
   rw [← hf]
   unfold nsFind findBy
   rw [← Array.find?_toList,he]
   rfl
 ·cases e
theorem Fit.un2 {k n:Nat} {A:Around} (f:Fit k A) (h:n ≤ 50) : A.units + n < cLine:=by have:=f.un; unfold cLine; w_left
theorem op_eqv {n:Nat} {a b:V} {r:Bool} (e:Eqv false n a b r) (hn:n ≤ 50:=by decide) : OP2 w S0 k (compareOp .Eq) a b (.bool r):=fun ms A s x y f g hx hy=>
 Eqv.rc ⟨rfl,fun h=>Bool.noConfusion h,g.glob.booked⟩ (f.un2 hn) e hx hy _ _ _ _ ⟨.bool _,krefl _⟩
theorem op_ne_str {a b:Str} : OP2 w S0 k (compareOp .NotEq) (.str a) (.str b) (.bool (!(a == b))):=fun ms A s x y f g hx hy=>by
 w_dflts hx; w_dflts hy; exact P.ne_str ⟨by rw [show (a.cps.toList != b.cps.toList) = !(a == b) from by rw [← SeqAt.str_beq]; rfl]; exact .bool _,krefl _⟩
theorem op_fne {a b:UInt64} : OP2 w S0 k (compareOp .NotEq) (.flt a) (.flt b) (.bool (Float64.cmp a b != some Ordering.eq)):=fun ms A s x y f g hx hy=>by
 w_dflts hx; w_dflts hy; exact AutoFloatOps.ne_0 ⟨.bool _,krefl _⟩
theorem rcne_tup {fl:Bool} {S S' s s':Shared} {ms:List Addr} (O:Older fl S s' S' s) {n:Nat} {a b:List V} {r:Bool} {x y:Value} {A:Around} (hu:A.units + (n + 1) < cLine) (e:Eqvs fl n a b r) (hx:VR S ms s' (.tup a) x) (hy:VR S' ms s (.tup b) y) : SeqAt.RcNeAt A s x y (!r):=by
 cases hx.inv with | @mk _ xs _ g _ ra=>
 cases hy.inv with | @mk _ ys _ g' _ rb=>
 rw [O.heap] at g
 obtain ⟨bs,hb⟩:=(e.all O _ _ ra rb).2 A.in1 (units_in hu)
 have rc:=SeqAt.RcNeAt.tuples (A:=A) (e:=fun j=>bs[j]?.getD false) (s:=s) ⟨_,g,rfl,_,rfl⟩ ⟨_,g',rfl,_,rfl⟩ (units_le hu) (fun j h1 h2=>hb.at' j (Array.length_toList ▸ h1) (Array.length_toList ▸ h2))
 rw [hb.min,all_range_get] at rc
 rw [hb.eqs]; exact rc
theorem rcne_lst {fl:Bool} {S S' s s':Shared} {ms:List Addr} (O:Older fl S s' S' s) {n:Nat} {a b:List V} {r:Bool} {x y:Value} {A:Around} (hu:A.units + (n + 1) < cLine) (e:Eqvs fl n a b r) (hx:VR S ms s' (.lst a) x) (hy:VR S' ms s (.lst b) y) : SeqAt.RcNeAt A s x y (!r):=by
 cases hx.inv with | @mk _ xs _ g _ ra=>
 cases hy.inv with | @mk _ ys _ g' _ rb=>
 rw [O.heap] at g
 obtain ⟨bs,hb⟩:=(e.all O _ _ ra rb).2 A.in1 (units_in hu)
 have e:=hb.eqs
 by_cases hq : xs.size = ys.size
 ·have rc:=SeqAt.RcNeAt.lists (A:=A) (e:=fun j=>bs[j]?.getD false) (s:=s) ⟨_,g,rfl,_,rfl⟩ ⟨_,g',rfl,_,rfl⟩ hq (units_le hu) (fun j h1 h2=>hb.at' j (Array.length_toList ▸ h1) (Array.length_toList ▸ h2))
  rw [show xs.size = bs.length by rw [← hb.min,← hq,Nat.min_self],all_range_get] at rc
  rw [hq,beq_self_eq_true,Bool.and_true] at e
  rw [e]; exact rc
 ·have rc:=SeqAt.RcNeAt.lists_lengths (A:=A) (s:=s) ⟨_,g,rfl,_,rfl⟩ ⟨_,g',rfl,_,rfl⟩ (bne_iff_ne.mpr hq) (units_le hu)
  rw [beq_eq_false_iff_ne.mpr hq,Bool.and_false] at e
  rw [e]; exact rc
theorem op_ne_tup {n:Nat} {a b:List V} {r:Bool} (e:Eqvs false n a b r) (hn:n ≤ 40:=by decide) : OP2 w S0 k (compareOp .NotEq) (.tup a) (.tup b) (.bool (!r)):=fun ms A s x y f g hx hy=>
 rcne_tup ⟨rfl,fun h=>Bool.noConfusion h,g.glob.booked⟩ (f.un2 (n:=n + 1) (Nat.le_trans (Nat.succ_le_succ hn) (by decide))) e hx hy _ _ _ _ ⟨.bool _,krefl _⟩
theorem op_ne_lst {n:Nat} {a b:List V} {r:Bool} (e:Eqvs false n a b r) (hn:n ≤ 40:=by decide) : OP2 w S0 k (compareOp .NotEq) (.lst a) (.lst b) (.bool (!r)):=fun ms A s x y f g hx hy=>
 rcne_lst ⟨rfl,fun h=>Bool.noConfusion h,g.glob.booked⟩ (f.un2 (n:=n + 1) (Nat.le_trans (Nat.succ_le_succ hn) (by decide))) e hx hy _ _ _ _ ⟨.bool _,krefl _⟩
end
end Mine.Internal
end
section
namespace Mine.Internal
structure Chg (wr:List Addr) (s s':Shared) : Prop where
 same : ∃ h' tk,s' = { s with heap:=h',toks:=tk }
 kept : ∀ b o,b ∉ wr → s.heap.get? b = some o → s'.heap.get? b = some o
 there : ∀ b o,s.heap.get? b = some o → ∃ o',s'.heap.get? b = some o'
 toks : s.toks ≤ s'.toks
theorem Chg.of_kp {wr:List Addr} {s s':Shared} (k:Kp s s') : Chg wr s s':=⟨by obtain ⟨⟨h,t,e,_⟩,_⟩:=k; exact ⟨h,t,e⟩,fun ζ ζ ζ e=>kget k e,fun ζ o e=>⟨o,kget k e⟩,k.t⟩
theorem Chg.trans {wr:List Addr} {a b c:Shared} (x:Chg wr a b) (y:Chg wr b c) : Chg wr a c:=by
 refine ⟨?_,fun d o hd e=>y.kept d o hd (x.kept d o hd e),fun d o e=>let ⟨o',e'⟩:=x.there d o e; y.there d o' e',Nat.le_trans x.toks y.toks⟩
 obtain ⟨h,t,rfl⟩:=x.same
 obtain ⟨h',t',rfl⟩:=y.same
 exact ⟨h',t',rfl⟩
theorem Chg.up {wr ms:List Addr} {s s':Shared} (x:Chg wr s s') (h:∀ a ∈ wr,a ∈ ms) : Up ms ms s s':=fun b o hb ζ e=>⟨hb,x.kept b o (fun q=>hb (h b q)) e⟩
structure NewC (s s':Shared) (b:Addr) : Prop where
 none : s.heap.get? b = none
 hi : 304 < b
 there : ∃ o,s'.heap.get? b = some o
theorem NewC.ne {s s':Shared} {b:Addr} (h:NewC s s' b) {o:Obj} (e:s.heap.get? b = some o) : False:=by rw [h.none] at e; cases e
structure Chg0 (wr:List Addr) (s s':Shared) : Prop where
 same : ∃ h' tk,s' = { s with heap:=h',toks:=tk }
 kept : ∀ b o,b ∉ wr → s.heap.get? b = some o → s'.heap.get? b = some o
 toks : s.toks ≤ s'.toks
inductive DrP (S0:Shared) (vs:List V) (wr:List Addr) (St:Nat → List Addr → Shared → Prop) (i:Nat) (ms:List Addr) (s:Shared) (x:Value) (s':Shared) : Prop
 | mk (v:V) : vs[i]? = some v → VR S0 ms s' v x → St (i + 1) ms s' → Chg wr s s' → DrP S0 vs wr St i ms s x s'
structure Itr (w:World) (A:Around) (S0:Shared) (t:Expr) (vs:List V) (I:Addr) (wr:List Addr) (St:Nat → List Addr → Shared → Prop) : Prop where
 frame : ∀ i ms ms' s s',St i ms s → Up ms ms' s s' → s.toks ≤ s'.toks → (∀ b ∈ wr,∀ o,s.heap.get? b = some o → s'.heap.get? b = some o) → St i ms' s'
 item : ∀ i ms s,i < vs.length → St i ms s → GL w S0 ms s → (∀ b ∈ wr,b ∈ ms) →
  WP w A (pyNext (.ref I)) (fun r s₁=>∃ x,r = some x ∧ WP w A (letOwnedTupleGo t (.ref I) x) (fun ζ s'=>DrP S0 vs wr St i ms s x s') s₁) s
 done : ∀ ms s,St vs.length ms s → GL w S0 ms s → WP w A (pyNext (.ref I)) (fun r s'=>r = none ∧ Chg0 wr s s') s
 self : ∀ i ms s,St i ms s → GL w S0 ms s → WP w A (pyIter (.ref I)) (fun x s'=>x = .ref I ∧ s' = s) s
inductive ItP (w:World) (A:Around) (S0:Shared) (t:Expr) (vs:List V) (ms:List Addr) (s s₁:Shared) (it:Value) (s₂:Shared) : Prop
 | mk (kk:Kp s₁ s₂) (I:Addr) (wr:List Addr) (St:Nat → List Addr → Shared → Prop) : it = .ref I → Itr w A S0 t vs I wr St → St 0 (wr ++ ms) s₂ → (∀ b ∈ wr,NewC s s₂ b) → ItP w A S0 t vs ms s s₁ it s₂
noncomputable def SRC (c:Cx) (k:Nat) (σ:St) (iter t:Expr) (vs:List V) : Prop:=∀ A s,Fit k A → R c σ s →
 WP c.w A (eval iter c.env) (fun x s₁=>Kp s s₁ ∧ WP c.w A (pyIter x) (ItP c.w A c.S0 t vs (msOf c σ) s s₁) s₁) s
noncomputable def ITER (w:World) (S0:Shared) (k:Nat) (t:Expr) (a:V) (vs:List V) : Prop:=∀ ms A s x,Fit k A → GL w S0 ms s → VR S0 ms s a x →
 WP w A (pyIter x) (ItP w A S0 t vs ms s s) s
theorem Kp.size {s s':Shared} (k:Kp s s') {b:Addr} (h:s'.heap.objs.size ≤ b) : ∀ o,s.heap.get? b ≠ some o:=fun o e=>absurd (Heap.lt_size (kget k e)) (Nat.not_lt.mpr h)
section
variable {w:World} {S0:Shared} {k:Nat} {c:Cx} {σ:St}
theorem Step.up {σ':St} {s s':Shared} (r:R c σ s) (st:Step c σ s σ' s') : Up (msOf c σ) (msOf c σ') s s':=fun b o hb hc e=>by
 refine ⟨fun q=>?_,st.kept b o (fun q=>?_) (fun ζ ζ=>hc) e⟩
 ·rcases mema q with q | q
  ·rcases memc q with rfl | q
   ·exact hb (memL _ (.head _))
   ·rcases st.fresh b q with h | h
    ·exact hb (memL _ (.tail _ h))
    ·rw [e] at h; cases h
  ·exact hb (memR _ q)
 ·rcases mema q with q | q
  ·exact hb (memL _ q)
  ·obtain ⟨p,hp,rfl,hk⟩:=of_mem_ownC q
   rcases (r.cells p hp).1 with h | ⟨h,_⟩
   ·exact hb (memR _ h)
   ·exact h hk
theorem R.wide {wr:List Addr} {s s':Shared} (r:R c σ s) (kk:Kp s s') (hw:∀ b ∈ wr,NewC s s' b) : R (c.wo (wr ++ c.out)) σ s':=by
 have r':=r.keeps kk
 have hlt : ∀ a ∈ own c σ,∃ o,s.heap.get? a = some o:=fun a ha=>r.liveMs a (memL _ ha)
 have up : Up (msOf c σ) (msOf (c.wo (wr ++ c.out)) σ) s s':=fun b o hb ζ e=>by
  refine ⟨fun q=>?_,kget kk e⟩
  rcases mema q with q | q
  ·exact hb (memL _ q)
  ·rcases mema q with q | q
   ·exact (hw b q).ne e
   ·exact hb (memR _ q)
 obtain ⟨m,hm,hv⟩:=r.vars
 refine ⟨r'.glob,r.eok,⟨m,hm.keeps (kall kk),fun x v e=>(hv x v e).keeps (kall kk) fun y hy=>hy.mono up kk.t⟩,fun p hp=>⟨(r.cells p hp).1.imp (fun h=>memR _ h) id,(r'.cells p hp).2⟩,r.apart,fun p hp=>(r.mu p hp).mono up kk.t fun o e=>kget kk e,r.nd,fun a ha q=>?_,fun a ha=>?_,r.lo,r.clo⟩
 ·rcases mema q with q | q
  ·obtain ⟨o,e⟩:=hlt a ha; exact (hw a q).ne e
  ·exact r.disj a ha q
 ·rcases mema ha with q | q
  ·exact (hw a q).there
  ·exact r'.live a q
theorem R.narrow {wr:List Addr} {σ₀:St} {s₀ s:Shared} (r₀:R c σ₀ s₀) (r:R (c.wo (wr ++ c.out)) σ s) : R c σ s:=by
 have up : Up (msOf (c.wo (wr ++ c.out)) σ) (msOf c σ) s s:=fun b o hb ζ e=>⟨fun q=>hb (by
  rcases mema q with q | q
  ·exact memL _ q
  ·exact memR _ (memR _ q)),e⟩
 obtain ⟨m,hm,hv⟩:=r.vars
 exact ⟨r.glob,r.eok,⟨m,hm,fun x v e=>(hv x v e).keeps (fun ζ ζ e=>e) fun y hy=>hy.mono up (Nat.le_refl _)⟩,fun p hp=>⟨(r₀.cells p hp).1,(r.cells p hp).2⟩,r.apart,fun p hp=>(r.mu p hp).mono up (Nat.le_refl _) fun o e=>e,r.nd,fun a ha q=>r.disj a ha (memR _ q),fun a ha=>r.live a (memR _ ha),r.lo,r.clo⟩
theorem VR.narrow {wr:List Addr} {s:Shared} {v:V} {x:Value} (h:VR c.S0 (msOf (c.wo (wr ++ c.out)) σ) s v x) : VR c.S0 (msOf c σ) s v x:=h.mono (fun b o hb ζ e=>⟨fun q=>hb (by
  rcases mema q with q | q
  ·exact memL _ q
  ·exact memR _ (memR _ q)),e⟩) (Nat.le_refl _)
theorem FR.narrow {wr:List Addr} {s:Shared} {af:AF} {fl:Flow} (h:FR c.S0 (msOf (c.wo (wr ++ c.out)) σ) s af fl) : FR c.S0 (msOf c σ) s af fl:=by
 cases af <;> cases fl <;> first | exact h | exact VR.narrow h
theorem R.chg {wr:List Addr} {s s':Shared} (r:R c σ s) (x:Chg wr s s') (hw:∀ b ∈ wr,b ∈ c.out) (hS:∀ b ∈ wr,c.S0.heap.get? b = none) (hC:∀ p ∈ c.env.cells,p.2 ∉ wr) : R c σ s':=by
 have up : Up (msOf c σ) (msOf c σ) s s':=x.up fun a ha=>memR _ (hw a ha)
 have keep : ∀ b,b ∈ own c σ → ∀ o,s.heap.get? b = some o → s'.heap.get? b = some o:=fun b hb o e=>x.kept b o (fun q=>r.disj b hb (hw b q)) e
 obtain ⟨m,hm,hv⟩:=r.vars
 obtain ⟨h',tk,rfl⟩:=x.same
 have old : OldK c.S0.heap h':=by
  refine ⟨fun b o e=>?_,fun b o e=>let ⟨o',e'⟩:=r.glob.old.there b o e; x.there b o' e'⟩
  have nb : b ∉ wr:=fun q=>by rw [hS b q] at e; cases e
  rcases r.glob.old.old b o e with z | ⟨t,hc,vs,more,hv,z⟩ | ⟨rfl,hc,⟨o',es,n,ho',z1⟩,z⟩
  ·exact .inl (x.kept b o nb z)
  ·exact .inr (.inl ⟨t,hc,vs,more,hv,x.kept b _ nb z⟩)
  ·exact .inr (.inr ⟨rfl,hc,⟨o',es,n,x.kept _ _ nb ho',z1⟩,fun key=>by rw [OldK.staticOf_congr (h:=s.heap) ((x.kept _ _ nb ho').trans ho'.symm) key]; exact z key⟩)
 refine ⟨⟨r.glob.base,old,fun o e=>x.kept _ o (fun q=>by rw [hS _ q] at e; cases e) (r.glob.st o e),r.glob.os,r.glob.bare,Nat.le_trans r.glob.tok x.toks,r.glob.tab.at fun P hP o e=>x.kept P o (fun q=>by have:=hS P q; rw [r.glob.base.tab P hP] at this; cases this) e⟩,r.eok,⟨m,?_,fun y v e=>?_⟩,fun p hp=>⟨(r.cells p hp).1,?_⟩,r.apart,fun p hp=>(r.mu p hp).mono up x.toks fun o e=>keep _ (.tail _ (List.mem_map_of_mem hp)) o e,r.nd,r.disj,fun a ha=>let ⟨o,e⟩:=r.live a ha; x.there a o e,r.lo,r.clo⟩
 ·exact hm.at' fun o e=>keep _ (.head _) o e
 ·rcases hv y v e with ⟨hk,y',hm',hr⟩ | ⟨hk,a,y',ha,hc,hr⟩
  ·exact .inl ⟨hk,y',hm',hr.mono up x.toks⟩
  ·obtain ⟨o,e1,e2⟩:=hc
   exact .inr ⟨hk,a,y',ha,⟨o,x.kept _ _ (hC _ (mem_of_lookup ha)) e1,e2⟩,hr.mono up x.toks⟩
 ·obtain ⟨u,o,e1,e2⟩:=(r.cells p hp).2
  exact ⟨u,o,x.kept _ _ (hC p hp) e1,e2⟩
theorem R.chgN {wr:List Addr} {σ₀:St} {s₀ s s':Shared} (r₀:R c σ₀ s₀) (r:R (c.wo (wr ++ c.out)) σ s) (x:Chg0 wr s s') (hS:∀ b ∈ wr,c.S0.heap.get? b = none) (hC:∀ p ∈ c.env.cells,p.2 ∉ wr) (hO:∀ a ∈ c.out,a ∉ wr) : R c σ s':=by
 have up : Up (msOf (c.wo (wr ++ c.out)) σ) (msOf c σ) s s':=fun b o hb ζ e=>⟨fun q=>hb (by
  rcases mema q with q | q
  ·exact memL _ q
  ·exact memR _ (memR _ q)),x.kept b o (fun q=>hb (memR _ (memL _ q))) e⟩
 have keep : ∀ b,b ∈ own c σ → ∀ o,s.heap.get? b = some o → s'.heap.get? b = some o:=fun b hb o e=>x.kept b o (fun q=>r.disj b hb (memL _ q)) e
 obtain ⟨m,hm,hv⟩:=r.vars
 obtain ⟨h',tk,rfl⟩:=x.same
 have old : OldK c.S0.heap h':=by
  have nw : ∀ b o,c.S0.heap.get? b = some o → b ∉ wr:=fun b o e q=>by rw [hS b q] at e; cases e
  refine ⟨fun b o e=>?_,fun b o e=>let ⟨o',e'⟩:=r.glob.old.there b o e; ⟨o',x.kept b o' (nw b o e) e'⟩⟩
  have nb:=nw b o e
  rcases r.glob.old.old b o e with z | ⟨t,hc,vs,more,hv,z⟩ | ⟨rfl,hc,⟨o',es,n,ho',z1⟩,z⟩
  ·exact .inl (x.kept b o nb z)
  ·exact .inr (.inl ⟨t,hc,vs,more,hv,x.kept b _ nb z⟩)
  ·exact .inr (.inr ⟨rfl,hc,⟨o',es,n,x.kept _ _ nb ho',z1⟩,fun key=>by rw [OldK.staticOf_congr (h:=s.heap) ((x.kept _ _ nb ho').trans ho'.symm) key]; exact z key⟩)
 refine ⟨⟨r.glob.base,old,fun o e=>x.kept _ o (fun q=>by rw [hS _ q] at e; cases e) (r.glob.st o e),r.glob.os,r.glob.bare,Nat.le_trans r.glob.tok x.toks,r.glob.tab.at fun P hP o e=>x.kept P o (fun q=>by have:=hS P q; rw [r.glob.base.tab P hP] at this; cases this) e⟩,r.eok,⟨m,?_,fun y v e=>?_⟩,fun p hp=>⟨(r₀.cells p hp).1,?_⟩,r.apart,fun p hp=>(r.mu p hp).mono up x.toks fun o e=>keep _ (.tail _ (List.mem_map_of_mem hp)) o e,r.nd,fun a ha q=>r.disj a ha (memR _ q),fun a ha=>let ⟨o,e⟩:=r.live a (memR _ ha); ⟨o,x.kept a o (hO a ha) e⟩,r.lo,r.clo⟩
 ·exact hm.at' fun o e=>keep _ (.head _) o e
 ·rcases hv y v e with ⟨hk,y',hm',hr⟩ | ⟨hk,a,y',ha,hc,hr⟩
  ·exact .inl ⟨hk,y',hm',hr.mono up x.toks⟩
  ·obtain ⟨o,e1,e2⟩:=hc
   exact .inr ⟨hk,a,y',ha,⟨o,x.kept _ _ (hC _ (mem_of_lookup ha)) e1,e2⟩,hr.mono up x.toks⟩
 ·obtain ⟨u,o,e1,e2⟩:=(r.cells p hp).2
  exact ⟨u,o,x.kept _ _ (hC p hp) e1,e2⟩
noncomputable def ASG (c:Cx) (k:Nat) (σ:St) (t:Expr) (v:V) (σ':St) : Prop:=∀ A s x,Fit k A → R c σ s → VR c.S0 (msOf c σ) s v x → WP c.w A (assign t c.env x) (fun ζ s'=>R c σ' s' ∧ Step c σ s σ' s') s
inductive BodyP (c:Cx) (k:Nat) (σ:St) (target:Expr) (v:V) (body:List Stmt) (Q:AF → St → Prop) : Prop
 | mk (σ₂:St) : ASG c k σ target v σ₂ → EXs c k σ₂ body Q → BodyP c k σ target v body Q
theorem ASG.name {x:Str} {p:Pos} {v:V} (h:Stores c x) : ASG c k σ (.Name x p) v (σ.set x v):=fun A s y f r hy=>wpAny_assign_Name (storeVar r hy h)
end
end Mine.Internal
end
section
namespace Mine.Internal
section
variable {w:World} {S0:Shared} {k:Nat} {c:Cx} {σ:St}
theorem Lo.gk {a:Addr} (h:Lo S0 a) (gen:Bool) (o:Obj) : Gk gen a o:=fun ζ q=>by
 rcases q with rfl | rfl <;> exact absurd h.2 (by decide)
theorem Step.frame {wr:List Addr} {σ₁ σ':St} {s₀ s s':Shared} (st₀:Step c σ s₀ σ₁ s) (st:Step c σ₁ s σ' s') : Step c σ s₀ σ' s':=st₀.trans st
theorem Step.chg {wr:List Addr} {σ₁:St} {s₀ s s':Shared} (st:Step c σ s₀ σ₁ s) (x:Chg wr s s') (hw:∀ b ∈ wr,s₀.heap.get? b = none) : Step c σ s₀ σ₁ s':=by
 refine ⟨fun b o hb hg e=>x.kept b o (fun q=>by rw [hw b q] at e; cases e) (st.kept b o hb hg e),st.fresh,fun b o e=>let ⟨o',e'⟩:=st.there b o e; x.there b o' e',fun hg=>?_,?_,Nat.le_trans st.toks x.toks⟩
 ·obtain ⟨h',t,rfl⟩:=x.same; exact st.gens hg
 ·obtain ⟨h',t,rfl⟩:=x.same; exact st.drawn
theorem Step.chg0 {wr:List Addr} {σ₁:St} {s₀ s s':Shared} (st:Step c σ s₀ σ₁ s) (x:Chg0 wr s s') (hw:∀ b ∈ wr,s₀.heap.get? b = none) : Step c σ s₀ σ₁ s':=by
 have nw : ∀ b o,s₀.heap.get? b = some o → b ∉ wr:=fun b o e q=>by rw [hw b q] at e; cases e
 refine ⟨fun b o hb hg e=>x.kept b o (nw b o e) (st.kept b o hb hg e),st.fresh,fun b o e=>let ⟨o',e'⟩:=st.there b o e; ⟨o',x.kept b o' (nw b o e) e'⟩,fun hg=>?_,?_,Nat.le_trans st.toks x.toks⟩
 ·obtain ⟨h',t,rfl⟩:=x.same; exact st.gens hg
 ·obtain ⟨h',t,rfl⟩:=x.same; exact st.drawn
theorem for_core {A:Around} {s s₂:Shared} {target:Expr} {body orelse:List Stmt} {vs:List V} {Q:AF → St → Prop} {I:Nat → St → Prop} {J:Addr} {wr:List Addr} {St:Nat → List Addr → Shared → Prop} {E:Value → Shared → Prop}
  (f:Fit k A) (r:R c σ s) (k₂:Kp s s₂) (W:Itr c.w A c.S0 target vs J wr St) (hst:St 0 (wr ++ msOf c σ) s₂) (hw:∀ b ∈ wr,NewC s s₂ b) (h0:I 0 σ)
  (turn:∀ i v σ₁,vs[i]? = some v → I i σ₁ → ∀ out,BodyP (c.wo out) k σ₁ target v body (LoopQ (I (i + 1)) Q))
  (hend:∀ σ₁,I vs.length σ₁ → EXs c k σ₁ orelse Q) :
  codeAny (model P0 c.w) A (.forLoop target (.ref J) body orelse c.env) (fun r s'=>match r with | .ok fl=>ExP c σ s Q fl s' | .error e=>E e s') s₂:=by
 have r₂:=r.wide k₂ hw
 have hws : ∀ b ∈ wr,s.heap.get? b = none:=fun b hb=>(hw b hb).none
 have hwL : ∀ b ∈ wr,Lo c.S0 b:=fun b hb=>⟨by
  cases e : c.S0.heap.get? b with
  | none=>rfl
  | some o=>obtain ⟨o',e'⟩:=r.glob.old.there b o e; exact ((hw b hb).ne e').elim,(hw b hb).hi⟩
 have hwS : ∀ b ∈ wr,c.S0.heap.get? b = none:=fun b hb=>(hwL b hb).1
 have hwC : ∀ p ∈ c.env.cells,p.2 ∉ wr:=fun p hp q=>by
  obtain ⟨u,o,e,_⟩:=(r.cells p hp).2
  exact (hw _ q).ne e
 have hwO : ∀ a ∈ c.out,a ∉ wr:=fun a ha q=>by
  obtain ⟨o,e⟩:=r.live a ha
  exact (hw _ q).ne e
 have hwCo : ∀ b ∈ wr,b ∉ ownC c.env:=fun b hb q=>by
  obtain ⟨p,hp,rfl,_⟩:=of_mem_ownC q; exact hwC p hp hb
 refine codeAny_forLoop_any (fun n s'=>∃ i σ₁,i ≤ vs.length ∧ n = vs.length - i ∧ I i σ₁ ∧ R (c.wo (wr ++ c.out)) σ₁ s' ∧ St i (msOf (c.wo (wr ++ c.out)) σ₁) s' ∧ Step c σ s σ₁ s') ?_ vs.length ⟨0,σ,Nat.zero_le _,rfl,h0,r₂,?_,.of_keeps k₂⟩
 ·rintro n s₃ ⟨i,σ₁,hi,rfl,hI,r₃,hst₃,st₃⟩
  rcases Nat.lt_or_ge i vs.length with hlt | hge
  ·refine wpAny_mono (W.item i _ s₃ hlt hst₃ r₃.gl (fun b hb=>memR _ (memL _ hb))) (fun v s₄ w0=>?_) fun ζ ζ x=>x.elim
   obtain ⟨x,hv,h⟩:=w0
   subst hv
   refine wpAny_mono h (fun ζ s₅ w0=>?_) fun ζ ζ x=>x.elim
   obtain ⟨v,hv,hr,hst₅,ch⟩:=w0
   have r₅:=r₃.chg ch (fun b hb=>memL _ hb) hwS hwC
   have st₅:=st₃.chg ch hws
   obtain ⟨σ₂,ha,hb⟩:=turn i v σ₁ hv hI (wr ++ c.out)
   refine wpAny_mono (ha A s₅ _ f r₅ hr) (fun ζ s₆ w0=>?_) fun ζ ζ x=>x.elim
   obtain ⟨r₆,st₆⟩:=w0
   have kw : ∀ {σ₁ σ₂:Mine.Internal.St} {s s':Shared},R (c.wo (wr ++ c.out)) σ₁ s → Step (c.wo (wr ++ c.out)) σ₁ s σ₂ s' → ∀ b ∈ wr,∀ o,s.heap.get? b = some o → s'.heap.get? b = some o:=fun r st b hb o e=>by
    refine st.kept b o (fun q=>?_) ((hwL b hb).gk _ o) e
    rcases mema q with q | q
    ·exact r.disj b q (memL _ hb)
    ·exact hwCo b hb q
   have hst₆:=W.frame _ _ _ _ _ hst₅ (st₆.up r₅) st₆.toks (kw r₅ st₆)
   refine wpAny_mono (hb A s₆ f r₆) (fun fl s₇ w0=>?_) fun ζ ζ x=>x.elim
   obtain ⟨af,σ₃,hQ,r₇,hf,st₇⟩:=w0
   have hst₇:=W.frame _ _ _ _ _ hst₆ (st₇.up r₆) st₇.toks (kw r₆ st₇)
   have st' : Step c σ s σ₃ s₇:=(st₅.trans (σ₂:=σ₂) ⟨st₆.kept,st₆.fresh,st₆.there,st₆.gens,st₆.drawn,st₆.toks⟩).trans ⟨st₇.kept,st₇.fresh,st₇.there,st₇.gens,st₇.drawn,st₇.toks⟩
   have nxt : I (i + 1) σ₃ → ∃ m,m < vs.length - i ∧ ∃ j σ₁,j ≤ vs.length ∧ m = vs.length - j ∧ I j σ₁ ∧ R (c.wo (wr ++ c.out)) σ₁ s₇ ∧ St j (msOf (c.wo (wr ++ c.out)) σ₁) s₇ ∧ Step c σ s σ₁ s₇:=fun h=>⟨vs.length - (i + 1),sub_step hlt,i + 1,σ₃,hlt,rfl,h,r₇,hst₇,st'⟩
   have hf' : FR c.S0 (msOf c σ₃) s₇ af fl:=FR.narrow hf
   cases af with
   | next=>cases fl with
    | next=>exact nxt hQ
    | _=>exact hf'.elim
   | cont=>cases fl with
    | cont=>exact nxt hQ
    | _=>exact hf'.elim
   | brk=>cases fl with
    | brk=>exact ⟨.next,σ₃,hQ,r.narrow r₇,trivial,st'⟩
    | _=>exact hf'.elim
   | ret u=>cases fl with
    | ret y=>exact ⟨.ret u,σ₃,hQ,r.narrow r₇,hf',st'⟩
    | _=>exact hf'.elim
  ·have hi' : i = vs.length:=Nat.le_antisymm hi hge
   subst hi'
   refine wpAny_mono (W.done _ s₃ hst₃ r₃.gl) (fun v s₄ w0=>?_) fun ζ ζ x=>x.elim
   obtain ⟨hv,ch⟩:=w0
   subst hv
   have r₅:=r.chgN r₃ ch hwS hwC hwO
   have st₅:=st₃.chg0 ch hws
   refine wpAny_mono (hend _ hI A s₄ f r₅) (fun fl s₇ w0=>?_) fun ζ ζ x=>x.elim
   obtain ⟨af,σ₃,hQ,r₇,hf,st₇⟩:=w0
   exact ⟨af,σ₃,hQ,r₇,hf,st₅.trans st₇⟩
 ·refine W.frame _ _ _ _ _ hst (fun b o hb ζ e=>⟨fun q=>hb ?_,e⟩) (Nat.le_refl _) fun ζ ζ ζ e=>e
  rcases mema q with q | q
  ·exact memR _ (memL _ q)
  ·rcases mema q with q | q
   ·exact memL _ q
   ·exact memR _ (memR _ q)
theorem EX.for {target iter:Expr} {body orelse:List Stmt} {pos:Pos} {vs:List V} {Q:AF → St → Prop} {I:Nat → St → Prop}
  (hit:SRC c k σ iter target vs) (h0:I 0 σ)
  (turn:∀ i v σ₁,vs[i]? = some v → I i σ₁ → ∀ out,BodyP (c.wo out) k σ₁ target v body (LoopQ (I (i + 1)) Q))
  (hend:∀ σ₁,I vs.length σ₁ → EXs c k σ₁ orelse Q)
  (hs:∀ x,foldedSetIterable iter c.env x = pure x) : EX c k σ (.For target iter body orelse pos) Q:=by
 intro A s f r
 refine wpAny_For (WPmono (hit A s f r) fun x s₁ w0=>WPmono w0.2 fun it s₂ w1=>?_) hs
 obtain ⟨k₂,J,wr,St,hI,W,hst,hw⟩:=w1
 subst hI
 refine codeAny_mono (for_core (E:=fun ζ ζ=>False) f r (ktrans w0.1 k₂) W hst hw h0 turn hend) fun q s' hq=>?_
 cases q with
 | ok fl=>exact hq
 | error e=>exact hq.elim
end
end Mine.Internal
end
section
namespace Mine.Internal
section
variable {w:World} {S0:Shared} {k:Nat} {c:Cx} {σ:St}
theorem WPtk {A:Around} {α:Type} {t:Sem α} {Q:α → Shared → Prop} {s:Shared} (h:wpAny (model P0 w) A t (fun a s'=>s.toks ≤ s'.toks → Q a s') (fun ζ ζ=>False) s) : WP w A t Q s:=
 wpAny_with_toks (Nat.le_refl _) (wpAny_mono h (fun ζ ζ x=>x) fun ζ ζ x=>x.elim)
theorem new_of {s s₁ s':Shared} {b:Addr} (g:Glob w S0 s₁) (k:Kp s s₁) (h:s₁.heap.objs.size ≤ b) (t:∃ o,s'.heap.get? b = some o) : NewC s s' b:=
 ⟨by cases e : s.heap.get? b with
   | none=>rfl
   | some o=>exact absurd (Heap.lt_size (kget k e)) (Nat.not_lt.mpr h),(g.lo h).2,t⟩
theorem chg_same {s:Shared} {I:Addr} {h':Heap} {tk:Nat} (hs:Heap.SameBut I s.heap h') (hI:∃ o,h'.get? I = some o) (ht:s.toks ≤ tk) : Chg [I] s { s with heap:=h',toks:=tk }:=
 ⟨⟨h',tk,rfl⟩,fun b o hb e=>hs.extBut b o (fun q=>hb (by simp [q])) e,fun b o e=>by
  by_cases q : b = I
  ·subst q; exact hI
  ·exact ⟨o,hs.extBut b o q e⟩,ht⟩
theorem chg0_ext {s:Shared} {I:Addr} {h':Heap} {tk:Nat} (hs:Heap.ExtBut I s.heap h') (ht:s.toks ≤ tk) : Chg0 [I] s { s with heap:=h',toks:=tk }:=
 ⟨⟨h',tk,rfl⟩,fun b o hb e=>hs b o (fun q=>hb (by simp [q])) e,ht⟩
theorem VRs.one {S:Shared} {ms:List Addr} {s:Shared} {a:V} {xs:List Value} (h:VRs S ms s [a] xs) : ∃ x,xs = [x] ∧ VR S ms s a x:=by
 cases h with | cons ha h=>cases h; exact ⟨_,rfl,ha⟩
theorem VRs.two {S:Shared} {ms:List Addr} {s:Shared} {a b:V} {xs:List Value} (h:VRs S ms s [a,b] xs) : ∃ x y,xs = [x,y] ∧ VR S ms s a x ∧ VR S ms s b y:=by
 cases h with | cons ha h=>obtain ⟨y,rfl,hb⟩:=h.one; exact ⟨_,_,rfl,ha,hb⟩
theorem VRs.three {S:Shared} {ms:List Addr} {s:Shared} {a b c:V} {xs:List Value} (h:VRs S ms s [a,b,c] xs) : ∃ x y z,xs = [x,y,z] ∧ VR S ms s a x ∧ VR S ms s b y ∧ VR S ms s c z:=by
 cases h with | cons ha h=>obtain ⟨y,z,rfl,hb,hc⟩:=h.two; exact ⟨_,_,_,rfl,ha,hb,hc⟩
theorem VR.lst_inv {ms:List Addr} {s:Shared} {vs:List V} {a:Addr} (h:VR S0 ms s (.lst vs) (.ref a)) : ∃ xs n,s.heap.get? a = some { cls:=.type "list",data:=.seq xs n } ∧ a ∉ ms ∧ VRs S0 ms s vs xs.toList:=by
 cases h.inv with | mk g m r=>exact ⟨_,_,g,m,r⟩
theorem VRs.at {ms:List Addr} {s:Shared} {vs:List V} {xs:Array Value} (r:VRs S0 ms s vs xs.toList) {i:Nat} (h:i < vs.length) : ∃ x v,xs[i]? = some x ∧ vs[i]? = some v ∧ VR S0 ms s v x:=by
 obtain ⟨x,h1,h2⟩:=r.get (i:=i) (v:=vs[i]) (by simp [h])
 exact ⟨x,vs[i],by simpa using h1,by simp [h],h2⟩
theorem VRs.size {ms:List Addr} {s:Shared} {vs:List V} {xs:Array Value} (r:VRs S0 ms s vs xs.toList) : xs.size = vs.length:=by simpa using r.length
theorem ITER.lst {t:Expr} {vs:List V} (ht:∀ it v,letOwnedTupleGo t it v = pure ():=by intro _ _; rfl) : ITER w S0 k t (.lst vs) vs:=by
 intro ms A s x f g hx
 cases hx.inv with | @mk a xs n ge ha hr=>
 have hl : s.heap.IsList a xs:=⟨_,ge,rfl,_,rfl⟩
 have kk:=kpush (s:=s) { cls:=.type "list_iterator",data:=.fields #[.ref a,.int 0 0] } s.toks
 have nw : NewC s { s with heap:=s.heap.push { cls:=.type "list_iterator",data:=.fields #[.ref a,.int 0 0] } } s.heap.objs.size:=new_of g.glob (krefl s) (Nat.le_refl _) ⟨_,Heap.get?_push_size _ rfl⟩
 refine wpAny_pyIter_list hl ⟨kk,s.heap.objs.size,[s.heap.objs.size],fun i ms s'=>s'.heap.IsListIter s.heap.objs.size a i ∧ VR S0 ms s' (.lst vs) (.ref a),rfl,⟨?_,?_,?_,?_⟩,⟨⟨_,Heap.get?_push_size _ rfl,rfl,rfl⟩,?_⟩,fun b hb=>by rw [mem1 hb]; exact nw⟩
 ·rintro i ms ms' s₁ s₂ ⟨⟨o,e,h1,h2⟩,hv⟩ up ht hk
  exact ⟨⟨o,hk _ (by simp) _ e,h1,h2⟩,hv.mono up ht⟩
 ·rintro i ms s₁ hi ⟨hit,hv⟩ g₁ hm
  obtain ⟨ys,m,ge',ha',hr'⟩:=hv.lst_inv
  obtain ⟨x,v,h1,h2,h3⟩:=hr'.at hi
  refine wpAny_pyNext_list_item hit ⟨_,ge',rfl,_,rfl⟩ h1 fun h' hit' hs'=>⟨x,rfl,?_⟩
  rw [ht]
  have ch:=chg_same (s:=s₁) (tk:=s₁.toks) hs' (let ⟨o,e,_⟩:=hit'; ⟨o,e⟩) (Nat.le_refl _)
  have up:=ch.up hm
  exact wpAny_pure ⟨v,h2,h3.mono up ch.toks,⟨hit',hv.mono up ch.toks⟩,ch⟩
 ·rintro ms s₁ ⟨hit,hv⟩ g₁
  obtain ⟨ys,m,ge',ha',hr'⟩:=hv.lst_inv
  exact wpAny_pyNext_list_end f.hh hit ⟨_,ge',rfl,_,rfl⟩ (by simp [hr'.size]) fun h' he=>⟨rfl,chg0_ext (tk:=s₁.toks) he (Nat.le_refl _)⟩
 ·rintro i ms s₁ ⟨hit,hv⟩ g₁
  exact wpAny_pyIter_listiter hit ⟨rfl,rfl⟩
 ·refine VR.mono (fun b o hb ζ e=>⟨fun q=>?_,kget kk e⟩) kk.t (VR.lst ge ha hr)
  rcases mema q with q | q
  ·rw [mem1 q] at e; exact absurd (Heap.lt_size e) (Nat.lt_irrefl _)
  ·exact hb q
noncomputable def chars (x:Str) : List V:=x.cps.toList.map fun c=>.str ⟨#[c]⟩
theorem chars_len (x:Str) : (chars x).length = x.cps.size:=by simp [chars]
theorem chars_get {x:Str} {i:Nat} (h:i < (chars x).length) : ∃ c,x.cps[i]? = some c ∧ (chars x)[i]? = some (.str ⟨#[c]⟩):=by
 have h':=chars_len x ▸ h
 exact ⟨x.cps[i],by simp [h'],by simp [chars,h']⟩
theorem ITER.str {t:Expr} {x:Str} (ht:∀ it v,letOwnedTupleGo t it v = pure ():=by intro _ _; rfl) : ITER w S0 k t (.str x) (chars x):=by
 intro ms A s y f g hx
 cases hx.inv with | mk tk=>
 cases ha : x.cps.all (· < 128)
 ·refine wpAny_pyIter_wide ha ?_
  have nw : NewC s { s with heap:=s.heap.push { cls:=.type "str_iterator",data:=.fields #[.str x tk,.int 0 0] } } s.heap.objs.size:=new_of g.glob (krefl s) (Nat.le_refl _) ⟨_,Heap.get?_push_size _ rfl⟩
  refine ⟨kpush _ _,s.heap.objs.size,[s.heap.objs.size],fun i ms s'=>s'.heap.IsStrIter s.heap.objs.size "str_iterator" x tk i,rfl,⟨?_,?_,?_,?_⟩,⟨_,Heap.get?_push_size _ rfl,rfl,rfl⟩,fun b hb=>by rw [mem1 hb]; exact nw⟩
  ·rintro i ms ms' s₁ s₂ ⟨o,e,h1,h2⟩ up ht hk
   exact ⟨o,hk _ (by simp) _ e,h1,h2⟩
  ·rintro i ms s₁ hi hit g₁ hm
   obtain ⟨c,h1,h2⟩:=chars_get hi
   refine wpAny_pyNext_wide_item hit h1 fun h' hit' hs'=>⟨_,rfl,?_⟩
   rw [ht]
   exact wpAny_pure ⟨_,h2,.str _ _,hit',chg_same hs' (let ⟨o,e,_⟩:=hit'; ⟨o,e⟩) (Nat.le_succ _)⟩
  ·rintro ms s₁ hit g₁
   exact wpAny_pyNext_wide_end f.hh hit (by simp [chars_len]) fun h' he=>⟨rfl,chg0_ext (tk:=s₁.toks) he (Nat.le_refl _)⟩
  ·rintro i ms s₁ hit g₁
   exact wpAny_pyIter_striter_wide hit ⟨rfl,rfl⟩
 ·refine wpAny_pyIter_ascii ha ?_
  have nw : NewC s { s with heap:=s.heap.push { cls:=.type "str_ascii_iterator",data:=.fields #[.str x tk,.int 0 0] } } s.heap.objs.size:=new_of g.glob (krefl s) (Nat.le_refl _) ⟨_,Heap.get?_push_size _ rfl⟩
  refine ⟨kpush _ _,s.heap.objs.size,[s.heap.objs.size],fun i ms s'=>s'.heap.IsStrIter s.heap.objs.size "str_ascii_iterator" x tk i,rfl,⟨?_,?_,?_,?_⟩,⟨_,Heap.get?_push_size _ rfl,rfl,rfl⟩,fun b hb=>by rw [mem1 hb]; exact nw⟩
  ·rintro i ms ms' s₁ s₂ ⟨o,e,h1,h2⟩ up ht hk
   exact ⟨o,hk _ (by simp) _ e,h1,h2⟩
  ·rintro i ms s₁ hi hit g₁ hm
   obtain ⟨c,h1,h2⟩:=chars_get hi
   refine wpAny_pyNext_ascii_item hit h1 fun h' hit' hs'=>⟨_,rfl,?_⟩
   rw [ht]
   exact wpAny_pure ⟨_,h2,.str _ _,hit',chg_same hs' (let ⟨o,e,_⟩:=hit'; ⟨o,e⟩) (Nat.le_succ _)⟩
  ·rintro ms s₁ hit g₁
   exact wpAny_pyNext_ascii_end f.hh hit (by simp [chars_len]) fun h' he=>⟨rfl,chg0_ext (tk:=s₁.toks) he (Nat.le_refl _)⟩
  ·rintro i ms s₁ hit g₁
   exact wpAny_pyIter_striter_ascii hit ⟨rfl,rfl⟩
theorem SRC.of {iter t:Expr} {a:V} {vs:List V} (he:EV c k σ iter a) (hi:ITER c.w c.S0 k t a vs) : SRC c k σ iter t vs:=by
 intro A s f r
 refine WPmono (he A s f r) fun x s₁ ⟨hx,k₁⟩=>⟨k₁,?_⟩
 refine WPmono (hi _ A s₁ x f (r.keeps k₁).gl hx) fun it s₂ ⟨k₂,J,wr,St,hI,W,hst,hw⟩=>⟨k₂,J,wr,St,hI,W,hst,fun b hb=>?_⟩
 have h:=hw b hb
 refine ⟨?_,h.hi,h.there⟩
 cases e : s.heap.get? b with
 | none=>rfl
 | some o=>exact (h.ne (kget k₁ e)).elim
noncomputable def rngV (a c:Int) (n:Nat) : List V:=(List.range n).map fun (i:Nat)=>V.int (a + (i:Int) * c)
theorem rngV_get {a c:Int} {n i:Nat} (h:i < (rngV a c n).length) : (rngV a c n)[i]? = some (.int (a + (i:Int) * c)):=by
 have h' : i < n:=by simpa [rngV] using h
 simp [rngV,h']
theorem range_itr {A:Around} (hh:A.handled = none) {t:Expr} {a st:Int} {n:Nat} (I:Addr) (ht:∀ it v,letOwnedTupleGo t it v = pure ()) :
  Itr w A S0 t (rngV a st n) I [I] (fun i ζ s'=>IsRangeIter s'.heap I (a + (i:Int) * st) ((n:Int) - i) st):=by
 refine ⟨?_,?_,?_,?_⟩
 ·intro i ms ms' s₁ s₂ e up ht hk
  exact hk _ (by simp) _ e
 ·intro i ms s₁ hi hit g₁ hm
  have hi' : i < n:=by simpa [rngV] using hi
  refine wpAny_pyNext_range_item hit (by w_left) fun h' hit' hs'=>⟨_,rfl,?_⟩
  rw [ht]
  refine wpAny_pure ⟨_,rngV_get hi,.int _ _,?_,chg_same hs' ⟨_,hit'⟩ (Nat.le_succ _)⟩
  have e1 : a + ((i + 1:Nat) : Int) * st = a + (i:Int) * st + st:=by push_cast; rw [Int.add_mul,Int.one_mul,Int.add_assoc]
  have e2 : (n:Int) - ((i + 1:Nat) : Int) = (n:Int) - (i:Int) - 1:=by push_cast; w_left
  rw [e1,e2]; exact hit'
 ·intro ms s₁ hit g₁
  have : (rngV a st n).length = n:=by simp [rngV]
  rw [this] at hit
  exact wpAny_pyNext_range_end hh hit (by w_left) fun h' he=>⟨rfl,chg0_ext (tk:=s₁.toks) he (Nat.le_refl _)⟩
 ·intro i ms s₁ hit g₁
  exact wpAny_pyIter_rangeiter hit ⟨rfl,rfl⟩
theorem wp_callv {fe:Expr} {es:List Expr} {f:Value} {vs:List V} {pos:Pos} {A:Around} {s:Shared} {Q:Value → Shared → Prop} (hf:EV c k σ fe (.val f)) (ha:EVL c k σ es vs) (hc:Callee c.w c.S0 f) (ft:Fit k A) (r:R c σ s)
  (h:∀ s₂ xs,Kp s s₂ → R c σ s₂ → VRs c.S0 (msOf c σ) s₂ vs xs → WP c.w A (call f xs) Q s₂)
  (he:eval (.Call fe es [] pos) c.env = (do callWith pos (← eval fe c.env) [] (backTo pos (starEach es c.env)) [])) (hp:(starEach es c.env).any (·.1) = false) : WP c.w A (eval (.Call fe es [] pos) c.env) Q s:=by
 rw [he]
 refine wpAny_bind (WPmono (hf A s ft r) fun x s₁ w0=>?_)
 obtain ⟨hx,k₁⟩:=w0
 w_dflts hx
 have r₁:=r.keeps k₁
 refine callWith_of (P:=fun h=>∃ s',s'.heap = h ∧ Glob c.w c.S0 s') (by rw [plainArgs hp]; rfl) (fun h ⟨s',e,g⟩=>e ▸ hc s' g) ?_
 refine wp_evalArgs (plainArgs hp) (WPmono (ha pos A s₁ ft r₁) fun xs s₂ w0=>?_)
 obtain ⟨hxs,k₂⟩:=w0
 have r₂:=r₁.keeps k₂
 exact ⟨⟨s₂,rfl,r₂.glob⟩,h s₂ xs (ktrans k₁ k₂) r₂ hxs⟩
theorem SRC.range {fe t:Expr} {es:List Expr} {pos:Pos} {vs:List V} {a b st:Int} {n:Nat} (hf:EV c k σ fe (.val (.type "range"))) (ha:EVL c k σ es vs)
  (hr:∀ ms s A xs (Q:Value → Shared → Prop),VRs c.S0 ms s vs xs → (∀ o tk t u v,o = ({ cls:=.type "range",data:=.fields #[.int a t,.int b u,.int st v] } : Obj) → s.toks ≤ tk → Q (.ref s.heap.objs.size) { s with heap:=s.heap.push o,toks:=tk }) → WP c.w A (call (.type "range") xs) Q s)
  (hn:Builtin.Range.rangeSize a b st = n) (hs:Builtin.Range.small a b st = true) (ht:∀ it v,letOwnedTupleGo t it v = pure ())
  (he:eval (.Call fe es [] pos) c.env = (do callWith pos (← eval fe c.env) [] (backTo pos (starEach es c.env)) [])) (hp:(starEach es c.env).any (·.1) = false) : SRC c k σ (.Call fe es [] pos) t (rngV a st n):=by
 intro A s f r
 refine wp_callv hf ha .type f r (fun s₂ xs k₂ r₂ hxs=>hr _ _ _ _ _ hxs fun o tk t' u v ho hk=>?_) he hp
 have k₃ : Kp s₂ { s₂ with heap:=s₂.heap.push o,toks:=tk }:=kpush o tk hk
 have g₃:=r₂.glob.keeps k₃
 refine ⟨ktrans k₂ k₃,wpAny_pyIter_range (t:=t') (u:=u) (v:=v) (by subst ho; exact Heap.get?_push_size _ rfl) hs ⟨kpush _ _,_,[_],_,rfl,range_itr f.hh _ ht,?_,fun x hx=>?_⟩⟩
 ·rw [hn]
  have:=Heap.get?_push_size (s₂.heap.push o) (o:={ cls:=.type "range_iterator",data:=.fields #[rawInt a,rawInt (n:Int),rawInt st] }) rfl
  show IsRangeIter _ _ _ _ _
  simpa [IsRangeIter] using this
 ·rw [mem1 hx]
  exact new_of g₃ (ktrans k₂ k₃) (Nat.le_refl _) ⟨_,Heap.get?_push_size _ rfl⟩
theorem range1 {w:World} {ms:List Addr} {s:Shared} {A:Around} {xs:List Value} {Q:Value → Shared → Prop} {S0:Shared} {b:Int} (h:VRs S0 ms s [.int b] xs)
  (hQ:∀ o tk t u v,o = ({ cls:=.type "range",data:=.fields #[.int 0 t,.int b u,.int 1 v] } : Obj) → s.toks ≤ tk → Q (.ref s.heap.objs.size) { s with heap:=s.heap.push o,toks:=tk }) : WP w A (call (.type "range") xs) Q s:=by
 obtain ⟨x,rfl,ha⟩:=h.one
 cases ha
 exact call_range_1 (hQ _ _ _ _ _ rfl (by w_left))
theorem range2 {w:World} {ms:List Addr} {s:Shared} {A:Around} {xs:List Value} {Q:Value → Shared → Prop} {S0:Shared} {a b:Int} (h:VRs S0 ms s [.int a,.int b] xs)
  (hQ:∀ o tk t u v,o = ({ cls:=.type "range",data:=.fields #[.int a t,.int b u,.int 1 v] } : Obj) → s.toks ≤ tk → Q (.ref s.heap.objs.size) { s with heap:=s.heap.push o,toks:=tk }) : WP w A (call (.type "range") xs) Q s:=by
 obtain ⟨x,y,rfl,ha,hb⟩:=h.two
 cases ha; cases hb
 exact call_range_2 (hQ _ _ _ _ _ rfl (by w_left))
theorem range3 {w:World} {ms:List Addr} {s:Shared} {A:Around} {xs:List Value} {Q:Value → Shared → Prop} {S0:Shared} {a b c:Int} (hc:c ≠ 0) (hp:Builtin.divisionGoesByPylong (b - a) c = false) (h:VRs S0 ms s [.int a,.int b,.int c] xs)
  (hQ:∀ o tk t u v,o = ({ cls:=.type "range",data:=.fields #[.int a t,.int b u,.int c v] } : Obj) → s.toks ≤ tk → Q (.ref s.heap.objs.size) { s with heap:=s.heap.push o,toks:=tk }) : WP w A (call (.type "range") xs) Q s:=by
 obtain ⟨x,y,z,rfl,ha,hb,hd⟩:=h.three
 cases ha; cases hb; cases hd
 exact call_range_3 hc (hQ _ _ _ _ _ rfl (by w_left)) (.inl hp)
end
end Mine.Internal
end
section
namespace Mine.Internal
section
variable {w:World} {S0:Shared} {k:Nat} {c:Cx} {σ:St}
noncomputable def enumV (vs:List V) : List V:=vs.zipIdx.map fun p=>V.tup [.int (p.2:Int),p.1]
theorem enumV_len (vs:List V) : (enumV vs).length = vs.length:=by simp [enumV]
theorem enumV_get {vs:List V} {i:Nat} {v:V} (h:vs[i]? = some v) : (enumV vs)[i]? = some (.tup [.int (i:Int),v]):=by
 simp [enumV,h]
theorem SRC.enum {fe e:Expr} {es:List Expr} {n:Nat} {tp pos:Pos} {vs:List V} (hf:EV c k σ fe (.val (.type "enumerate"))) (ha:EVL c k σ [e] [.lst vs])
  (he:eval (.Call fe [e] [] pos) c.env = (do callWith pos (← eval fe c.env) [] (backTo pos (starEach [e] c.env)) [])) (hp:(starEach [e] c.env).any (·.1) = false) : SRC c k σ (.Call fe [e] [] pos) (.Tuple es n tp) (enumV vs):=by
 intro A s f r
 refine wp_callv hf ha .type f r (fun s₂ xs k₂ r₂ hxs=>?_) he hp
 obtain ⟨x,rfl,hx⟩:=hxs.one
 have hx0:=hx
 cases hx.inv with | @mk l xs n ge hm hr=>
 refine WPtk (call_enumerate_list ⟨_,ge,rfl,_,rfl⟩ fun h' hE hI hsz hk ht=>?_)
 have k₃ : Kp s₂ { s₂ with heap:=h' }:=⟨⟨h',s₂.toks,rfl,hk⟩,Nat.le_refl _⟩
 have g₃:=r₂.glob.keeps k₃
 refine ⟨ktrans k₂ k₃,wpAny_pyIter_enum hE ⟨krefl _,s₂.heap.objs.size + 1,[s₂.heap.objs.size + 1,s₂.heap.objs.size],fun i ms s'=>(∃ old,IsEnum s'.heap (s₂.heap.objs.size + 1) s₂.heap.objs.size i old) ∧ s'.heap.IsListIter s₂.heap.objs.size l i ∧ VR c.S0 ms s' (.lst vs) (.ref l),rfl,⟨?_,?_,?_,?_⟩,⟨⟨_,hE⟩,hI,?_⟩,fun b hb=>?_⟩⟩
 ·rintro i ms ms' s₁ s₃ ⟨⟨old,e⟩,⟨o,e2,h1,h2⟩,hv⟩ up ht hk
  exact ⟨⟨old,hk _ (by simp) _ e⟩,⟨o,hk _ (by simp) _ e2,h1,h2⟩,hv.mono up ht⟩
 ·rintro i ms s₁ hi ⟨⟨old,hE₁⟩,hit,hv⟩ g₁ hm
  obtain ⟨ys,m,ge',ha',hr'⟩:=hv.lst_inv
  obtain ⟨x,v,h1,h2,h3⟩:=hr'.at (enumV_len vs ▸ hi)
  have hlt : ∀ b o,s₁.heap.get? b = some o → b ≠ s₁.heap.objs.size:=fun b o e=>Nat.ne_of_lt (Heap.lt_size e)
  obtain ⟨oi,ei,_⟩:=id hit
  refine wpAny_pyNext_enum_item hE₁ hit ⟨_,ge',rfl,_,rfl⟩ h1 (Nat.succ_ne_self _) fun h₁ hO hit' hT hsz' hk'=>⟨_,rfl,?_⟩
  refine wpAny_letOwnedTupleGo_enum hO fun h₂ hE₂ hs₂=>?_
  have e1 : ∀ b o,b ≠ s₂.heap.objs.size + 1 → b ≠ s₂.heap.objs.size → s₁.heap.get? b = some o → h₂.get? b = some o:=fun b o q1 q2 e=>hs₂.extBut b o q1 (hk' b o q1 q2 e)
  have ch : Chg [s₂.heap.objs.size + 1,s₂.heap.objs.size] s₁ { s₁ with heap:=h₂,toks:=s₁.toks + 1 }:=by
   refine ⟨⟨_,_,rfl⟩,fun b o hb e=>e1 b o (fun q=>hb (by simp [q])) (fun q=>hb (by simp [q])) e,fun b o e=>?_,Nat.le_succ _⟩
   by_cases q1 : b = s₂.heap.objs.size + 1
   ·exact ⟨_,q1 ▸ hE₂⟩
   ·by_cases q2 : b = s₂.heap.objs.size
    ·obtain ⟨o,e',_⟩:=hit'
     exact ⟨o,q2 ▸ hs₂.extBut _ o (fun q=>q1 (q2.trans q)) e'⟩
    ·exact ⟨o,e1 b o q1 q2 e⟩
  have up:=ch.up hm
  have hT₂ : h₂.get? s₁.heap.objs.size = some { cls:=.type "tuple",data:=.seq #[.int i s₁.toks,x] }:=hs₂.extBut _ _ (fun q=>hlt _ _ hE₁ q.symm) hT
  refine ⟨_,enumV_get h2,.tup hT₂ (fun q=>?_) (.cons (.int _ _) (.cons (h3.mono up ch.toks) .nil)),⟨⟨_,hE₂⟩,?_,hv.mono up ch.toks⟩,ch⟩
  ·obtain ⟨o,e⟩:=g₁.live _ q; exact hlt _ _ e rfl
  ·obtain ⟨o,e',r1,r2⟩:=hit'
   exact ⟨o,hs₂.extBut _ o (Nat.ne_of_lt (Nat.lt_succ_self _)) e',r1,r2⟩
 ·rintro ms s₁ ⟨⟨old,hE₁⟩,hit,hv⟩ g₁
  obtain ⟨ys,m,ge',ha',hr'⟩:=hv.lst_inv
  rw [enumV_len] at hE₁ hit
  exact wpAny_pyNext_enum_end f.hh hE₁ hit ⟨_,ge',rfl,_,rfl⟩ (by simp [hr'.size]) fun h' he=>⟨rfl,⟨h',_,rfl⟩,fun b o hb e=>he b o (fun q=>hb (by simp [q])) e,Nat.le_refl _⟩
 ·rintro i ms s₁ ⟨⟨old,hE₁⟩,hit,hv⟩ g₁
  exact wpAny_pyIter_enum hE₁ ⟨rfl,rfl⟩
 ·refine hx0.mono (fun b o hb ζ e=>⟨fun q=>?_,kget k₃ e⟩) (Nat.le_refl _)
  rcases mema q with q | q
  ·have:=Heap.lt_size e
   rcases memc q with rfl | q
   ·exact absurd this (by exact Nat.not_lt.mpr (Nat.le_succ _))
   ·rw [mem1 q] at this; exact Nat.lt_irrefl _ this
  ·exact hb q
 ·refine new_of (s₁:=s₂) r₂.glob k₂ ?_ ?_
  ·rcases memc hb with rfl | q
   ·exact Nat.le_succ _
   ·rw [mem1 q]; exact Nat.le_refl _
  ·rcases memc hb with rfl | q
   ·exact ⟨_,hE⟩
   ·rw [mem1 q]; obtain ⟨o,e,_⟩:=hI; exact ⟨o,e⟩
noncomputable def setAll (σ:St) : List Str → List V → St
 | x :: xs,v :: vs=>setAll (σ.set x v) xs vs
 | _,_=>σ
theorem assign_names {A:Around} (ns:List (Str × Pos)) : ∀ (vs:List V) (xs:List Value) (σ:St) (s:Shared),(∀ p ∈ ns,Stores c p.1) → R c σ s → VRs c.S0 (msOf c σ) s vs xs → ns.length = vs.length →
  WP c.w A (assignInOrder (ns.map fun p=>assign (.Name p.1 p.2) c.env) xs) (fun ζ s'=>R c (setAll σ (ns.map (·.1)) vs) s' ∧ Step c σ s (setAll σ (ns.map (·.1)) vs) s') s:=by
 induction ns with
 | nil=>
  intro vs xs σ s hS r h hl
  cases vs with
  | cons=>cases hl
  | nil=>cases h; exact wpAny_pure ⟨r,.refl c σ s⟩
 | cons p ns ih=>
  intro vs xs σ s hS r h hl
  cases h with
  | nil=>cases hl
  | @cons v x vs xs hv hvs=>
   show WP c.w A (do holding xs (assign (.Name p.1 p.2) c.env x); assignInOrder (ns.map fun p=>assign (.Name p.1 p.2) c.env) xs) _ s
   refine wpAny_bind (wpAny_holding (WPmono (wpAny_assign_Name (storeVar r hv (hS p (.head _)))) fun ζ s₁ h₁=>?_))
   have hvs' : VRs c.S0 (msOf c (σ.set p.1 v)) s₁ vs xs:=hvs.mono (h₁.2.up r) h₁.2.toks
   refine WPmono (ih vs xs _ s₁ (fun q hq=>hS q (.tail _ hq)) h₁.1 hvs' (Nat.succ.inj hl)) fun ζ s₂ h₂=>⟨h₂.1,h₁.2.trans h₂.2⟩
theorem assignEach_names : ∀ (ns:List (Str × Pos)) (env:Env),assignEach (ns.map fun p=>.Name p.1 p.2) env = ns.map fun p=>(false,assign (.Name p.1 p.2) env)
 | [],_=>rfl
 | p :: ns,env=>by
  show (false,assign (.Name p.1 p.2) env) :: assignEach (ns.map fun p=>.Name p.1 p.2) env = _
  rw [assignEach_names ns env]; rfl
theorem Chg.kp {wr:List Addr} {s₀ s s':Shared} (x:Chg wr s s') (hws:∀ b ∈ wr,s₀.heap.get? b = none) (k:Kp s₀ s) : Kp s₀ s':=by
 obtain ⟨⟨h,t,rfl,hk⟩,ht⟩:=k
 obtain ⟨h',t',rfl⟩:=x.same
 exact ⟨⟨h',t',rfl,fun b o e=>x.kept b o (fun q=>by rw [hws b q] at e; cases e) (hk b o e)⟩,Nat.le_trans ht x.toks⟩
theorem Chg0.kp {wr:List Addr} {s₀ s s':Shared} (x:Chg0 wr s s') (hws:∀ b ∈ wr,s₀.heap.get? b = none) (k:Kp s₀ s) : Kp s₀ s':=by
 obtain ⟨⟨h,t,rfl,hk⟩,ht⟩:=k
 obtain ⟨h',t',rfl⟩:=x.same
 exact ⟨⟨h',t',rfl,fun b o e=>x.kept b o (fun q=>by rw [hws b q] at e; cases e) (hk b o e)⟩,Nat.le_trans ht x.toks⟩
theorem draw_all {A:Around} {t:Expr} {vs:List V} {I:Addr} {wr:List Addr} {St:Nat → List Addr → Shared → Prop} (W:Itr c.w A c.S0 t vs I wr St) (ht:∀ it v,letOwnedTupleGo t it v = pure ())
  (hwS:∀ b ∈ wr,c.S0.heap.get? b = none) (hwC:∀ p ∈ c.env.cells,p.2 ∉ wr) {s₀:Shared} (hws:∀ b ∈ wr,s₀.heap.get? b = none) : ∀ (n i:Nat) (s:Shared),i + n = vs.length → R (c.wo (wr ++ c.out)) σ s → St i (msOf (c.wo (wr ++ c.out)) σ) s → Kp s₀ s →
  WP c.w A (draw (.ref I) n) (fun xs s'=>VRs c.S0 (msOf (c.wo (wr ++ c.out)) σ) s' (vs.drop i) xs ∧ R (c.wo (wr ++ c.out)) σ s' ∧ St vs.length (msOf (c.wo (wr ++ c.out)) σ) s' ∧ Kp s₀ s' ∧ Chg wr s s') s
 | 0,i,s,hi,r,hst,st=>by
  have hi' : i = vs.length:=hi
  subst hi'
  show WP c.w A (pure []) _ s
  exact wpAny_pure ⟨by rw [List.drop_length]; exact .nil,r,hst,st,.of_kp (krefl s)⟩
 | n + 1,i,s,hi,r,hst,st=>by
  have hm : ∀ b ∈ wr,b ∈ msOf (c.wo (wr ++ c.out)) σ:=fun b hb=>memR _ (memL _ hb)
  show WP c.w A (pyNext (.ref I) >>= _) _ s
  refine wpAny_bind (wpAny_mono (W.item i _ s (by w_left) hst r.gl hm) (fun v s₁ w0=>?_) fun ζ ζ x=>x.elim)
  obtain ⟨x,hv,h⟩:=w0
  subst hv
  have h' : WP c.w A (letOwnedTupleGo t (.ref I) x >>= fun ζ=>(holding [x] (draw (.ref I) n) >>= fun rest=>pure (x :: rest))) (fun xs s'=>VRs c.S0 (msOf (c.wo (wr ++ c.out)) σ) s' (vs.drop i) xs ∧ R (c.wo (wr ++ c.out)) σ s' ∧ St vs.length (msOf (c.wo (wr ++ c.out)) σ) s' ∧ Kp s₀ s' ∧ Chg wr s s') s₁:=by
   refine wpAny_bind (WPmono h fun ζ s₂ w0=>?_)
   obtain ⟨v,h1,h2,h3,ch⟩:=w0
   have r₁:=r.chg ch (fun b hb=>memL _ hb) hwS hwC
   refine wpAny_bind (wpAny_holding (WPmono (draw_all W ht hwS hwC hws n (i + 1) s₂ (by w_left) r₁ h3 (ch.kp hws st)) fun xs s₃ ⟨g1,g2,g3,g4,g5⟩=>wpAny_pure ⟨?_,g2,g3,g4,ch.trans g5⟩))
   rw [List.getElem?_eq_some_iff] at h1
   obtain ⟨hlt,rfl⟩:=h1
   rw [List.drop_eq_getElem_cons hlt]
   exact .cons (h2.mono (g5.up hm) g5.toks) g1
  rw [ht] at h'
  exact h'
theorem ITER.names {ns:List (Str × Pos)} {a:V} {vs:List V} {A:Around} {s:Shared} {x:Value} {Q:Unit → Shared → Prop} {p:Pos} (hi:ITER c.w c.S0 k (.Name "x" p) a vs) (hf:a.flat = true) (hty:∃ id,typeLookup (.type a.ty) "__iter__" = pure (some (.builtin id))) (hl:ns.length = vs.length)
  (f:Fit k A) (r:R c σ s) (hx:VR c.S0 (msOf c σ) s a x) (h:∀ s₃ xs,Kp s s₃ → R c σ s₃ → VRs c.S0 (msOf c σ) s₃ vs xs → WP c.w A (assignInOrder (ns.map fun p=>assign (.Name p.1 p.2) c.env) xs) Q s₃) :
  WP c.w A (unpack x (assignEach (ns.map fun p=>.Name p.1 p.2) c.env)) Q s:=by
 unfold unpack
 rw [assignEach_names]
 have hstar : (ns.map fun p=>(false,assign (.Name p.1 p.2) c.env)).findIdx? (·.1) = none:=by
  rw [List.findIdx?_eq_none_iff]
  intro q hq
  obtain ⟨p,_,rfl⟩:=memm hq; rfl
 rw [hstar,List.map_map,List.length_map]
 refine wpAny_bind (wpAny_holding ?_)
 unfold unpackItems
 refine wpAny_bind ?_
 unfold notIterableAtAll
 obtain ⟨id,hid⟩:=hty
 refine wpAny_bind (wpAny_specialOf (hx.typeIs hf) hid ?_)
 refine wpAny_pure ?_
 refine wpAny_ite_false rfl ?_
 refine wpAny_bind (wpAny_holding (WPmono (hi _ A s x f r.gl hx) fun it s₁ w0=>?_))
 obtain ⟨k₁,I,wr,St,hI,W,hst,hw⟩:=w0
 subst hI
 have r₁:=r.wide k₁ hw
 have hws : ∀ b ∈ wr,s.heap.get? b = none:=fun b hb=>(hw b hb).none
 have hwS : ∀ b ∈ wr,c.S0.heap.get? b = none:=fun b hb=>by
  cases e : c.S0.heap.get? b with
  | none=>rfl
  | some o=>obtain ⟨o',e'⟩:=r.glob.old.there b o e; exact ((hw b hb).ne e').elim
 have hwC : ∀ p ∈ c.env.cells,p.2 ∉ wr:=fun p hp q=>by
  obtain ⟨u,o,e,_⟩:=(r.cells p hp).2
  exact (hw _ q).ne e
 have hwO : ∀ a ∈ c.out,a ∉ wr:=fun a ha q=>by
  obtain ⟨o,e⟩:=r.live a ha
  exact (hw _ q).ne e
 have hst' : St 0 (msOf (c.wo (wr ++ c.out)) σ) s₁:=by
  refine W.frame _ _ _ _ _ hst (fun b o hb ζ e=>⟨fun q=>hb ?_,e⟩) (Nat.le_refl _) fun ζ ζ ζ e=>e
  rcases mema q with q | q
  ·exact memR _ (memL _ q)
  ·rcases mema q with q | q
   ·exact memL _ q
   ·exact memR _ (memR _ q)
 refine wpAny_bind (wpAny_holding (WPmono (draw_all W (fun ζ ζ=>rfl) hwS hwC hws ns.length 0 s₁ (by w_left) r₁ hst' k₁) fun xs s₂ w0=>?_))
 obtain ⟨g1,g2,g3,g4,g5⟩:=w0
 rw [List.drop_zero] at g1
 have hlen : xs.length = ns.length:=by rw [g1.length,hl]
 rw [if_neg (by w_left)]
 refine wpAny_bind (wpAny_holding (WPmono (W.done _ s₂ g3 g2.gl) fun q s₃ w0=>?_))
 obtain ⟨hq,ch⟩:=w0
 subst hq
 refine wpAny_ite_false rfl ?_
 refine wpAny_pure ?_
 have r₃:=r.chgN g2 ch hwS hwC hwO
 have k₃ : Kp s s₃:=ch.kp hws g4
 have g1' : VRs c.S0 (msOf c σ) s₃ vs xs:=g1.mono (fun b o hb ζ e=>⟨fun q=>hb (by
  rcases mema q with q | q
  ·exact memL _ q
  ·exact memR _ (memR _ q)),ch.kept b o (fun q=>hb (memR _ (memL _ q))) e⟩) ch.toks
 exact h s₃ xs k₃ r₃ g1'
theorem ASG.tup {ns:List (Str × Pos)} {n:Nat} {pos:Pos} {a:V} {vs:List V} (hi:ITER c.w c.S0 k (.Name "x" pos) a vs) (hf:a.flat = true) (hty:∃ id,typeLookup (.type a.ty) "__iter__" = pure (some (.builtin id))) (hl:ns.length = vs.length) (hS:∀ p ∈ ns,Stores c p.1) :
  ASG c k σ (.Tuple (ns.map fun p=>.Name p.1 p.2) n pos) a (setAll σ (ns.map (·.1)) vs):=by
 intro A s x f r hx
 rw [arm_assign_Tuple]
 refine wpAny_bind (wpAny_standAt (hi.names hf hty hl f r hx fun s₃ xs k₃ r₃ hxs=>?_))
 exact WPmono (assign_names ns vs xs σ s₃ hS r₃ hxs hl) fun ζ s₄ ⟨r₄,st₄⟩=>⟨r₄,(Step.of_keeps k₃).trans st₄⟩
theorem VR.tup_inv {ms:List Addr} {s:Shared} {vs:List V} {a:Addr} (h:VR S0 ms s (.tup vs) (.ref a)) : ∃ xs n,s.heap.get? a = some { cls:=.type "tuple",data:=.seq xs n } ∧ a ∉ ms ∧ VRs S0 ms s vs xs.toList:=by
 cases h.inv with | mk g m r=>exact ⟨_,_,g,m,r⟩
theorem ITER.tup {t:Expr} {vs:List V} (ht:∀ it v,letOwnedTupleGo t it v = pure ():=by intro _ _; rfl) : ITER w S0 k t (.tup vs) vs:=by
 intro ms A s x f g hx
 cases hx.inv with | @mk a xs n ge ha hr=>
 have hl : s.heap.IsTuple a xs:=⟨_,ge,rfl,_,rfl⟩
 have kk:=kpush (s:=s) { cls:=.type "tuple_iterator",data:=.fields #[.ref a,.int 0 0] } s.toks
 have nw : NewC s { s with heap:=s.heap.push { cls:=.type "tuple_iterator",data:=.fields #[.ref a,.int 0 0] } } s.heap.objs.size:=new_of g.glob (krefl s) (Nat.le_refl _) ⟨_,Heap.get?_push_size _ rfl⟩
 refine wpAny_pyIter_tuple hl ⟨kk,s.heap.objs.size,[s.heap.objs.size],fun i ms s'=>s'.heap.IsTupleIter s.heap.objs.size a i ∧ VR S0 ms s' (.tup vs) (.ref a),rfl,⟨?_,?_,?_,?_⟩,⟨⟨_,Heap.get?_push_size _ rfl,rfl,rfl⟩,?_⟩,fun b hb=>by rw [mem1 hb]; exact nw⟩
 ·rintro i ms ms' s₁ s₂ ⟨⟨o,e,h1,h2⟩,hv⟩ up ht hk
  exact ⟨⟨o,hk _ (by simp) _ e,h1,h2⟩,hv.mono up ht⟩
 ·rintro i ms s₁ hi ⟨hit,hv⟩ g₁ hm
  obtain ⟨ys,m,ge',ha',hr'⟩:=hv.tup_inv
  obtain ⟨x,v,h1,h2,h3⟩:=hr'.at hi
  refine wpAny_pyNext_tuple_item hit ⟨_,ge',rfl,_,rfl⟩ h1 fun h' hit' hs'=>⟨x,rfl,?_⟩
  rw [ht]
  have ch:=chg_same (s:=s₁) (tk:=s₁.toks) hs' (let ⟨o,e,_⟩:=hit'; ⟨o,e⟩) (Nat.le_refl _)
  have up:=ch.up hm
  exact wpAny_pure ⟨v,h2,h3.mono up ch.toks,⟨hit',hv.mono up ch.toks⟩,ch⟩
 ·rintro ms s₁ ⟨hit,hv⟩ g₁
  obtain ⟨ys,m,ge',ha',hr'⟩:=hv.tup_inv
  exact wpAny_pyNext_tuple_end f.hh hit ⟨_,ge',rfl,_,rfl⟩ (by simp [hr'.size]) fun h' he=>⟨rfl,chg0_ext (tk:=s₁.toks) he (Nat.le_refl _)⟩
 ·rintro i ms s₁ ⟨hit,hv⟩ g₁
  exact wpAny_pyIter_tupleiter hit ⟨rfl,rfl⟩
 ·refine VR.mono (fun b o hb ζ e=>⟨fun q=>?_,kget kk e⟩) kk.t (VR.tup ge ha hr)
  rcases mema q with q | q
  ·rw [mem1 q] at e; exact absurd (Heap.lt_size e) (Nat.lt_irrefl _)
  ·exact hb q
theorem ASG.utup {ns:List (Str × Pos)} {n:Nat} {pos:Pos} {vs:List V} (hl:ns.length = vs.length) (hS:∀ p ∈ ns,Stores c p.1) :
  ASG c k σ (.Tuple (ns.map fun p=>.Name p.1 p.2) n pos) (.tup vs) (setAll σ (ns.map (·.1)) vs):=.tup ITER.tup rfl ⟨_,F.slot_tuple_iter.lookup⟩ hl hS
theorem ASG.ulst {ns:List (Str × Pos)} {n:Nat} {pos:Pos} {vs:List V} (hl:ns.length = vs.length) (hS:∀ p ∈ ns,Stores c p.1) :
  ASG c k σ (.Tuple (ns.map fun p=>.Name p.1 p.2) n pos) (.lst vs) (setAll σ (ns.map (·.1)) vs):=.tup ITER.lst rfl ⟨_,slot_list_iter.lookup⟩ hl hS
noncomputable def ASGL (c:Cx) (k:Nat) (σ:St) (t:Expr) (v:V) (σ':St) : Prop:=∀ A s x,Fit k A → R c σ s → VR c.S0 (msOf c σ) s v x → WP c.w A (assign t c.env x) (fun ζ s'=>R c σ' s' ∧ Chg [c.env.locals] s s') s
theorem storeVarL {x:Str} {v:V} {y:Value} {A:Around} {s:Shared} (r:R c σ s) (hy:VR c.S0 (msOf c σ) s v y) (hx:c.env.kindOf x = some .local) :
  WP c.w A (storeName c.env x y) (fun ζ s'=>R c (σ.set x v) s' ∧ Chg [c.env.locals] s s') s:=by
 refine WPmono (storeVar2 r hy (.inl hx)) fun ζ s' ⟨h1,h2⟩=>⟨h1.1,?_⟩
 obtain ⟨h',tk,rfl,ht,hs,ho⟩:=h2 hx
 exact chg_same hs ho ht
theorem assign_namesL {A:Around} (ns:List (Str × Pos)) : ∀ (vs:List V) (xs:List Value) (σ:St) (s:Shared),(∀ p ∈ ns,c.env.kindOf p.1 = some .local) → R c σ s → VRs c.S0 (msOf c σ) s vs xs → ns.length = vs.length →
  WP c.w A (assignInOrder (ns.map fun p=>assign (.Name p.1 p.2) c.env) xs) (fun ζ s'=>R c (setAll σ (ns.map (·.1)) vs) s' ∧ Chg [c.env.locals] s s') s:=by
 induction ns with
 | nil=>
  intro vs xs σ s hS r h hl
  cases vs with
  | cons=>cases hl
  | nil=>cases h; exact wpAny_pure ⟨r,.of_kp (krefl s)⟩
 | cons p ns ih=>
  intro vs xs σ s hS r h hl
  cases h with
  | nil=>cases hl
  | @cons v x vs xs hv hvs=>
   show WP c.w A (do holding xs (assign (.Name p.1 p.2) c.env x); assignInOrder (ns.map fun p=>assign (.Name p.1 p.2) c.env) xs) _ s
   refine wpAny_bind (wpAny_holding (WPmono (wpAny_assign_Name (storeVarL r hv (hS p (.head _)))) fun ζ s₁ h₁=>?_))
   have hvs' : VRs c.S0 (msOf c (σ.set p.1 v)) s₁ vs xs:=hvs.mono (h₁.2.up fun a ha=>by rw [mem1 ha]; exact memL _ (.head _)) h₁.2.toks
   refine WPmono (ih vs xs _ s₁ (fun q hq=>hS q (.tail _ hq)) h₁.1 hvs' (Nat.succ.inj hl)) fun ζ s₂ h₂=>⟨h₂.1,h₁.2.trans h₂.2⟩
theorem ASGL.name {x:Str} {p:Pos} {v:V} (h:c.env.kindOf x = some .local) : ASGL c k σ (.Name x p) v (σ.set x v):=fun A s y f r hy=>wpAny_assign_Name (storeVarL r hy h)
theorem ASGL.utup {ns:List (Str × Pos)} {n:Nat} {pos:Pos} {vs:List V} (hl:ns.length = vs.length) (hS:∀ p ∈ ns,c.env.kindOf p.1 = some .local) :
  ASGL c k σ (.Tuple (ns.map fun p=>.Name p.1 p.2) n pos) (.tup vs) (setAll σ (ns.map (·.1)) vs):=by
 intro A s x f r hx
 rw [arm_assign_Tuple]
 refine wpAny_bind (wpAny_standAt (ITER.names (p:=pos) ITER.tup rfl ⟨_,F.slot_tuple_iter.lookup⟩ hl f r hx fun s₃ xs k₃ r₃ hxs=>?_))
 exact WPmono (assign_namesL ns vs xs σ s₃ hS r₃ hxs hl) fun ζ s₄ ⟨r₄,st₄⟩=>⟨r₄,(Chg.of_kp k₃).trans st₄⟩
end
end Mine.Internal
end
section
namespace Mine.Internal
section
variable {w:World} {S0:Shared} {k:Nat} {c:Cx} {σ:St}
noncomputable def EVT (c:Cx) (k:Nat) (σ:St) (ifs:List Expr) (b:Bool) : Prop:=∀ A s,Fit k A → R c σ s → WP c.w A (forIn ifs true fun e r=>if r = true then do let ok ← isTrue e c.env (eval e c.env); pure (ForInStep.yield ok) else pure (ForInStep.yield r)) (fun x s'=>x = b ∧ Kp s s') s
theorem EVT.nil : EVT c k σ [] true:=fun A s f r=>wpAny_pure ⟨rfl,krefl s⟩
theorem EVT.one {e:Expr} {b:Bool} (h:EVB c k σ e b) : EVT c k σ [e] b:=fun A s f r=>wpAny_tests_one (h A s f r)
theorem take_succ_fm {f:V → Option V} {vs:List V} {i:Nat} {v:V} (h:vs[i]? = some v) : (vs.take (i + 1)).filterMap f = (vs.take i).filterMap f ++ (f v).toList:=by
 rw [List.take_add_one,h,List.filterMap_append]
 cases hf : f v <;> simp [hf]
end
end Mine.Internal
end
section
namespace Mine.Internal
section
variable {w:World} {S0:Shared} {k:Nat} {c:Cx} {σ:St}
theorem chg0_same {s:Shared} {I:Addr} {h':Heap} (hs:Heap.SameBut I s.heap h') : Chg0 [I] s { s with heap:=h' }:=
 ⟨⟨h',s.toks,rfl⟩,fun b o hb e=>hs.extBut b o (fun q=>hb (by simp [q])) e,Nat.le_refl _⟩
theorem let_go {C:Addr} {s s':Shared} {σ':St} {h':Heap} (r:R c σ s) (r':R (c.wo ([C] ++ c.out)) σ' s') (hn:∀ b ∈ [C],NewC s s' b) (hs:Heap.SameBut C s'.heap h') : R c σ' { s' with heap:=h' }:=by
 have hC:=hn C (by simp)
 refine r.chgN r' (chg0_same hs) (fun b hb=>?_) (fun p hp q=>?_) fun a ha q=>?_
 ·rw [mem1 hb]
  refine Option.eq_none_iff_forall_ne_some.mpr fun o e=>?_
  obtain ⟨o',e'⟩:=r.glob.old.there _ _ e
  exact hC.ne e'
 ·obtain ⟨u,o,e,_⟩:=(r.cells p hp).2
  exact (hn _ q).ne e
 ·obtain ⟨o,e⟩:=r.live a ha
  exact (hn _ q).ne e
theorem vr_go {C:Addr} {s':Shared} {h':Heap} {v:V} {x:Value} (h:VR c.S0 (msOf (c.wo ([C] ++ c.out)) σ) s' v x) (hs:Heap.SameBut C s'.heap h') : VR c.S0 (msOf c σ) { s' with heap:=h' } v x:=by
 have up : Up (msOf (c.wo ([C] ++ c.out)) σ) (msOf c σ) s' { s' with heap:=h' }:=fun b o hb ζ e=>by
  refine ⟨fun q=>hb ?_,hs.extBut b o (fun q=>hb (memR _ (q ▸ .head _))) e⟩
  rcases mema q with q | q
  ·exact memL _ q
  ·exact memR _ (.tail _ q)
 exact h.mono up (Nat.le_refl _)
end
end Mine.Internal
end
section
namespace Mine.Internal
section
variable {w:World} {S0:Shared} {k:Nat} {c:Cx} {σ:St} {Q:AF → St → Prop} {rest:List Stmt} {pos xp:Pos} {x:Str} {e:Expr} {v:V}
theorem EXs.assign (h:EV c k σ e v) (hx:Stores c x) (hr:EXs c k (σ.set x v) rest Q) (hs:swapsWith e (some (.Name x xp)) pos.line c.env = pure false:=by rfl) : EXs c k σ (.Assign [.Name x xp] e pos :: rest) Q:=.cons (.assign h hx hr hs)
theorem EXs.ret {pos:Pos} (h:EV c k σ e v) (hQ:Q (.ret v) σ) : EXs c k σ (.Return (some e) pos :: rest) Q:=.cons (.ret h hQ)
theorem EXs.ite {test:Expr} {body orelse:List Stmt} {b:Bool} (h:EVB c k σ test b) (ht:b = true → EXs c k σ body (Seq c k rest Q)) (he:b = false → EXs c k σ orelse (Seq c k rest Q)) : EXs c k σ (.If test body orelse pos :: rest) Q:=.cons (.ite h ht he)
theorem EXs.done (h:EXs c k σ rest Q) : EXs c k σ [] (Seq c k rest Q):=.nil h
theorem EXs.iteF {test:Expr} {body:List Stmt} (h:EVB c k σ test false) (hr:EXs c k σ rest Q) : EXs c k σ (.If test body [] pos :: rest) Q:=EXs.ite h (fun q=>nomatch q) fun ζ=>EXs.done hr
theorem EX.assignT {t:Expr} {σ':St} (h:EV c k σ e v) (ha:ASG c k σ t v σ') (hQ:Q .next σ') (hs:exec (.Assign [t] e pos) c.env = (do standAt pos; let v ← eval e c.env; PySem.assign t c.env v; pure .next)) : EX c k σ (.Assign [t] e pos) Q:=by
 intro A s f r
 rw [hs]
 refine wpAny_bind (wpAny_standAt (wpAny_bind (WPmono (h A s f r) fun y s₁ w0=>?_)))
 obtain ⟨hy,k₁⟩:=w0
 refine wpAny_bind (WPmono (ha A s₁ y f (r.keeps k₁) hy) fun ζ s₂ ⟨r₂,st₂⟩=>wpAny_pure ⟨.next,_,hQ,r₂,trivial,(Step.of_keeps k₁).trans st₂⟩)
theorem EXs.assignT {t:Expr} {σ':St} (h:EV c k σ e v) (ha:ASG c k σ t v σ') (hr:EXs c k σ' rest Q) (hs:exec (.Assign [t] e pos) c.env = (do standAt pos; let v ← eval e c.env; PySem.assign t c.env v; pure .next):=by rfl) : EXs c k σ (.Assign [t] e pos :: rest) Q:=.cons (.assignT h ha hr hs)
theorem EV.eq {v':V} (h:EV c k σ e v) (hv:v = v') : EV c k σ e v':=hv ▸ h
theorem EVB.eq {b b':Bool} (h:EVB c k σ e b) (hv:b = b') : EVB c k σ e b':=hv ▸ h
theorem op_max3 {a b c:Int} : OPn w S0 k (fun xs=>call (.builtin "max") xs) [.int a,.int b,.int c] (.int (max a (max b c))):=fun ms A s xs f g h=>by
 obtain ⟨x,y,z,rfl,ha,hb,hc⟩:=h.three
 cases ha; cases hb; cases hc
 refine WPtk (max_three_ints f.hh fun h' tk hk ht=>?_)
 refine ⟨?_,kheap hk⟩
 exact ite_p (P:=VR S0 ms _ (.int _)) (fun h1=>ite_p (P:=VR S0 ms _ (.int _)) (fun h2=>by rw [max3a h1 h2]; exact .int _ _) fun h2=>by rw [max3b h1 h2]; exact .int _ _) fun h1=>ite_p (P:=VR S0 ms _ (.int _)) (fun h2=>by rw [max3c h1 h2]; exact .int _ _) fun h2=>by rw [max3d h1 h2]; exact .int _ _
theorem op_min3 {a b c:Int} : OPn w S0 k (fun xs=>call (.builtin "min") xs) [.int a,.int b,.int c] (.int (min a (min b c))):=fun ms A s xs f g h=>by
 obtain ⟨x,y,z,rfl,ha,hb,hc⟩:=h.three
 cases ha; cases hb; cases hc
 refine WPtk (min_three_ints f.hh fun h' tk hk ht=>?_)
 refine ⟨?_,kheap hk⟩
 exact ite_p (P:=VR S0 ms _ (.int _)) (fun h1=>ite_p (P:=VR S0 ms _ (.int _)) (fun h2=>by rw [min3a h1 h2]; exact .int _ _) fun h2=>by rw [min3b h1 h2]; exact .int _ _) fun h1=>ite_p (P:=VR S0 ms _ (.int _)) (fun h2=>by rw [min3c h1 h2]; exact .int _ _) fun h2=>by rw [min3d h1 h2]; exact .int _ _
theorem K1_of {f:Addr} {o:Obj} (h:(K0 w).lookup f = some o) (hc:(!(o.cls == Value.none) || f == cStatics) = true) : (K1 w).lookup f = some o:=by
 have hn : ((K1 w).map (·.1)).Nodup:=List.Sublist.nodup (List.Sublist.map _ List.filter_sublist) (K0_keys w.params)
 exact nodup_of_lookups (p:=(f,o)) hn (List.mem_filter.mpr ⟨mem_of_lookupA h,hc⟩)
end
end Mine.Internal
end
section
namespace Mine.Internal
noncomputable def fr (a b:Int) : UInt64:=Float64.ofFrac (decide (a < 0) != decide (b < 0)) a.natAbs b.natAbs
noncomputable def frOk (a b:Int) : Bool:=b != 0 && !Float64.isInf (fr a b)
noncomputable def rgbV (r g b:Int) : V:=
 let maxc:=max r (max g b)
 let minc:=min r (min g b)
 let rangec:=maxc - minc
 if minc = maxc then .tup [.flt 0,.flt 0,.int maxc] else
 let s:=fr rangec maxc
 let rc:=fr (maxc - r) rangec
 let gc:=fr (maxc - g) rangec
 let bc:=fr (maxc - b) rangec
 let h:=if r = maxc then Float64.sub bc gc else if g = maxc then Float64.sub (Float64.add 4611686018427387904 rc) bc else Float64.sub (Float64.add 4616189618054758400 gc) rc
 .tup [.flt (Float64.divmod (Float64.div h 4618441417868443648) 4607182418800017408).snd,.flt s,.int maxc]
noncomputable def rgbOk (r g b:Int) : Bool:=
 let maxc:=max r (max g b)
 let minc:=min r (min g b)
 let rangec:=maxc - minc
 minc == maxc || (frOk rangec maxc && frOk (maxc - r) rangec && frOk (maxc - g) rangec && frOk (maxc - b) rangec)
section
variable {w:World} {S0:Shared} {k:Nat} {c:Cx} {σ:St}
theorem op_fr {a b:Int} (h:frOk a b = true) : OP2 w S0 k (binaryOp .Div) (.int a) (.int b) (.flt (fr a b)):=by
 unfold frOk at h
 rw [Bool.and_eq_true] at h
 exact op_div (by simpa using h.1) (by simpa [fr] using h.2)
local macro_rules | `(tactic| tb_rel) => `(tactic| first
 | ((with_reducible refine' EV.name ?hl ?hd ?hn); (case hl=>rfl); (case hd=>decide); (case hn=>decide))
 | ((with_reducible refine' EV.bin ?hl ?hr ?ho); (case hl=>tb_rel); (case hr=>tb_rel); (case ho=>tb_start))
 | ((with_reducible refine' EV.cmp ?hl ?hr ?ho ?hm); (case hl=>tb_rel); (case hr=>tb_rel); (case ho=>tb_start); (case hm=>rfl))
 | with_reducible exact EV.int | with_reducible exact EV.str | with_reducible exact EV.bool | with_reducible exact EV.none | with_reducible exact EV.flt)
local macro_rules | `(tactic| tb_start) => `(tactic| first
 | with_reducible exact op_add | with_reducible exact op_sub | with_reducible exact op_max3 | with_reducible exact op_min3 | with_reducible exact op_eq | with_reducible exact op_fsub | with_reducible exact op_fadd
 | ((with_reducible refine op_fr ?_); assumption) | ((with_reducible refine op_fdiv ?_); decide +kernel) | ((with_reducible refine op_fmod ?_); decide +kernel))
set_option maxHeartbeats 1000000 in
theorem rgb_ok (r g b:Int) (hok:rgbOk r g b = true) : FN w S0 (k + 1) 78 [.int r,.int g,.int b] (rgbV r g b):=by
 refine FN.intro (ns:=["r","g","b"]) (K1_of (by rfl) (by rfl)) (by kernel_rfl) (args3 fun ζ ζ ζ=>rfl) (by rfl) (by decide) (by decide) rfl rfl rfl (fun X=>?_)
 ·refine EXs.assign (v:=.int (max r (max g b))) (EV.callv (EV.boot (v:=.builtin "max") (by kernel_rfl) (by rfl) (by rfl)) (vs:=[.int r,.int g,.int b]) (EVL.ev (by rfl)) .builtin op_max3) (.inl (by rfl)) ?_
  refine EXs.assign (v:=.int (min r (min g b))) (EV.callv (EV.boot (v:=.builtin "min") (by kernel_rfl) (by rfl) (by rfl)) (vs:=[.int r,.int g,.int b]) (EVL.ev (by rfl)) .builtin op_min3) (.inl (by rfl)) ?_
  unfold rgbOk at hok
  unfold rgbV
  dsimp only at hok ⊢
  generalize max r (max g b) = maxc at hok ⊢
  generalize min r (min g b) = minc at hok ⊢
  refine EXs.assign (v:=.int (maxc - minc)) (by tb_rel) (.inl (by rfl)) ?_
  refine EXs.assign (v:=.int maxc) (by tb_rel) (.inl (by rfl)) ?_
  refine EXs.ite (b:=minc == maxc) (EVB.cmp (EV.name (by rfl)) (EV.name (by rfl)) op_eq) (fun h=>?_) (fun h=>?_)
  ·rw [if_pos (by simpa using h)]
   exact EXs.ret (EV.tuple (EVL.cons EV.flt (EVL.cons EV.flt (EVL.ev (by rfl))))) rfl
  ·rw [if_neg (by simpa using h)]
   rw [h,Bool.false_or,Bool.and_eq_true,Bool.and_eq_true,Bool.and_eq_true] at hok
   obtain ⟨⟨⟨h1,h2⟩,h3⟩,h4⟩:=hok
   refine EXs.done ?_
   refine EXs.assign (v:=.flt (fr (maxc - minc) maxc)) (by tb_rel) (.inl (by rfl)) ?_
   refine EXs.assign (v:=.flt (fr (maxc - r) (maxc - minc))) (by tb_rel) (.inl (by rfl)) ?_
   refine EXs.assign (v:=.flt (fr (maxc - g) (maxc - minc))) (by tb_rel) (.inl (by rfl)) ?_
   refine EXs.assign (v:=.flt (fr (maxc - b) (maxc - minc))) (by tb_rel) (.inl (by rfl)) ?_
   generalize fr (maxc - minc) maxc = s
   generalize fr (maxc - r) (maxc - minc) = rc
   generalize fr (maxc - g) (maxc - minc) = gc
   generalize fr (maxc - b) (maxc - minc) = bc
   refine EXs.ite (b:=r == maxc) (EVB.cmp (EV.name (by rfl)) (EV.name (by rfl)) op_eq) (fun h=>?_) (fun h=>?_)
   ·rw [if_pos (by simpa using h)]
    refine EXs.assign (v:=.flt (Float64.sub bc gc)) (by tb_rel) (.inl (by rfl)) (EXs.done ?_)
    refine EXs.assign (v:=.flt _) (by tb_rel) (.inl (by rfl)) ?_
    exact EXs.ret (EV.tuple (EVL.ev (by rfl))) rfl
   ·rw [if_neg (by simpa using h)]
    refine EXs.ite (b:=g == maxc) (EVB.cmp (EV.name (by rfl)) (EV.name (by rfl)) op_eq) (fun h=>?_) (fun h=>?_)
    ·rw [if_pos (by simpa using h)]
     refine EXs.assign (v:=.flt _) (by tb_rel) (.inl (by rfl)) (EXs.done ?_)
     refine EXs.done ?_
     refine EXs.assign (v:=.flt _) (by tb_rel) (.inl (by rfl)) ?_
     exact EXs.ret (EV.tuple (EVL.ev (by rfl))) rfl
    ·rw [if_neg (by simpa using h)]
     refine EXs.assign (v:=.flt _) (by tb_rel) (.inl (by rfl)) (EXs.done ?_)
     refine EXs.done ?_
     refine EXs.assign (v:=.flt _) (by tb_rel) (.inl (by rfl)) ?_
     exact EXs.ret (EV.tuple (EVL.ev (by rfl))) rfl
end
end Mine.Internal
end
section
namespace Mine.Internal
section
variable {w:World} {S0:Shared} {k:Nat} {c:Cx} {σ:St}
theorem op_fd {a b:Int} (h:b ≠ 0) (h2:b.natAbs < 1073741824) : OP2 w S0 k (binaryOp .FloorDiv) (.int a) (.int b) (.int (a.fdiv b)):=op_floordiv h (PyProof.noPylong_small h2)
theorem op_pow {a b:Int} (hn:0 ≤ b) (hsz:(Builtin.Int.intBits a:Int) * b ≤ 2 ^ 27) : OP2 w S0 k (binaryOp .Pow) (.int a) (.int b) (.int (a ^ b.toNat)):=fun ζ ζ ζ ζ ζ ζ g hx hy=>by
 w_dflts hx; w_dflts hy; exact pow_int hn hsz ⟨.int _ _,ktoks _⟩
theorem op_addS {a b:Str} (h:a.length + b.length ≤ sizeLine) : OP2 w S0 k (binaryOp .Add) (.str a) (.str b) (.str (a ++ b)):=fun ζ ζ ζ ζ ζ ζ g hx hy=>by
 w_dflts hx; w_dflts hy
 refine P.add_str ?_
 have e0 : ∀ x : Str,(x.length == 0) = true → x = ⟨#[]⟩:=fun x h=>by
  have : x.cps.size = 0:=by simpa [Str.length] using h
  cases x; simp at this; rw [this]
 by_cases h1 : (a.length == 0) = true
 ·rw [if_pos h1]
  have : a ++ b = b:=by rw [e0 a h1]; show (⟨#[] ++ b.cps⟩ : Str) = b; simp
  rw [this]; exact ⟨.str _ _,krefl _⟩
 ·rw [if_neg h1]
  by_cases h2 : (b.length == 0) = true
  ·rw [if_pos h2]
   have : a ++ b = a:=by rw [e0 b h2]; show (⟨a.cps ++ #[]⟩ : Str) = a; simp
   rw [this]; exact ⟨.str _ _,krefl _⟩
  ·rw [if_neg h2]
   refine ⟨?_,.str _ _,ktoks _⟩
   show (a.cps ++ b.cps).size ≤ sizeLine
   rw [Array.size_append]; exact h
theorem op_addL {a b:List V} (h:a.length + b.length ≤ sizeLine) : OP2 w S0 k (binaryOp .Add) (.lst a) (.lst b) (.lst (a ++ b)):=fun ms A s x y f g hx hy=>by
 cases hx.inv with | @mk l xs n ge hm hr=>
 cases hy.inv with | @mk l' ys n' ge' hm' hr'=>
 refine P.add_list ge ge' ⟨?_,kpush _ _⟩ ?_
 ·have:=hr.append hr'
  refine .lst (xs:=xs ++ ys) (Heap.get?_push_size _ rfl) g.fresh ?_
  rw [Array.toList_append]; exact this.keeps (kpush _ _)
 ·rw [hr.size,hr'.size]; exact h
theorem VRs.ints {ms:List Addr} {s:Shared} {ns:List Int} {xs:List Value} (h:VRs S0 ms s (ns.map V.int) xs) : ∃ ps : List (Int × Tok),xs = ps.map (fun p=>Value.int p.1 p.2) ∧ ps.map (·.1) = ns:=by
 induction ns generalizing xs with
 | nil=>cases h; exact ⟨[],rfl,rfl⟩
 | cons n ns ih=>
  cases h with | cons ha h=>
  cases ha.inv with | mk t=>
  obtain ⟨ps,rfl,rfl⟩:=ih h
  exact ⟨(n,t) :: ps,rfl,rfl⟩
theorem VRs.intItems {ms:List Addr} {s:Shared} {ns:List Int} {xs:Array Value} (h:VRs S0 ms s (ns.map V.int) xs.toList) : ∃ ps : Array (Int × Tok),xs = PySem.intItems ps ∧ ps.toList.map (·.1) = ns:=by
 obtain ⟨ps,h1,h2⟩:=VRs.ints h
 exact ⟨ps.toArray,by unfold PySem.intItems; apply Array.toList_inj.mp; rw [h1]; simp,by simpa using h2⟩
theorem numAt_eq {ps:Array (Int × Tok)} {ns:List Int} (h:ps.toList.map (·.1) = ns) (i:Nat) : numAt ps i = (ns[i]?).getD 0:=by
 unfold numAt
 rw [← h,List.getElem?_map]; simp
theorem op_itemL {vs:List V} {i:Int} {v:V} (h0:0 ≤ i) (h1:i < 2 ^ 63) (hv:vs[i.toNat]? = some v) : OP2 w S0 k getItem (.lst vs) (.int i) v:=fun ms A s x y f g hx hy=>by
 cases hx.inv with | @mk l xs n ge hm hr=>
 cases hy.inv with | mk t=>
 obtain ⟨z,hz,hr'⟩:=hr.get hv
 exact wpAny_getItem_list ⟨_,ge,rfl,_,rfl⟩ h0 h1 (by simpa using hz) ⟨hr',krefl _⟩
theorem op_itemT {vs:List V} {i:Int} {v:V} (h0:0 ≤ i) (h1:i < 2 ^ 63) (hv:vs[i.toNat]? = some v) : OP2 w S0 k getItem (.tup vs) (.int i) v:=fun ms A s x y f g hx hy=>by
 cases hx.inv with | @mk l xs n ge hm hr=>
 cases hy.inv with | mk t=>
 obtain ⟨z,hz,hr'⟩:=hr.get hv
 have hlt : i.toNat < xs.size:=by
  rw [List.getElem?_eq_some_iff] at hz; obtain ⟨h,_⟩:=hz; simpa using h
 refine P.getItem_tuple (items:=xs) ge (by w_left) h1 (k:=i.toNat) ?_ (by simpa using hz) ⟨hr',krefl _⟩
 unfold seqIndex?
 have : ¬ i < 0:=Int.not_lt.mpr h0
 simp only [this,if_false]
 rw [if_pos (by simp only [Bool.and_eq_true,decide_eq_true_eq]; exact ⟨h0,(Int.toNat_lt h0).mp hlt⟩)]
theorem op_itemS {x:Str} {i:Int} {c:Nat} (h:(decide (i < -(2 ^ 63:Int)) || decide (i ≥ 2 ^ 63)) = false) (hc:(seqIndex? i x.length).bind (x.cps[·]?) = some c) : OP2 w S0 k getItem (.str x) (.int i) (.str ⟨#[c]⟩):=fun ms A s y z f g hx hy=>by
 w_dflts hx; w_dflts hy
 exact P.getItem_str h hc ⟨.str _ _,ktoks _⟩
theorem op_lenL {vs:List V} (h:(vs.length:Int) < 2 ^ 63) : OPn w S0 k (fun xs=>call (.builtin "len") xs) [.lst vs] (.int vs.length):=fun ms A s xs f g h'=>by
 obtain ⟨x,rfl,hx⟩:=h'.one
 cases hx.inv with | @mk l xs n ge hm hr=>
 refine call_len_list (items:=xs) ⟨_,ge,rfl,_,rfl⟩ (by rw [hr.size]; exact h) ⟨?_,ktoks _⟩
 rw [hr.size]; exact .int _ _
theorem op_lenS {x:Str} (h:¬ (x.length:Int) ≥ 2 ^ 63) : OPn w S0 k (fun xs=>call (.builtin "len") xs) [.str x] (.int x.length):=fun ms A s xs f g h'=>by
 obtain ⟨y,rfl,hx⟩:=h'.one
 w_dflts hx
 exact P.len_str h ⟨.int _ _,ktoks _⟩
theorem op_sum {ns:List Int} : OPn w S0 k (fun xs=>call (.builtin "sum") xs) [.lst (ns.map V.int)] (.int ns.sum):=fun ms A s xs f g h'=>by
 obtain ⟨x,rfl,hx⟩:=h'.one
 cases hx.inv with | @mk l xs n ge hm hr=>
 obtain ⟨ps,rfl,hp⟩:=VRs.intItems hr
 refine WPtk (sum_intListG f.hh ⟨_,ge,rfl,_,rfl⟩ fun h' tk t' hk ht=>⟨?_,kheap hk⟩)
 have : preSum (numAt ps) ps.size = ns.sum:=by
  have key : ∀ j,j ≤ ns.length → preSum (numAt ps) j = (ns.take j).sum:=by
   intro j
   induction j with
   | zero=>intro _; rfl
   | succ j ih=>
    intro hj
    show preSum (numAt ps) j + numAt ps j = _
    rw [ih (Nat.le_of_succ_le hj),numAt_eq hp,List.take_add_one,List.sum_append]
    rw [List.getElem?_eq_getElem hj]; simp
  have hs : ps.size = ns.length:=by rw [← hp]; simp
  rw [hs,key _ (Nat.le_refl _),List.take_length]
 rw [this]; exact .int _ _
theorem op_max2 {a b:Int} : OPn w S0 k (fun xs=>call (.builtin "max") xs) [.int a,.int b] (.int (max a b)):=fun ms A s xs f g h=>by
 obtain ⟨x,y,rfl,ha,hb⟩:=h.two
 cases ha; cases hb
 refine WPtk (max_two_ints f.hh fun h' tk hk ht=>⟨?_,kheap hk⟩)
 exact ite_p (P:=VR S0 ms _ (.int _)) (fun h=>by rw [max_r h]; exact .int _ _) fun h=>by rw [max_l h]; exact .int _ _
theorem of_three {s:Shared} {ms:List Addr} {a b c:Int} {xs:Array Value} (h:VRs S0 ms s [.int a,.int b,.int c] xs.toList) : ∃ ps : Array (Int × Tok),xs = intItems ps ∧ ps.size - 1 = 2 ∧ numAt ps 0 = a ∧ numAt ps 1 = b ∧ numAt ps 2 = c ∧ 0 < ps.size:=by
 obtain ⟨ps,e,hp⟩:=VRs.intItems (ns:=[a,b,c]) h
 have hs : ps.size = 3:=(Array.length_toList.symm.trans (List.length_map (f:=(·.1))).symm).trans (congrArg List.length hp)
 exact ⟨ps,e,by rw [hs],numAt_eq hp 0,numAt_eq hp 1,numAt_eq hp 2,by rw [hs]; decide⟩
theorem op_max3L {a b c:Int} : OPn w S0 k (fun xs=>call (.builtin "max") xs) [.lst [.int a,.int b,.int c]] (.int (max a (max b c))):=fun ms A s xs f g h'=>by
 obtain ⟨x,rfl,hx⟩:=h'.one
 cases hx.inv with | @mk l xs n ge hm hr=>
 obtain ⟨ps,rfl,hs,rfl,rfl,rfl,hp⟩:=of_three hr
 refine WPtk (max_intList f.hh ⟨_,ge,rfl,_,rfl⟩ hp fun v h' tk hv hk ht=>⟨?_,kheap hk⟩)
 obtain ⟨t,rfl⟩:=intItems_at hv
 rw [hs,best_max (numAt ps)]; exact .int _ _
theorem op_min3L {a b c:Int} : OPn w S0 k (fun xs=>call (.builtin "min") xs) [.lst [.int a,.int b,.int c]] (.int (min a (min b c))):=fun ms A s xs f g h'=>by
 obtain ⟨x,rfl,hx⟩:=h'.one
 cases hx.inv with | @mk l xs n ge hm hr=>
 obtain ⟨ps,rfl,hs,rfl,rfl,rfl,hp⟩:=of_three hr
 refine WPtk (min_intList f.hh ⟨_,ge,rfl,_,rfl⟩ hp fun v h' tk hv hk ht=>⟨?_,kheap hk⟩)
 obtain ⟨t,rfl⟩:=intItems_at hv
 rw [hs,best_min (numAt ps)]; exact .int _ _
theorem sorted_unique : ∀ {a b:List Int},a.Perm b → a.Pairwise (· ≤ ·) → b.Pairwise (· ≤ ·) → a = b
 | [],b,hp,_,_=>hp.nil_eq
 | x :: a,[],hp,_,_=>absurd hp.length_eq (by simp)
 | x :: a,y :: b,hp,ha,hb=>by
  rw [List.pairwise_cons] at ha hb
  have h1 : x ≤ y:=by
   have:=hp.symm.subset (.head b)
   rcases memc this with h | h
   ·w_left
   ·exact ha.1 y h
  have h2 : y ≤ x:=by
   have:=hp.subset (.head a)
   rcases memc this with h | h
   ·w_left
   ·exact hb.1 x h
  have h3 : x = y:=by w_left
  subst h3
  rw [sorted_unique (List.Perm.cons_inv hp) ha.2 hb.2]
theorem op_sorted {ns ns':List Int} (h:ns.length < 64) (hp:ns'.Perm ns) (hs:ns'.Pairwise (· ≤ ·)) : OPn w S0 k (fun xs=>call (.builtin "sorted") xs) [.lst (ns.map V.int)] (.lst (ns'.map V.int)):=fun ms A s xs f g h'=>by
 obtain ⟨x,rfl,hx⟩:=h'.one
 cases hx.inv with | @mk l xs n ge hm hr=>
 have hlen:=hr.length
 obtain ⟨ps,hps,hpn⟩:=VRs.ints hr
 have hI : ∀ ps : List (Int × Tok),IntsAre (ps.map fun p=>Value.int p.1 p.2) (ps.map (·.1)):=fun ps=>by
  induction ps with
  | nil=>exact .nil
  | cons p ps ih=>exact .cons _ _ ih
 refine sorted_ints (vs:=xs.toList) (ns:=ns) ⟨_,ge,rfl,_,rfl⟩ (by rw [hps,← hpn]; exact hI ps) (by rw [hlen]; simpa using h) fun out ns'' ho hp'' hs''=>?_
 have e : ns'' = ns':=sorted_unique (hp''.trans hp.symm) hs'' hs
 subst e
 obtain ⟨e,he⟩:=sortedAll_at s.heap xs.toList out
 have kk : Kp s { s with heap:=sortedAll s.heap xs.toList out }:=kheap fun b o e=>sortedAll_old e
 refine ⟨.lst (n:=e) he (fun q=>?_) ?_,kk⟩
 ·obtain ⟨o,e⟩:=g.live _ q
  exact absurd (Heap.lt_size e) (Nat.not_lt.mpr (Nat.le_succ _))
 ·have : ∀ {l:List Value} {ns:List Int},IntsAre l ns → VRs S0 ms { s with heap:=sortedAll s.heap xs.toList out } (ns.map V.int) l:=fun h=>by
   induction h with
   | nil=>exact .nil
   | cons n t _ ih=>exact .cons (.int _ _) ih
  exact this ho
end
end Mine.Internal
end
section
namespace Mine.Internal
section
variable {w:World} {S0:Shared} {k:Nat} {c:Cx} {σ:St}
noncomputable def intIs (i:Int) : Value → Bool
 | .int j _=>j == i
 | _=>false
theorem op_count {ns:List Int} {i:Int} : OPn w S0 k (fun xs=>call (.builtin "list.count") xs) [.lst (ns.map V.int),.int i] (.int (ns.countP (· == i) : Nat)):=fun ms A s xs f g h=>by
 obtain ⟨x,y,rfl,hx,hy⟩:=h.two
 cases hx.inv with | @mk l xs n ge hm hr=>
 cases hy.inv with | mk t=>
 obtain ⟨ps,h1,h2⟩:=VRs.ints hr
 refine call_meets F.slot_list_count ⟨_,ge,rfl⟩ F.entry_list_count (F.args_list_count_2 _ _) (SeqAt.list_countAt l xs n none #[] (.int i t) (intIs i)) ⟨ge,fun y hy=>?_,?_,ktoks _⟩
 ·have : y ∈ xs.toList:=by simpa using hy
  rw [h1] at this
  obtain ⟨p,_,rfl⟩:=memm this
  exact SeqAt.EqAt.int_int _ _ _ _
 ·have : xs.toList.countP (intIs i) = ns.countP (· == i):=by
   rw [h1,← h2,List.countP_map,List.countP_map]; rfl
  rw [this]; exact .int _ _
theorem op_index {ns:List Int} {i:Int} {j:Nat} (hj:ns[j]? = some i) (hno:∀ m,m < j → ns[m]? ≠ some i) (hs:ns.length < 64) : OPn w S0 k (fun xs=>call (.builtin "list.index") xs) [.lst (ns.map V.int),.int i] (.int j):=fun ms A s xs f g h=>by
 obtain ⟨x,y,rfl,hx,hy⟩:=h.two
 cases hx.inv with | @mk l xs n ge hm hr=>
 cases hy.inv with | mk t=>
 obtain ⟨ps,h1,h2⟩:=VRs.ints hr
 have hsz:=hr.size
 rw [List.length_map] at hsz
 have hlt : j < ns.length:=by rw [List.getElem?_eq_some_iff] at hj; exact hj.1
 have at' : ∀ m (hm:m < xs.size),intIs i xs[m] = (ns[m]? == some i):=fun m hm=>by
  have e1 : xs.toList[m]? = some xs[m]:=by simp [hm]
  rw [h1,List.getElem?_map] at e1
  cases hp : ps[m]? with
  | none=>rw [hp] at e1; cases e1
  | some p=>
   rw [hp] at e1
   have e2 : ns[m]? = some p.1:=by rw [← h2,List.getElem?_map,hp]; rfl
   have e3 : Value.int p.1 p.2 = xs[m]:=by simpa using e1
   rw [← e3,e2]; simp [intIs]
 refine call_meets F.slot_list_index ⟨_,ge,rfl⟩ F.entry_list_index (F.args_list_index_2 _ _) (SeqAt.list_indexAt l xs n none #[] (.int i t) (intIs i) j (by (first | lia | omega)) (by (first | lia | omega)) ?_ ?_) ⟨ge,fun y hy=>?_,.int _ _,ktoks _⟩
 ·rw [at' j (by w_left),hj]; simp
 ·intro m hm hmj
  rw [at' m hm]; simpa using hno m hmj
 ·have : y ∈ xs.toList:=by simpa using hy
  rw [h1] at this
  obtain ⟨p,_,rfl⟩:=memm this
  exact SeqAt.EqAt.int_int _ _ _ _
theorem m_count : Meth "list" "count" "list.count":=⟨F.plainAttrs_list,F.slot_list_count,F.type_list_count⟩
theorem m_index : Meth "list" "index" "list.index":=⟨F.plainAttrs_list,F.slot_list_index,F.type_list_index⟩
theorem m_lower : Meth "str" "lower" "str.lower":=⟨F.plainAttrs_str,F.slot_str_lower,F.type_str_lower⟩
theorem m_upper : Meth "str" "upper" "str.upper":=⟨F.plainAttrs_str,F.slot_str_upper,F.type_str_upper⟩
theorem m_find : Meth "str" "find" "str.find":=⟨F.plainAttrs_str,F.slot_str_find,F.type_str_find⟩
theorem m_sindex : Meth "str" "index" "str.index":=⟨F.plainAttrs_str,F.slot_str_index,F.type_str_index⟩
theorem m_starts : Meth "str" "startswith" "str.startswith":=⟨F.plainAttrs_str,F.slot_str_startswith,F.type_str_startswith⟩
theorem m_ends : Meth "str" "endswith" "str.endswith":=⟨F.plainAttrs_str,F.slot_str_endswith,F.type_str_endswith⟩
theorem m_isspace : Meth "str" "isspace" "str.isspace":=⟨F.plainAttrs_str,F.slot_str_isspace,F.type_str_isspace⟩
theorem m_split : Meth "str" "split" "str.split":=⟨F.plainAttrs_str,F.slot_str_split,F.type_str_split⟩
theorem m_join : Meth "str" "join" "str.join":=⟨F.plainAttrs_str,F.slot_str_join,F.type_str_join⟩
theorem op_lower {x:Str} (h:Builtin.Str.tooLong (Txt.lower x).length = false) : OPn w S0 k (fun xs=>call (.builtin "str.lower") xs) [.str x] (.str (Txt.lower x)):=fun ms A s xs f g h'=>by
 obtain ⟨y,rfl,hx⟩:=h'.one; w_dflts hx; exact SC.lower h ⟨.str _ _,ktoks _⟩
theorem op_upper {x:Str} (h:Builtin.Str.tooLong (Txt.upper x).length = false) : OPn w S0 k (fun xs=>call (.builtin "str.upper") xs) [.str x] (.str (Txt.upper x)):=fun ms A s xs f g h'=>by
 obtain ⟨y,rfl,hx⟩:=h'.one; w_dflts hx; exact SC.upper h ⟨.str _ _,ktoks _⟩
theorem op_isspace {x:Str} : OPn w S0 k (fun xs=>call (.builtin "str.isspace") xs) [.str x] (.bool (Txt.isspace x)):=fun ms A s xs f g h'=>by
 obtain ⟨y,rfl,hx⟩:=h'.one; w_dflts hx; exact SC.isspace ⟨.bool _,krefl _⟩
theorem op_find {x y:Str} : OPn w S0 k (fun xs=>call (.builtin "str.find") xs) [.str x,.str y] (.int (Txt.find x y)):=fun ms A s xs f g h'=>by
 obtain ⟨a,b,rfl,hx,hy⟩:=h'.two; w_dflts hx; w_dflts hy; exact SC.find ⟨.int _ _,ktoks _⟩
theorem op_starts {x y:Str} : OPn w S0 k (fun xs=>call (.builtin "str.startswith") xs) [.str x,.str y] (.bool (Txt.startswith x y)):=fun ms A s xs f g h'=>by
 obtain ⟨a,b,rfl,hx,hy⟩:=h'.two; w_dflts hx; w_dflts hy; exact SC.startswith ⟨.bool _,krefl _⟩
theorem op_ends {x y:Str} : OPn w S0 k (fun xs=>call (.builtin "str.endswith") xs) [.str x,.str y] (.bool (Txt.endswith x y)):=fun ms A s xs f g h'=>by
 obtain ⟨a,b,rfl,hx,hy⟩:=h'.two; w_dflts hx; w_dflts hy; exact SC.endswith ⟨.bool _,krefl _⟩
theorem op_sindex {x y:Str} {i:Nat} {r:List Nat} (h:Builtin.Str.occurrences x y 0 x.length 1 = i :: r) : OPn w S0 k (fun xs=>call (.builtin "str.index") xs) [.str x,.str y] (.int i):=fun ms A s xs f g h'=>by
 obtain ⟨a,b,rfl,hx,hy⟩:=h'.two; w_dflts hx; w_dflts hy; exact SC.index h ⟨.int _ _,ktoks _⟩
theorem VRs.strs {ms:List Addr} {s:Shared} {ns:List Str} {xs:List Value} (h:VRs S0 ms s (ns.map V.str) xs) : ∃ ps : List (Str × Tok),xs = strValues ps ∧ ps.map (·.1) = ns:=by
 induction ns generalizing xs with
 | nil=>cases h; exact ⟨[],rfl,rfl⟩
 | cons n ns ih=>
  cases h with | cons ha h=>
  cases ha.inv with | mk t=>
  obtain ⟨ps,rfl,rfl⟩:=ih h
  exact ⟨(n,t) :: ps,rfl,rfl⟩
theorem op_join {x:Str} {ns:List Str} (h:JoinOk x ns = true) : OPn w S0 k (fun xs=>call (.builtin "str.join") xs) [.str x,.lst (ns.map V.str)] (.str (Txt.join x ns)):=fun ms A s xs f g h'=>by
 obtain ⟨a,b,rfl,hx,hy⟩:=h'.two
 w_dflts hx
 cases hy.inv with | @mk l xs n ge hm hr=>
 obtain ⟨ps,h1,h2⟩:=VRs.strs hr
 refine WPtk (SC.join (l:=ps) (texts:=ns) ⟨_,ge,rfl,n,by rw [← h1]⟩ h2 h fun t' k' ht=>⟨.str _ _,ktoks _ ht⟩)
theorem strsFrom_vr {ms:List Addr} {s:Shared} : ∀ (n:Nat) (xs:List Str),VRs S0 ms s (xs.map V.str) (strsFrom n xs)
 | _,[]=>.nil
 | n,x :: xs=>.cons (.str _ _) (strsFrom_vr (n + 1) xs)
theorem op_split0 {x:Str} (h1:x.length ≤ sizeLine) (h2:(Builtin.Str.spaceWords x (x.length + 1)).length ≤ sizeLine) (h3:(Builtin.Str.spaceWords x (x.length + 1) == [(0,x.length)]) = false) : OPn w S0 k (fun xs=>call (.builtin "str.split") xs) [.str x] (.lst ((PySem.wordsOf x).map V.str)):=fun ms A s xs f g h'=>by
 obtain ⟨a,rfl,hx⟩:=h'.one
 w_dflts hx
 refine call_meets F.slot_str_split (typeIs_str _ _ _) F.entry_str_split (F.args_str_split_1 _) (meets_str_split_space x _ h1 h2) ?_
 rw [h3]
 refine ⟨.lst (Heap.get?_push_size _ rfl) g.fresh (strsFrom_vr _ _),kpush _ _ (Nat.le_add_right _ _)⟩
theorem op_split1 {x y:Str} (h1:x.length ≤ sizeLine) (h2:(Builtin.Str.partsBetween x (Builtin.Str.occurrences x y 0 x.length (x.length + 1)) y.length).length ≤ sizeLine) (h3:(decide (x.length < y.length) || decide (Builtin.Str.strKind x < Builtin.Str.strKind y)) = false) (h4:(y.length == 0) = false) (h5:(Builtin.Str.occurrences x y 0 x.length (x.length + 1)).isEmpty = false) :
  OPn w S0 k (fun xs=>call (.builtin "str.split") xs) [.str x,.str y] (.lst ((Builtin.Str.partsBetween x (Builtin.Str.occurrences x y 0 x.length (x.length + 1)) y.length).map V.str)):=fun ms A s xs f g h'=>by
 obtain ⟨a,b,rfl,hx,hy⟩:=h'.two
 w_dflts hx; w_dflts hy
 refine call_meets F.slot_str_split (typeIs_str _ _ _) F.entry_str_split (F.args_str_split_2 _ _) (meets_str_split_sep x y _ _ h3 h4 h5 h1 h2) ?_
 exact ⟨.lst (Heap.get?_push_size _ rfl) g.fresh (strsFrom_vr _ _),kpush _ _ (Nat.le_add_right _ _)⟩
end
end Mine.Internal
end
section
namespace Mine.Internal
section
variable {w:World} {S0:Shared} {k:Nat} {c:Cx} {σ:St}
noncomputable def EVP (c:Cx) (k:Nat) (σ:St) : Option Expr → Option Int → Prop
 | none,v=>v = none
 | some e,some i=>EV c k σ e (.int i)
 | some _,none=>False
theorem EVP.ev {o:Option Expr} {v:Option Int} (h:EVP c k σ o v) {A:Around} {s:Shared} (f:Fit k A) (r:R c σ s) : WP c.w A (evalPart o c.env) (fun x s'=>IsPart x v ∧ Kp s s') s:=by
 cases o with
 | none=>
  have h : v = none:=h
  subst h
  exact wpAny_pure ⟨.none,krefl s⟩
 | some e=>
  cases v with
  | none=>exact h.elim
  | some i=>
   refine WPmono (h A s f r) fun x s' ⟨hx,kk⟩=>⟨?_,kk⟩
   w_dflts hx; exact .int _ _
theorem IsPart.val {x:Value} {v:Option Int} (h:IsPart x v) : ∃ p : Option (Int × Tok),x = partValue p ∧ p.map (·.1) = v:=by
 cases h with
 | none=>exact ⟨none,rfl,rfl⟩
 | int i t=>exact ⟨some (i,t),rfl,rfl⟩
theorem wp_slice {e:Expr} {lo hi:Option Expr} {p pos:Pos} {l u:Option Int} {a:V} {A:Around} {s:Shared} {Q:Value → Shared → Prop} {id:String} (he:EV c k σ e a) (hf:a.flat = true) (hty:typeLookup (.type a.ty) "__getitem__" = pure (some (.builtin id))) (hl:EVP c k σ lo l) (hu:EVP c k σ hi u) (f:Fit k A) (r:R c σ s)
  (h:∀ x vl vu s₃,Kp s s₃ → R c σ s₃ → VR c.S0 (msOf c σ) s₃ a x → IsPart vl l → IsPart vu u → WP c.w A (getItem x (.ref s₃.heap.objs.size)) Q { s₃ with heap:=s₃.heap.push { cls:=.type "slice",data:=.fields #[vl,vu,.none] } })
  (ht:∀ o r,letTemporaryGo e o r = pure ():=by intro _ _; rfl) : WP c.w A (eval (.Subscript e (.Slice lo hi none p) pos) c.env) Q s:=by
 refine wpAny_Subscript_Slice hty (WPmono (he A s f r) fun x s₁ w0=>?_) ht
 obtain ⟨hx,k₁⟩:=w0
 refine wpAny_Slice (WPmono (hl.ev f (r.keeps k₁)) fun vl s₂ ⟨hvl,k₂⟩=>WPmono (hu.ev f ((r.keeps k₁).keeps k₂)) fun vu s₃ w0=>?_)
 obtain ⟨hvu,k₃⟩:=w0
 rw [evalPart_none]
 have k13:=ktrans k₁ (ktrans k₂ k₃)
 have hx':=(hx.keeps k₂).keeps k₃
 refine wpAny_pure ⟨?_,h x vl vu s₃ k13 (r.keeps k13) hx' hvl hvu⟩
 exact (hx'.keeps (kpush _ _)).typeIs hf
theorem wp_slice3 {e st:Expr} {lo hi:Option Expr} {p pos:Pos} {l u:Option Int} {z:Int} {a:V} {A:Around} {s:Shared} {Q:Value → Shared → Prop} {id:String} (he:EV c k σ e a) (hf:a.flat = true) (hty:typeLookup (.type a.ty) "__getitem__" = pure (some (.builtin id))) (hl:EVP c k σ lo l) (hu:EVP c k σ hi u) (hz:EV c k σ st (.int z)) (f:Fit k A) (r:R c σ s)
  (h:∀ x vl vu t s₃,Kp s s₃ → R c σ s₃ → VR c.S0 (msOf c σ) s₃ a x → IsPart vl l → IsPart vu u → WP c.w A (getItem x (.ref s₃.heap.objs.size)) Q { s₃ with heap:=s₃.heap.push { cls:=.type "slice",data:=.fields #[vl,vu,.int z t] } })
  (ht:∀ o r,letTemporaryGo e o r = pure ():=by intro _ _; rfl) : WP c.w A (eval (.Subscript e (.Slice lo hi (some st) p) pos) c.env) Q s:=by
 refine wpAny_Subscript_Slice_step hty (WPmono (he A s f r) fun x s₁ w0=>?_) ht
 obtain ⟨hx,k₁⟩:=w0
 refine wpAny_Slice (WPmono (hl.ev f (r.keeps k₁)) fun vl s₂ ⟨hvl,k₂⟩=>WPmono (hu.ev f ((r.keeps k₁).keeps k₂)) fun vu s₃ w0=>?_)
 obtain ⟨hvu,k₃⟩:=w0
 have k13:=ktrans k₁ (ktrans k₂ k₃)
 rw [evalPart_some]
 refine WPmono (hz A s₃ f (r.keeps k13)) fun vz s₄ w0=>?_
 obtain ⟨hvz,k₄⟩:=w0
 cases hvz.inv with | mk t=>
 have k14:=ktrans k13 k₄
 have hx':=((hx.keeps k₂).keeps k₃).keeps k₄
 exact ⟨(hx'.keeps (kpush _ _)).typeIs hf,h x vl vu t s₄ k14 (r.keeps k14) hx' hvl hvu⟩
noncomputable def pickV (vs:List V) (lo hi st:Option Int) : List V:=(sliceRange (sliceBounds lo hi st vs.length).1 (sliceBounds lo hi st vs.length).2.1 (sliceBounds lo hi st vs.length).2.2).filterMap (vs[·]?)
theorem VRs.pick {ms:List Addr} {s:Shared} {vs:List V} {xs:Array Value} (h:VRs S0 ms s vs xs.toList) (is:List Nat) : VRs S0 ms s (is.filterMap (vs[·]?)) (is.filterMap (xs[·]?)):=by
 induction is with
 | nil=>exact .nil
 | cons i is ih=>
  have hl:=h.size
  by_cases hi : i < vs.length
  ·obtain ⟨x,v,h1,h2,h3⟩:=h.at hi
   rw [List.filterMap_cons_some h2,List.filterMap_cons_some h1]
   exact .cons h3 ih
  ·rw [List.filterMap_cons_none (by simp; w_left),List.filterMap_cons_none (by simp; w_left)]
   exact ih
theorem VR.pickL {ms:List Addr} {s:Shared} {vs:List V} {xs:Array Value} {lo hi st:Option Int} (h:VRs S0 ms s vs xs.toList) : VRs S0 ms s (pickV vs lo hi st) (slicePick xs lo hi st).toList:=by
 unfold slicePick pickV
 rw [h.size]
 simpa using h.pick _
theorem ev_sliceL {e:Expr} {lo hi:Option Expr} {p pos:Pos} {l u:Option Int} {vs:List V} (he:EV c k σ e (.lst vs)) (hl:EVP c k σ lo l) (hu:EVP c k σ hi u) (hs:vs.length ≤ sizeLine)
  (ht:∀ o r,letTemporaryGo e o r = pure ():=by intro _ _; rfl) : EV c k σ (.Subscript e (.Slice lo hi none p) pos) (.lst (pickV vs l u none)):=by
 intro A s f r
 refine wp_slice he rfl F.slot_list_getitem.lookup hl hu f r (fun x vl vu s₃ k₃ r₃ hx hvl hvu=>?_) ht
 cases hx.inv with | @mk a xs n ge hm hr=>
 have k4 : Kp s₃ { s₃ with heap:=s₃.heap.push { cls:=.type "slice",data:=.fields #[vl,vu,.none] } }:=kpush _ _
 refine wpAny_getItem_list_slice (items:=xs) ⟨_,kget k4 ge,rfl,_,rfl⟩ (.new _ _ _ _) hvl hvu .none nofun ⟨?_,ktrans k₃ (ktrans k4 (kpush _ _))⟩ (by rw [hr.size]; exact hs)
 exact .lst (Heap.get?_push_size _ rfl) (r₃.keeps k4).gl.fresh ((VR.pickL hr).keeps (ktrans k4 (kpush _ _)))
theorem ev_sliceL3 {e st:Expr} {lo hi:Option Expr} {p pos:Pos} {l u:Option Int} {z:Int} {vs:List V} (he:EV c k σ e (.lst vs)) (hl:EVP c k σ lo l) (hu:EVP c k σ hi u) (hz:EV c k σ st (.int z)) (h0:z ≠ 0) (hs:vs.length ≤ sizeLine)
  (ht:∀ o r,letTemporaryGo e o r = pure ():=by intro _ _; rfl) : EV c k σ (.Subscript e (.Slice lo hi (some st) p) pos) (.lst (pickV vs l u (some z))):=by
 intro A s f r
 refine wp_slice3 he rfl F.slot_list_getitem.lookup hl hu hz f r (fun x vl vu t s₃ k₃ r₃ hx hvl hvu=>?_) ht
 cases hx.inv with | @mk a xs n ge hm hr=>
 have k4 : Kp s₃ { s₃ with heap:=s₃.heap.push { cls:=.type "slice",data:=.fields #[vl,vu,.int z t] } }:=kpush _ _
 refine wpAny_getItem_list_slice (items:=xs) ⟨_,kget k4 ge,rfl,_,rfl⟩ (.new _ _ _ _) hvl hvu (.int _ _) (by simpa using h0) ⟨?_,ktrans k₃ (ktrans k4 (kpush _ _))⟩ (by rw [hr.size]; exact hs)
 exact .lst (Heap.get?_push_size _ rfl) (r₃.keeps k4).gl.fresh ((VR.pickL hr).keeps (ktrans k4 (kpush _ _)))
theorem ev_sliceT {e:Expr} {lo:Expr} {p pos:Pos} {l:Nat} {vs:List V} (he:EV c k σ e (.tup vs)) (hl:EV c k σ lo (.int l)) (h1:1 ≤ l) (h2:l ≤ vs.length) (hs:vs.length ≤ sizeLine)
  (ht:∀ o r,letTemporaryGo e o r = pure ():=by intro _ _; rfl) : EV c k σ (.Subscript e (.Slice (some lo) none none p) pos) (.tup (vs.drop l)):=by
 intro A s f r
 refine wp_slice (l:=some (l:Int)) (u:=none) he rfl F.slot_tuple_getitem.lookup hl rfl f r (fun x vl vu s₃ k₃ r₃ hx hvl hvu=>?_) ht
 cases hx.inv with | @mk a xs n ge hm hr=>
 cases hvl with | int _ t=>
 cases hvu
 have k4 : Kp s₃ { s₃ with heap:=s₃.heap.push { cls:=.type "slice",data:=.fields #[.int (l:Int) t,.none,.none] } }:=kpush _ _
 refine getItem_tuple_from (items:=xs) ⟨_,kget k4 ge,rfl,_,rfl⟩ (.new _ _ _ _) h1 (by rw [hr.size]; exact h2) ⟨?_,ktrans k₃ (ktrans k4 (kpush _ _))⟩ (by rw [hr.size]; exact hs)
 refine .tup (Heap.get?_push_size _ rfl) (r₃.keeps k4).gl.fresh ?_
 have : VRs c.S0 (msOf c σ) s₃ (vs.drop l) (xs.toList.drop l):=hr.drop l
 rw [toArray_toList]
 exact this.keeps (ktrans k4 (kpush _ _))
noncomputable def strPick (x:Str) (l u:Option Int) : Str:=if ((Builtin.Str.strSliceIndices l u 1 x.length).length == x.length) = true then x else ⟨((Builtin.Str.strSliceIndices l u 1 x.length).filterMap (x.cps[·]?)).toArray⟩
theorem ev_sliceS {e:Expr} {lo hi:Option Expr} {p pos:Pos} {l u:Option Int} {x:Str} (he:EV c k σ e (.str x)) (hl:EVP c k σ lo l) (hu:EVP c k σ hi u) (hs:(strPick x l u).length ≤ sizeLine)
  (ht:∀ o r,letTemporaryGo e o r = pure ():=by intro _ _; rfl) : EV c k σ (.Subscript e (.Slice lo hi none p) pos) (.str (strPick x l u)):=by
 intro A s f r
 refine wp_slice he rfl F.slot_str_getitem.lookup hl hu f r (fun y vl vu s₃ k₃ r₃ hx hvl hvu=>?_) ht
 cases hx.inv with | mk t=>
 obtain ⟨pl,rfl,e1⟩:=IsPart.val hvl
 obtain ⟨pu,rfl,e2⟩:=IsPart.val hvu
 have k4 : Kp s₃ { s₃ with heap:=s₃.heap.push { cls:=.type "slice",data:=.fields #[partValue pl,partValue pu,.none] } }:=kpush _ _
 refine wpAny_getItem_str_slice (l:=pl) (u:=pu) (st:=none) ⟨_,Heap.get?_push_size _ rfl,rfl,rfl⟩ rfl ?_
 unfold sliceMade slicePicked
 rw [e1,e2]
 unfold strPick at hs ⊢
 show (if (true && ((Builtin.Str.strSliceIndices l u 1 x.length).length == x.length)) = true then Made.val (.str x t) else Made.str ⟨((Builtin.Str.strSliceIndices l u 1 x.length).filterMap (x.cps[·]?)).toArray⟩).post _ _
 rw [Bool.true_and]
 split
 ·exact ⟨.str _ _,ktrans k₃ k4⟩
 ·rename_i h
  rw [if_neg h] at hs
  exact ⟨hs,.str _ _,ktrans k₃ (ktrans k4 (ktoks _))⟩
end
end Mine.Internal
end
section
namespace Mine.Internal
local macro_rules | `(tactic| tb_rel) => `(tactic| first
 | ((with_reducible refine' EV.name ?hl ?hd ?hn); (case hl=>rfl); (case hd=>decide); (case hn=>decide))
 | ((with_reducible refine' EV.bin ?hl ?hr ?ho); (case hl=>tb_rel); (case hr=>tb_rel); (case ho=>tb_start))
 | ((with_reducible refine' EV.cmp ?hl ?hr ?ho ?hm); (case hl=>tb_rel); (case hr=>tb_rel); (case ho=>tb_start); (case hm=>rfl))
 | with_reducible exact EV.int | with_reducible exact EV.str | with_reducible exact EV.bool | with_reducible exact EV.none | with_reducible exact EV.flt)
local macro_rules | `(tactic| tb_start) => `(tactic| first
 | with_reducible exact op_add | with_reducible exact op_sub | with_reducible exact op_max3 | with_reducible exact op_min3 | with_reducible exact op_eq | with_reducible exact op_lt | with_reducible exact op_fsub | with_reducible exact op_fadd
 | ((with_reducible refine op_mul ?_); mul_fits)
 | ((with_reducible refine op_fr ?_); assumption) | ((with_reducible refine op_mod ?_); decide) | ((with_reducible refine op_fdiv ?_); decide +kernel) | ((with_reducible refine op_fmod ?_); decide +kernel))
noncomputable def cnt (ns:List Int) (i:Int) : Int:=(ns.countP (· == i) : Nat)
noncomputable def lightV (ns:List Int) : V:=rgbV (cnt ns 0) (cnt ns 1) (cnt ns 2)
noncomputable def lightOk (ns:List Int) : Bool:=rgbOk (cnt ns 0) (cnt ns 1) (cnt ns 2)
noncomputable def dueV (lo mi hi:Int) : V:=
 if lo = hi then .tup [.flt (fr lo 3),.int 1,.int 3] else
 if lo < mi ∧ mi < hi then .tup [.int 0,.int 0,.int 1] else
 if (lo + hi - 2 * mi).fmod 3 = 1 then .tup [.flt (fr (4 * mi + 1) 12),.int 1,.int 2] else
 .tup [.flt (fr ((4 * mi + 11).fmod 12) 12),.int 1,.int 2]
noncomputable def dueOk (lo mi hi:Int) : Bool:=frOk lo 3 && frOk (4 * mi + 1) 12 && frOk ((4 * mi + 11).fmod 12) 12
section
variable {w:World} {S0:Shared} {k:Nat} {c:Cx} {σ:St}
theorem light_ok (ns:List Int) (hok:lightOk ns = true) : FN w S0 (k + 2) 270 [.lst (ns.map V.int)] (lightV ns):=by
 refine FN.intro (ns:=["ties"]) (K1_of (by rfl) (by rfl)) (by kernel_rfl) (args1 fun ζ=>rfl) (by rfl) (by decide) (by decide) rfl rfl rfl (fun X=>?_)
 ·refine EXs.ret (EV.callv (EV.glob (v:=.ref 78) (by kernel_rfl) (by rfl)) (vs:=[.int (cnt ns 0),.int (cnt ns 1),.int (cnt ns 2)]) ?_ (.top (by kernel_rfl)) (rgb_ok _ _ _ hok)) rfl
  refine EVL.cons (EV.meth (EV.name (v:=.lst (ns.map V.int)) (by rfl)) rfl m_count (EVL.ev (by rfl)) op_count) (EVL.cons (EV.meth (EV.name (v:=.lst (ns.map V.int)) (by rfl)) rfl m_count (EVL.ev (by rfl)) op_count) (EVL.cons (EV.meth (EV.name (v:=.lst (ns.map V.int)) (by rfl)) rfl m_count (EVL.ev (by rfl)) op_count) EVL.nil))
theorem due_ok (ns:List Int) (lo mi hi:Int) (hl:ns.length < 64) (hp:[lo,mi,hi].Perm ns) (hs:[lo,mi,hi].Pairwise (· ≤ ·)) (hok:dueOk lo mi hi = true) : FN w S0 (k + 2) 277 [.lst (ns.map V.int)] (dueV lo mi hi):=by
 refine FN.intro (ns:=["ties"]) (K1_of (by rfl) (by rfl)) (by kernel_rfl) (args1 fun ζ=>rfl) (by rfl) (by decide) (by decide) rfl rfl rfl (fun X=>?_)
 ·unfold dueOk at hok
  rw [Bool.and_eq_true,Bool.and_eq_true] at hok
  obtain ⟨⟨h1,h2⟩,h3⟩:=hok
  refine EXs.assignT (v:=.lst ([lo,mi,hi].map V.int)) (EV.callv (EV.boot (v:=.builtin "sorted") (by kernel_rfl) (by rfl) (by rfl)) (EVL.ev (by rfl)) .builtin (op_sorted hl hp hs))
   (ASG.ulst (ns:=[("low",_),("middle",_),("high",_)]) rfl (fun p hp=>.inl (by
    simp only [List.mem_cons,List.not_mem_nil,or_false] at hp
    rcases hp with rfl | rfl | rfl <;> rfl))) ?_
  unfold dueV
  refine EXs.ite (b:=lo == hi) (EVB.cmp (EV.name (by rfl)) (EV.name (by rfl)) op_eq) (fun h=>?_) (fun h=>?_)
  ·rw [if_pos (by simpa using h)]
   exact EXs.ret (EV.tuple (EVL.cons (v:=.flt (fr lo 3)) (by tb_rel) (EVL.ev (by rfl)))) rfl
  rw [if_neg (by simpa using h)]
  refine EXs.done ?_
  refine EXs.ite (b:=decide (lo < mi) && decide (mi < hi)) (EVB.chain2 (p:=decide (lo < mi)) (EV.name (v:=.int lo) (by rfl)) (EV.name (v:=.int mi) (by rfl)) op_lt (fun ζ=>EV.name (v:=.int hi) (by rfl)) (fun h=>by rw [h]; exact op_lt) (fun h=>by rw [h]; rfl)) (fun h=>?_) (fun h=>?_)
  ·rw [if_pos (by simpa using h)]
   exact EXs.ret (EV.tuple (EVL.ev (by rfl))) rfl
  rw [if_neg (by simpa using h)]
  refine EXs.done ?_
  refine EXs.ite (b:=(lo + hi - 2 * mi).fmod 3 == 1) (EVB.cmp (a:=.int ((lo + hi - 2 * mi).fmod 3)) (by tb_rel) EV.int op_eq) (fun h=>?_) (fun h=>?_)
  ·rw [if_pos (by simpa using h)]
   exact EXs.ret (EV.tuple (EVL.cons (v:=.flt (fr (4 * mi + 1) 12)) (by tb_rel) (EVL.ev (by rfl)))) rfl
  rw [if_neg (by simpa using h)]
  refine EXs.done ?_
  exact EXs.ret (EV.tuple (EVL.cons (v:=.flt (fr ((4 * mi + 11).fmod 12) 12)) (by tb_rel) (EVL.ev (by rfl)))) rfl
end
end Mine.Internal
end
section
namespace Mine.Internal
open Sre (M forSearch header)
noncomputable def rxC : Array Nat:=#[14,8,1,2,4294967295,1,1,46,0,16,46,24,9,1,4294967295,13,4,8,0,0,1,6,5,1]
noncomputable def mA (text:Array Nat) (n s:Nat) (first:Bool) (seen:Sre.Seen) : M:=
 { code:=rxC,text,lim:=n,start:=s,lastStart:=n,pc:=9,pos:=s,handed:=s,outermost:=first,marks:=#[],lastmark:=-1,lastindex:=-1,frames:=[{ wait:=.nextStart,pc:=9,pos:=s,outermost:=first }],weight:=1,seen }
noncomputable def mF (text:Array Nat) (n s pc pos:Nat) (first:Bool) (seen:Sre.Seen) : M:=
 { code:=rxC,text,lim:=n,start:=s,lastStart:=n,pc,pos,handed:=s,outermost:=first,marks:=#[],lastmark:=-1,lastindex:=-1,frames:=[{ wait:=.nextStart,pc:=9,pos:=s,outermost:=first }],weight:=1,seen }
theorem rx_start (text:Array Nat) (n:Nat) (h:2 ≤ n) : ∃ seen,forSearch rxC text 0 0 n false = mA text n 0 true seen:=by
 refine ⟨({} : Sre.Seen).add 14,?_⟩
 unfold forSearch
 have h1 : (decide (0 > n) || decide (n - 0 < (header rxC).1)) = false:=by
  have : (header rxC).1 = 2:=by decide
  rw [this]; simp; w_left
 dsimp only
 rw [h1]
 rfl
theorem rx_short (text:Array Nat) (n:Nat) (h:n < 2) : (M.step (forSearch rxC text 0 0 n false)).outcome = some .failed:=by
 unfold forSearch
 have h1 : (decide (0 > n) || decide (n - 0 < (header rxC).1)) = true:=by
  have : (header rxC).1 = 2:=by decide
  rw [this]; simp; w_left
 dsimp only
 rw [h1]
 rfl
theorem stepA_end {text:Array Nat} {n s:Nat} {first:Bool} {seen:Sre.Seen} (h:n ≤ s) : ∃ seen',M.step (mA text n s first seen) = { mA text n s first seen' with answer:=some false }:=by
 refine ⟨seen.add 16,?_⟩
 show M.exec (mA text n s first seen) = _
 show (if s ≥ n then _ else _) = _
 rw [if_pos h]; rfl
theorem stepA_no {text:Array Nat} {n s:Nat} {first:Bool} {seen:Sre.Seen} (h:s < n) (h2:text.getD s 0 ≠ 46) : ∃ seen',M.step (mA text n s first seen) = { mA text n s first seen' with answer:=some false }:=by
 refine ⟨seen.add 16,?_⟩
 show M.exec (mA text n s first seen) = _
 show (if s ≥ n then _ else match (Except.ok (text.getD s 0 == 46,seen.add 16) : Except String (Bool × Sre.Seen)) with | .error why=>_ | .ok (false,seen)=>_ | .ok (true,seen)=>_) = _
 rw [if_neg (Nat.not_le.mpr h),show (text.getD s 0 == 46) = false from by simpa using h2]; rfl
theorem stepA_yes {text:Array Nat} {n s:Nat} {first:Bool} {seen:Sre.Seen} (h:s < n) (h2:text.getD s 0 = 46) : ∃ seen',M.step (mA text n s first seen) = mF text n s 11 (s + 1) first seen':=by
 refine ⟨seen.add 16,?_⟩
 show M.exec (mA text n s first seen) = _
 show (if s ≥ n then _ else match (Except.ok (text.getD s 0 == 46,seen.add 16) : Except String (Bool × Sre.Seen)) with | .error why=>_ | .ok (false,seen)=>_ | .ok (true,seen)=>_) = _
 rw [if_neg (Nat.not_le.mpr h),show (text.getD s 0 == 46) = true from by simpa using h2]; rfl
theorem rx_back {text:Array Nat} {n s pc pos:Nat} {first:Bool} {seen:Sre.Seen} (h:s < n) : M.step { mF text n s pc pos first seen with answer:=some false } = mA text n (s + 1) false seen:=by
 show (if s < n then _ else _) = _
 rw [if_pos h]; rfl
theorem rx_out {text:Array Nat} {n s pc pos:Nat} {first:Bool} {seen:Sre.Seen} (h:¬ s < n) : (M.step (M.step { mF text n s pc pos first seen with answer:=some false })).outcome = some .failed:=by
 have : M.step { mF text n s pc pos first seen with answer:=some false } = { mF text n s 9 s first seen with answer:=some false,frames:=[],weight:=0 }:=by
  show (if s < n then _ else _) = _
  rw [if_neg h]; rfl
 rw [this]; rfl
theorem acc_digit (c:Nat) (seen:Sre.Seen) : ∃ seen',Sre.accepts rxC 15 c seen = .ok (Sre.isDigit c,seen'):=by
 have h : Sre.accepts rxC 15 c seen = Sre.inSet rxC c 24 17 true seen:=rfl
 have h1 : Sre.inSet rxC c 24 17 true seen = (do if ← Sre.category 0 c then pure (true,(seen.add 8).add 55) else Sre.inSet rxC c 23 19 true ((seen.add 8).add 55)):=rfl
 have h2 : Sre.category 0 c = .ok (Sre.isDigit c != false):=rfl
 rw [h,h1,h2]
 cases hd : Sre.isDigit c with
 | true=>exact ⟨_,rfl⟩
 | false=>exact ⟨_,rfl⟩
theorem stepB_short {text:Array Nat} {n s:Nat} {first:Bool} {seen:Sre.Seen} (h:n ≤ s + 1) : ∃ seen',M.step (mF text n s 11 (s + 1) first seen) = { mF text n s 11 (s + 1) first seen' with answer:=some false }:=by
 refine ⟨seen.add 24,?_⟩
 show (if ((1:Nat) : Int) > (n:Int) - ((s + 1:Nat) : Int) then _ else _) = _
 rw [if_pos (by w_left)]; rfl
theorem stepB_no {text:Array Nat} {n s:Nat} {first:Bool} {seen:Sre.Seen} (h:s + 1 < n) (hd:Sre.isDigit (text.getD (s + 1) 0) = false) : ∃ seen',M.step (mF text n s 11 (s + 1) first seen) = { mF text n s 11 (s + 1) first seen' with answer:=some false }:=by
 obtain ⟨sn,hs⟩:=acc_digit (text.getD (s + 1) 0) ((seen.add 24).add 13)
 rw [hd] at hs
 have hr : ∀ j,Sre.run rxC text 15 (j + 1) (s + 1) 0 ((seen.add 24).add 13) = .ok (0,sn):=fun j=>by
  show (do let (yes,seen) ← Sre.accepts rxC 15 (text.getD (s + 1) 0) ((seen.add 24).add 13); if yes then Sre.run rxC text 15 j (s + 1 + 1) (0 + 1) seen else pure (0,seen)) = _
  rw [hs]; rfl
 obtain ⟨j,hj⟩ : ∃ j,min 4294967295 ((n:Int) - ((s + 1:Nat) : Int)).toNat = j + 1:=⟨_,pred_succ (by rw [Int.toNat_sub]; exact Nat.lt_min.mpr ⟨by decide,Nat.sub_pos_of_lt h⟩)⟩
 refine ⟨sn,?_⟩
 show (if ((1:Nat) : Int) > (n:Int) - ((s + 1:Nat) : Int) then _ else match Sre.run rxC text 15 (min 4294967295 ((n:Int) - ((s + 1:Nat) : Int)).toNat) (s + 1) 0 ((seen.add 24).add 13) with | .error why=>_ | .ok (n,seen)=>_) = _
 rw [if_neg (by w_left),hj,hr]; rfl
theorem runFor_some {m:M} (h:m.outcome.isSome = true) : ∀ n,M.runFor n m = m
 | 0=>rfl
 | n + 1=>by show (if m.outcome.isSome = true then m else _) = m; rw [if_pos h]
theorem runFor_step {m:M} (h:m.outcome = none) (n:Nat) : M.runFor (n + 1) m = M.runFor n m.step:=by
 show (if m.outcome.isSome = true then m else _) = _
 rw [h]; rfl
theorem runFor_add (a b:Nat) (m:M) : M.runFor (a + b) m = M.runFor b (M.runFor a m):=by
 induction a generalizing m with
 | zero=>rw [Nat.zero_add]; rfl
 | succ a ih=>
  rw [Nat.succ_add]
  by_cases h : m.outcome.isSome = true
  ·rw [runFor_some h,runFor_some h,runFor_some h]
  ·have h' : m.outcome = none:=by simpa using h
   rw [runFor_step h',runFor_step h',ih]
noncomputable def EndsIn (n:Nat) (m:M) (o:Sre.Outcome) : Prop:=(M.runFor n m).outcome = some o
theorem EndsIn.step {n:Nat} {m m':M} {o:Sre.Outcome} (h:EndsIn n m' o) (hs:m.step = m') (hn:m.outcome = none) : EndsIn (n + 1) m o:=by
 unfold EndsIn; rw [runFor_step hn,hs]; exact h
theorem EndsIn.mono {n n':Nat} {m:M} {o:Sre.Outcome} (h:EndsIn n m o) (hn:n ≤ n') : EndsIn n' m o:=by
 obtain ⟨k,rfl⟩:=Nat.exists_eq_add_of_le hn
 unfold EndsIn at h ⊢
 rw [runFor_add,runFor_some (by rw [h]; rfl)]; exact h
theorem stepB_end {text:Array Nat} {n s:Nat} {first:Bool} {seen:Sre.Seen} (h:s + 2 = n) (hd:Sre.isDigit (text.getD (s + 1) 0) = true) : EndsIn 6 (mF text n s 11 (s + 1) first seen) .matched:=by
 obtain ⟨sn,hs⟩:=acc_digit (text.getD (s + 1) 0) ((seen.add 24).add 13)
 rw [hd] at hs
 have hr : Sre.run rxC text 15 1 (s + 1) 0 ((seen.add 24).add 13) = .ok (1,sn):=by
  show (do let (yes,seen) ← Sre.accepts rxC 15 (text.getD (s + 1) 0) ((seen.add 24).add 13); if yes then Sre.run rxC text 15 0 (s + 1 + 1) (0 + 1) seen else pure (0,seen)) = _
  rw [hs]; rfl
 have hj : min 4294967295 ((n:Int) - ((s + 1:Nat) : Int)).toNat = 1:=by rw [Int.toNat_sub,← h,Nat.add_sub_add_left]; rfl
 have h1 : M.step (mF text n s 11 (s + 1) first seen) = { mF text n s 21 (s + 2) first sn with handed:=s + 2,frames:=[{ wait:=.giveBack,pc:=11,pos:=s + 2,outermost:=first,count:=1 },{ wait:=.nextStart,pc:=9,pos:=s,outermost:=first }],weight:=2 }:=by
  show (if ((1:Nat) : Int) > (n:Int) - ((s + 1:Nat) : Int) then _ else match Sre.run rxC text 15 (min 4294967295 ((n:Int) - ((s + 1:Nat) : Int)).toNat) (s + 1) 0 ((seen.add 24).add 13) with | .error why=>_ | .ok (n,seen)=>_) = _
  rw [if_neg (by w_left),hj,hr]; rfl
 refine EndsIn.step (m':=_) ?_ h1 rfl
 have h2 : M.step { mF text n s 21 (s + 2) first sn with handed:=s + 2,frames:=[{ wait:=.giveBack,pc:=11,pos:=s + 2,outermost:=first,count:=1 },{ wait:=.nextStart,pc:=9,pos:=s,outermost:=first }],weight:=2 }
   = { mF text n s 23 (s + 2) first ((sn.add 6).add 48) with handed:=s + 2,frames:=[{ wait:=.giveBack,pc:=11,pos:=s + 2,outermost:=first,count:=1 },{ wait:=.nextStart,pc:=9,pos:=s,outermost:=first }],weight:=2 }:=by
  have e : (s + 2 == n || (s + 2 + 1 == n && text.getD (s + 2) 0 == 10)) = true:=by simp [h]
  show (if (s + 2 == n || (s + 2 + 1 == n && text.getD (s + 2) 0 == 10)) = true then ({ mF text n s 23 (s + 2) first ((sn.add 6).add 48) with handed:=s + 2,frames:=[{ wait:=.giveBack,pc:=11,pos:=s + 2,outermost:=first,count:=1 },{ wait:=.nextStart,pc:=9,pos:=s,outermost:=first }],weight:=2 } : M)
   else M.say { mF text n s 21 (s + 2) first ((sn.add 6).add 48) with handed:=s + 2,frames:=[{ wait:=.giveBack,pc:=11,pos:=s + 2,outermost:=first,count:=1 },{ wait:=.nextStart,pc:=9,pos:=s,outermost:=first }],weight:=2 } false) = _
  rw [e]; rfl
 refine EndsIn.step (m':=_) ?_ h2 rfl
 refine EndsIn.step (m':={ mF text n s 23 (s + 2) first (((sn.add 6).add 48).add 1) with handed:=s + 2,frames:=[{ wait:=.giveBack,pc:=11,pos:=s + 2,outermost:=first,count:=1 },{ wait:=.nextStart,pc:=9,pos:=s,outermost:=first }],weight:=2,answer:=some true }) ?_ ?_ rfl
 ·refine EndsIn.step (m':={ mF text n s 11 (s + 2) first (((sn.add 6).add 48).add 1) with handed:=s + 2,answer:=some true }) ?_ rfl rfl
  refine EndsIn.step (m':={ mF text n s 9 s first (((sn.add 6).add 48).add 1) with handed:=s + 2,frames:=[],weight:=0,answer:=some true }) ?_ rfl rfl
  exact EndsIn.step (m':={ mF text n s 9 s first (((sn.add 6).add 48).add 1) with handed:=s + 2,frames:=[],weight:=0,answer:=some true,outcome:=some .matched }) rfl rfl rfl
 ·show (if (first && ((false && _) || (false && _))) = true then _ else _) = _
  have e : ∀ a b : Bool,(first && ((false && a) || (false && b))) = false:=by intro a b; cases first <;> rfl
  rw [e]; rfl
noncomputable def noNum (text:Array Nat) : Prop:=∀ s,text.getD s 0 = 46 → s + 1 < text.size → Sre.isDigit (text.getD (s + 1) 0) = false
theorem rx_fail {text:Array Nat} (hn:noNum text) : ∀ (k s:Nat) (first:Bool) (seen:Sre.Seen),text.size - s = k → EndsIn (3 * k + 3) (mA text text.size s first seen) .failed:=by
 intro k
 induction k with
 | zero=>
  intro s first seen hk
  obtain ⟨sn,h⟩:=stepA_end (text:=text) (n:=text.size) (s:=s) (first:=first) (seen:=seen) (by w_left)
  refine EndsIn.step (m':=_) ?_ h rfl
  have:=rx_out (text:=text) (n:=text.size) (s:=s) (pc:=9) (pos:=s) (first:=first) (seen:=sn) (by w_left)
  unfold EndsIn
  rw [runFor_step rfl,runFor_step]
  ·exact this
  ·show (M.step { mF text text.size s 9 s first sn with answer:=some false }).outcome = none
   show (if s < text.size then _ else _:M).outcome = none
   rw [if_neg (by w_left)]; rfl
 | succ k ih=>
  intro s first seen hk
  have hs : s < text.size:=sub_left hk
  have nxt : ∀ {pc pos:Nat} {sn:Sre.Seen},EndsIn (3 * k + 3 + 1) { mF text text.size s pc pos first sn with answer:=some false } .failed:=fun {pc pos sn}=>
   EndsIn.step (ih (s + 1) false sn (sub_succ_of hk)) (rx_back hs) rfl
  by_cases h : text.getD s 0 = 46
  ·obtain ⟨s1,h1⟩:=stepA_yes (first:=first) (seen:=seen) hs h
   refine EndsIn.step (n:=3 * (k + 1) + 2) (m':=_) ?_ h1 rfl
   by_cases h3 : s + 1 < text.size
   ·obtain ⟨s2,h2⟩:=stepB_no (text:=text) (n:=text.size) (s:=s) (first:=first) (seen:=s1) h3 (hn s h h3)
    exact EndsIn.step (n:=3 * (k + 1) + 1) (nxt.mono (by w_left)) h2 rfl
   ·obtain ⟨s2,h2⟩:=stepB_short (text:=text) (n:=text.size) (s:=s) (first:=first) (seen:=s1) (by w_left)
    exact EndsIn.step (n:=3 * (k + 1) + 1) (nxt.mono (by w_left)) h2 rfl
  ·obtain ⟨s1,h1⟩:=stepA_no (first:=first) (seen:=seen) hs h
   exact EndsIn.step (n:=3 * (k + 1) + 2) (nxt.mono (by w_left)) h1 rfl
theorem rx_match {text:Array Nat} {p:Nat} (hp:p + 2 = text.size) (h46:text.getD p 0 = 46) (hd:Sre.isDigit (text.getD (p + 1) 0) = true) (hn:∀ s,s < p → text.getD s 0 = 46 → Sre.isDigit (text.getD (s + 1) 0) = false) :
  ∀ (k s:Nat) (first:Bool) (seen:Sre.Seen),p - s = k → s ≤ p → EndsIn (3 * k + 7) (mA text text.size s first seen) .matched:=by
 intro k
 induction k with
 | zero=>
  intro s first seen hk hsp
  have : s = p:=Nat.le_antisymm hsp (Nat.le_of_sub_eq_zero hk)
  subst this
  obtain ⟨s1,h1⟩:=stepA_yes (first:=first) (seen:=seen) (n:=text.size) (by w_left) h46
  exact EndsIn.step (stepB_end hp hd) h1 rfl
 | succ k ih=>
  intro s first seen hk hsp
  have hs : s < text.size:=by w_left
  have nxt : ∀ {pc pos:Nat} {sn:Sre.Seen},EndsIn (3 * k + 7 + 1) { mF text text.size s pc pos first sn with answer:=some false } .matched:=fun {pc pos sn}=>
   EndsIn.step (ih (s + 1) false sn (sub_succ_of hk) (sub_left hk)) (rx_back hs) rfl
  by_cases h : text.getD s 0 = 46
  ·obtain ⟨s1,h1⟩:=stepA_yes (first:=first) (seen:=seen) hs h
   refine EndsIn.step (n:=3 * (k + 1) + 6) (m':=_) ?_ h1 rfl
   obtain ⟨s2,h2⟩:=stepB_no (text:=text) (n:=text.size) (s:=s) (first:=first) (seen:=s1) (Nat.lt_of_le_of_lt (sub_left hk) (by w_left)) (hn s (sub_left hk) h)
   exact EndsIn.step (n:=3 * (k + 1) + 5) (nxt.mono (by w_left)) h2 rfl
  ·obtain ⟨s1,h1⟩:=stepA_no (first:=first) (seen:=seen) hs h
   exact EndsIn.step (n:=3 * (k + 1) + 6) (nxt.mono (by w_left)) h1 rfl
theorem srch_fail {text:Array Nat} (hn:noNum text) : EndsIn (3 * text.size + 3) (forSearch rxC text 0 0 text.size false) .failed:=by
 by_cases h : 2 ≤ text.size
 ·obtain ⟨seen,e⟩:=rx_start text text.size h
  rw [e]; exact rx_fail hn _ 0 true seen rfl
 ·have h1 : EndsIn 1 (forSearch rxC text 0 0 text.size false) .failed:=by
   have:=rx_short text text.size (by w_left)
   unfold EndsIn
   by_cases ho : (forSearch rxC text 0 0 text.size false).outcome = none
   ·rw [runFor_step ho]; exact this
   ·exfalso
    apply ho
    unfold forSearch
    have h1 : (decide (0 > text.size) || decide (text.size - 0 < (header rxC).1)) = true:=by
     have : (header rxC).1 = 2:=by decide
     rw [this]; simp; w_left
    dsimp only
    rw [h1]
    rfl
  exact h1.mono (by w_left)
theorem srch_match {text:Array Nat} {p:Nat} (hp:p + 2 = text.size) (h46:text.getD p 0 = 46) (hd:Sre.isDigit (text.getD (p + 1) 0) = true) (hn:∀ s,s < p → text.getD s 0 = 46 → Sre.isDigit (text.getD (s + 1) 0) = false) : EndsIn (3 * text.size + 7) (forSearch rxC text 0 0 text.size false) .matched:=by
 obtain ⟨seen,e⟩:=rx_start text text.size (by w_left)
 rw [e]; exact (rx_match hp h46 hd hn _ 0 true seen rfl (Nat.zero_le _)).mono (by w_left)
end Mine.Internal
end
section
namespace Mine.Internal
theorem pat_attrs : PlainAttrs "re.Pattern":=
 ⟨⟨"object.__getattribute__",by rw [typeLookup_type,builtinLookup_eq_fast]; kernel_rfl,by decide +kernel⟩,by rw [typeLookup_type,builtinLookup_eq_fast]; kernel_rfl⟩
theorem pat_slot : Slot "re.Pattern" "search" "re.Pattern.search":=
 .of (owner:="re.Pattern") (n:="search") (by rw [typeLookup_type,builtinLookup_eq_fast]; kernel_rfl) (by decide +kernel) (by decide +kernel) (by decide +kernel)
  (by first | exact .inl (by decide +kernel) | exact .inr (by decide +kernel)) (by rw [isSubtype_type]; kernel_rfl)
theorem pat_type : typeOf (.builtin "re.Pattern.search") = pure (.type "method_descriptor"):=by show builtinType _ = _; rw [builtinType_eq_fast]; kernel_rfl
theorem pat_entry : entryFor table "re.Pattern.search" = some Builtin.«re.Pattern.search»:=entryFor_of_tree (by kernel_rfl)
theorem pat_args (a b:Value) : argsOk "re.Pattern.search" ⟨[a,b],[]⟩:=by unfold argsOk; kernel_rfl
section
variable {w:World} {S0:Shared} {k:Nat} {c:Cx} {σ:St}
theorem drive_ok {A:Around} {s:Shared} {o:Sre.Outcome} {Q:Sre.M → Shared → Prop} : ∀ (t N:Nat) (m:Sre.M),EndsIn N m o → N ≤ 4 * t → 0 < t → (∀ m',m'.outcome = some o → Q m' s) → WP w A (Builtin.Re.reDrive t m) Q s
 | 0,_,_,_,_,h0,_=>absurd h0 (Nat.lt_irrefl _)
 | t + 1,N,m,h,hN,_,hQ=>by
  show WP w A (if (m.runFor 4).outcome.isSome = true then pure (m.runFor 4) else (do rule "sre.turn"; Builtin.Re.reDrive t (m.runFor 4))) Q s
  by_cases hs : (m.runFor 4).outcome.isSome = true
  ·rw [if_pos hs]
   refine wpAny_pure (hQ _ ?_)
   have h' : (Sre.M.runFor (4 + N) m).outcome = some o:=h.mono (Nat.le_add_left _ _)
   rw [runFor_add,runFor_some hs] at h'
   exact h'
  ·rw [if_neg hs]
   refine wpAny_bind (wpAny_rule ?_)
   have hN4 : 4 < N:=by
    rcases Nat.lt_or_ge 4 N with h4 | h4
    ·exact h4
    ·exact absurd (by rw [h.mono h4]; rfl) hs
   refine drive_ok t (N - 4) (m.runFor 4) ?_ (by w_left) (by w_left) hQ
   have e2 : 4 + (N - 4) = N:=by w_left
   have e : Sre.M.runFor (N - 4) (m.runFor 4) = Sre.M.runFor N m:=by rw [← runFor_add,e2]
   unfold EndsIn at h ⊢; rw [e]; exact h
theorem toEnd_ok {A:Around} {s:Shared} {o:Sre.Outcome} {Q:Option Sre.M → Shared → Prop} {N:Nat} {m:Sre.M} (h:EndsIn N m o) (hN:N ≤ 4 * 2 ^ 64) (h1:o = .failed → Q none s) (h2:o = .matched → ∀ m',Q (some m') s) (h3:∀ why,o ≠ .stuck why) : WP w A (Builtin.Re.reRunToEnd m) Q s:=by
 unfold Builtin.Re.reRunToEnd
 refine wpAny_bind (drive_ok _ N m h hN (Nat.two_pow_pos _) fun m' hm=>?_)
 refine wpAny_bind ?_
 refine wpAny_forIn_list _ (fun ζ ζ s'=>s' = s) _ (fun x rest b s' e=>?_) (fun b s' e=>?_) _ _ rfl
 ·subst e
  refine wpAny_ite_split (fun ζ=>wpAny_bind (wpAny_rule (wpAny_pure rfl))) (fun ζ=>wpAny_pure rfl)
 ·subst e
  rw [hm]
  cases o with
  | matched=>exact wpAny_pure (h2 rfl m')
  | failed=>exact wpAny_pure (h1 rfl)
  | stuck why=>exact absurd rfl (h3 why)
theorem K1_43 : ∃ t,(K0 w).lookup 43 = some { cls:=.type "re.Pattern",data:=.fields #[.str (Str.ofString "\\.\\d+$") t,.int 256 319,.int 0 0,.none,.none,.ref 42,.int 0 0] }:=⟨_,by rfl⟩
theorem K1_42 : ∃ xs n,(K0 w).lookup 42 = some { cls:=.type "tuple",data:=.seq xs n } ∧ (xs.map Builtin.Re.reRawOf).map (·.toNat) = rxC:=⟨_,_,by rfl,by kernel_rfl⟩
theorem search_tree {A:Around} {s:Shared} {x:Str} {t:Tok} {Q:PySem.Fin → Shared → Prop} (g:Glob w S0 s) (hx:x.cps.size < 2 ^ 62)
  (h:WP w A (Builtin.Re.reAnswer ⟨.ref 43,.str x t,rxC,x.cps,0,0,0,x.cps.size⟩ (Sre.forSearch rxC x.cps 0 0 x.cps.size false)) Q s) : WP w A (Builtin.«re.Pattern.search» ⟨[.ref 43,.str x t],[]⟩) Q s:=by
 obtain ⟨pt,h43⟩:=K1_43 (w:=w)
 obtain ⟨xs,n,h42,hc⟩:=K1_42 (w:=w)
 have g43:=g.old.get_of_cls (g.base.X _ _ h43) (cls_ne _)
 have g42:=g.old.get_of_cls (g.base.X _ _ h42) (cls_ne _)
 unfold Builtin.«re.Pattern.search»
 refine wpAny_bind ?_
 unfold Builtin.Re.reTarget
 have e : Builtin.Re.reNamed "re.Pattern.search" "search" ["string","pos","endpos"] 1 [.str x t] [] = pure [some (.str x t),none,none]:=by rfl
 show WP w A (do
  let [some string,pos?,lim?] ← Builtin.Re.reNamed "re.Pattern.search" "search" ["string","pos","endpos"] 1 [.str x t] [] | unsupported "internal:re:named"
  _) _ s
 rw [e]
 refine wpAny_bind (wpAny_pure ?_)
 dsimp only
 refine wpAny_bind (wpAny_pure (wpAny_bind (wpAny_pure ?_)))
 refine wpAny_bind ?_
 show WP w A (do match (← load 43).data with | .fields vs=>pure vs | _=>unsupported "internal:no-fields") _ s
 refine wpAny_bind (wpAny_load g43 (wpAny_pure ?_))
 refine wpAny_bind ?_
 show WP w A (pure (x.cps,0)) _ s
 refine wpAny_pure ?_
 dsimp only
 refine wpAny_bind ?_
 show WP w A (pure ()) _ s
 refine wpAny_pure ?_
 refine wpAny_bind ?_
 show WP w A (do return ((← (do match (← load 42).data with | .seq xs _=>pure (some xs) | _=>pure none : Sem (Option (Array Value)))).getD #[]).map Builtin.Re.reRawOf) _ s
 refine wpAny_bind (wpAny_bind (wpAny_load g42 (wpAny_pure (wpAny_pure ?_))))
 refine wpAny_pure ?_
 have e3 : min (2 ^ 63 - 1:Int).toNat x.cps.size = x.cps.size:=by
  have : (2 ^ 63 - 1:Int).toNat = 9223372036854775807:=by decide
  rw [this]; w_left
 have e4 : min (0:Int).toNat x.cps.size = 0:=by simp
 have e5 : Builtin.Re.reRawNat ((#[Value.str (Str.ofString "\\.\\d+$") pt,Value.int 256 319,Value.int 0 0,Value.none,Value.none,Value.ref 42,Value.int 0 0] : Array Value).getD 2 Value.none) = 0:=rfl
 dsimp only
 rw [e3,e4,e5,Option.getD_some,hc]
 exact h
theorem search_no {A:Around} {s:Shared} {x:Str} {t:Tok} {Q:Value → Shared → Prop} (g:Glob w S0 s) (hx:x.cps.size < 2 ^ 62) (hn:noNum x.cps) (hQ:Q .none s) : WP w A (call (.builtin "re.Pattern.search") [.ref 43,.str x t]) Q s:=by
 obtain ⟨pt,h43⟩:=K1_43 (w:=w)
 have g43:=g.old.get_of_cls (g.base.X _ _ h43) (cls_ne _)
 refine wpAny_call_entry pat_slot ⟨_,g43,rfl⟩ pat_entry ?_ (pat_args _ _)
 refine search_tree g hx ?_
 unfold Builtin.Re.reAnswer
 refine wpAny_bind (toEnd_ok (srch_fail hn) (by w_left) (fun ζ=>wpAny_pure ⟨.none,rfl,hQ⟩) (fun h=>nomatch h) (fun ζ h=>nomatch h))
theorem search_yes {A:Around} {s:Shared} {x:Str} {t:Tok} {Q:Value → Shared → Prop} (g:Glob w S0 s) (hx:x.cps.size < 2 ^ 62) {p:Nat} (hp:p + 2 = x.cps.size) (h46:x.cps.getD p 0 = 46) (hd:Sre.isDigit (x.cps.getD (p + 1) 0) = true) (hn:∀ s,s < p → x.cps.getD s 0 = 46 → Sre.isDigit (x.cps.getD (s + 1) 0) = false)
  (hQ:∀ a s',Kp s s' → s'.TypeIs (.ref a) "re.Match" → Q (.ref a) s') : WP w A (call (.builtin "re.Pattern.search") [.ref 43,.str x t]) Q s:=by
 obtain ⟨pt,h43⟩:=K1_43 (w:=w)
 have g43:=g.old.get_of_cls (g.base.X _ _ h43) (cls_ne _)
 refine wpAny_call_entry pat_slot ⟨_,g43,rfl⟩ pat_entry ?_ (pat_args _ _)
 refine search_tree g hx ?_
 unfold Builtin.Re.reAnswer
 refine wpAny_bind (toEnd_ok (srch_match hp h46 hd hn) (by w_left) (fun h=>nomatch h) (fun ζ m=>?_) (fun ζ h=>nomatch h))
 show WP w A.in1 (do ret (← Builtin.Re.reNewMatch (.ref 43) (.str x t) 0 0 x.cps.size m)) _ s
 refine wpAny_bind ?_
 show WP w A.in1 (do newFields "re.Match" [.str x t,.ref 43,rawInt 0,rawInt x.cps.size,rawInt m.lastindex,← newTuple [rawInt m.start,rawInt m.handed]]) _ s
 refine wpAny_bind (wpAny_newTuple ?_ (by show 2 ≤ sizeLine; decide))
 refine wpAny_newObj_type ?_
 refine wpAny_pure ⟨_,rfl,hQ _ _ (ktrans (kpush _ _) (kpush _ _)) ⟨_,Heap.get?_push_size _ rfl,rfl⟩⟩
theorem match_truthy {A:Around} {s:Shared} {a:Addr} {Q:Bool → Shared → Prop} (hT:s.TypeIs (.ref a) "re.Match") (hQ:Q true s) : WP w A (truthy (.ref a)) Q s:=by
 have lb : typeLookup (.type "re.Match") (Str.ofString "__bool__") = pure none:=by rw [typeLookup_type,builtinLookup_eq_fast]; kernel_rfl
 have ll : typeLookup (.type "re.Match") (Str.ofString "__len__") = pure none:=by rw [typeLookup_type,builtinLookup_eq_fast]; kernel_rfl
 unfold truthy
 dsimp only
 refine wpAny_bind (wpAny_callSpecial?_none (name:=Str.ofString "__bool__") hT lb ?_)
 dsimp only
 refine wpAny_bind (wpAny_specialOf (name:=Str.ofString "__len__") hT ll ?_)
 exact wpAny_pure hQ
inductive Numb (x:Str) : Bool → Prop
 | no : noNum x.cps → Numb x false
 | yes (p:Nat) : p + 2 = x.cps.size → x.cps.getD p 0 = 46 → Sre.isDigit (x.cps.getD (p + 1) 0) = true → (∀ s,s < p → x.cps.getD s 0 = 46 → Sre.isDigit (x.cps.getD (s + 1) 0) = false) → Numb x true
theorem EVB.search {o e:Expr} {apos pos:Pos} {x:Str} {b:Bool} (ho:EV c k σ o (.val (.ref 43))) (he:EV c k σ e (.str x)) (hx:x.cps.size < 2 ^ 62) (hn:Numb x b)
  (S:Site c o "search" [e] apos pos) (hse:starEach (e :: []) c.env = (false,eval e c.env) :: starEach [] c.env)
  (hi:isTrue (.Call (.Attribute o "search" apos) [e] [] pos) c.env (eval (.Call (.Attribute o "search" apos) [e] [] pos) c.env) = (do let v ← eval (.Call (.Attribute o "search" apos) [e] [] pos) c.env; standAt (Expr.Call (.Attribute o "search" apos) [e] [] pos).pos; holding [v] (truthy v))) : EVB c k σ (.Call (.Attribute o "search" apos) [e] [] pos) b:=by
 intro A s f r
 rw [hi]
 refine wpAny_bind ?_
 refine wpAny_Call_method S.base S.few S.line pat_attrs pat_slot pat_type (WPmono (ho A s f r) fun y s₁ w0=>?_)
 obtain ⟨hy,k₁⟩:=w0
 w_dflts hy
 have r₁:=r.keeps k₁
 obtain ⟨pt,h43⟩:=K1_43 (w:=c.w)
 have g43:=r₁.glob.old.get_of_cls (r₁.glob.base.X _ _ h43) (cls_ne _)
 refine ⟨⟨_,g43,rfl⟩,fun a ha=>by cases ha; exact ⟨_,g43,rfl⟩,?_⟩
 refine callWith_of (P:=fun h=>True) (by rw [plainArgs S.plain]; rfl) (fun h ζ=>⟨.machine,.inr (.inl rfl),Looks.of_pure rfl⟩) ?_
 refine wp_evalArgs (plainArgs S.plain) (WPmono ((EVL.cons he EVL.nil hse) pos A s₁ f r₁) fun xs s₂ ⟨hxs,k₂⟩=>⟨trivial,?_⟩)
 obtain ⟨z,rfl,hz⟩:=hxs.one
 cases hz.inv with | mk t=>
 have r₂:=r₁.keeps k₂
 have k12:=ktrans k₁ k₂
 cases hn with
 | no hn=>exact search_no r₂.glob hx hn (wpAny_bind (wpAny_standAt (wpAny_holding (truthy_none ⟨rfl,k12⟩))))
 | yes p h1 h2 h3 h4=>exact search_yes r₂.glob hx h1 h2 h3 h4 fun a s₃ k₃ hT=>wpAny_bind (wpAny_standAt (wpAny_holding (match_truthy hT ⟨rfl,ktrans k12 k₃⟩)))
end
end Mine.Internal
end
section
namespace Mine.Internal
section
variable {w:World} {S0:Shared} {k:Nat} {c:Cx} {σ:St}
theorem liberal_ok {x:Str} {b:Bool} (hx:x.cps.size < 2 ^ 62) (hn:Numb x b) : FN w S0 (k + 1) 57 [.str x] (.bool (!b)):=by
 refine FN.intro (ns:=["text"]) (K1_of (by rfl) (by rfl)) (by kernel_rfl) (args1 fun ζ=>rfl) (by rfl) (by decide) (by decide) rfl rfl rfl (fun X=>?_)
 ·refine EXs.ite (b:=b) (EVB.search (EV.glob (v:=.ref 43) (by kernel_rfl) (by rfl)) (EV.name (by rfl)) hx hn (by exact ⟨rfl,rfl,rfl,rfl⟩) (by rfl) (by rfl)) (fun h=>?_) (fun h=>?_)
  ·subst h; exact EXs.ret EV.bool rfl
  ·subst h; exact EXs.done (EXs.ret EV.bool rfl)
theorem seqIndex_first {n:Nat} (h:0 < n) : seqIndex? 0 n = some 0:=by
 unfold seqIndex?
 rw [if_pos (by simp; w_left)]; rfl
theorem seqIndex_last {n:Nat} (h:0 < n) : seqIndex? (-1) n = some (n - 1):=by
 unfold seqIndex?
 simp only [show (-1:Int) < 0 by decide,if_true]
 rw [if_pos (by simp only [Bool.and_eq_true,decide_eq_true_eq]; w_left)]
 exact congrArg some (neg1_nat n)
noncomputable def dotted (x:Str) : Bool:=x.cps.getD 0 0 == 46 || x.cps.getD (x.cps.size - 1) 0 == 46
theorem hdn_ok {x:Str} (hx:x.cps.size < 2 ^ 62) (hp:0 < x.cps.size) {b:Bool} (hn:Numb x b) : FN w S0 (k + 1) 50 [.str x] (.bool (!b && !dotted x)):=by
 refine FN.intro (ns:=["text"]) (K1_of (by rfl) (by rfl)) (by kernel_rfl) (args1 fun ζ=>rfl) (by rfl) (by decide) (by decide) rfl rfl rfl (fun X=>?_)
 ·refine EXs.ite (b:=b) (EVB.search (EV.glob (v:=.ref 43) (by kernel_rfl) (by rfl)) (EV.name (by rfl)) hx hn (by exact ⟨rfl,rfl,rfl,rfl⟩) (by rfl) (by rfl)) (fun h=>?_) (fun h=>?_)
  ·subst h; exact EXs.ret EV.bool rfl
  subst h
  refine EXs.done ?_
  refine EXs.ite (b:=x == "") (EVB.cmp (EV.name (v:=.str x) (by rfl)) EV.str (op_eqv (.str 0 _ _))) (fun h=>?_) (fun h=>?_)
  ·have : x = "":=beq_iff_eq.mp h
   subst this; exact absurd hp (by decide)
  refine EXs.done ?_
  have e0 : x.cps[0]? = some (x.cps.getD 0 0):=by simp [Array.getD,hp]
  have e1 : x.cps[x.cps.size - 1]? = some (x.cps.getD (x.cps.size - 1) 0):=by
   have : x.cps.size - 1 < x.cps.size:=by w_left
   simp [Array.getD,this]
  have s1 : ∀ a : Nat,((⟨#[a]⟩ : Str) == ".") = (a == 46):=fun a=>by
   rw [Bool.eq_iff_iff,beq_iff_eq,beq_iff_eq]
   constructor
   ·intro h
    have : (#[a] : Array Nat) = #[46]:=congrArg Str.cps h
    simpa using this
   ·intro h; subst h; rfl
  refine EXs.ite (b:=dotted x) (EVB.or2 (a:=x.cps.getD 0 0 == 46) ?_ (fun h=>?_) (fun h=>?_)) (fun h=>?_) (fun h=>?_)
  ·rw [← s1]
   exact EVB.cmp (EV.sub (EV.name (v:=.str x) (by rfl)) rfl ⟨_,F.slot_str_getitem.lookup⟩ EV.int (op_itemS (c:=x.cps.getD 0 0) (by decide) (by rw [show x.length = x.cps.size from rfl,seqIndex_first hp]; exact e0))) EV.str (op_eqv (.str 0 _ _))
  ·unfold dotted
   rw [h,Bool.false_or,← s1]
   exact EVB.cmp (EV.sub (EV.name (v:=.str x) (by rfl)) rfl ⟨_,F.slot_str_getitem.lookup⟩ (EV.un EV.int op_neg) (op_itemS (c:=x.cps.getD (x.cps.size - 1) 0) (by decide) (by rw [show x.length = x.cps.size from rfl,seqIndex_last hp]; exact e1))) EV.str (op_eqv (.str 0 _ _))
  ·unfold dotted; rw [h]; rfl
  ·rw [h]; exact EXs.ret EV.bool rfl
  ·rw [h]; exact EXs.done (EXs.ret EV.bool rfl)
noncomputable def udmB (a b:Str) (na nb:Bool) : Bool:=
 if na || nb then a == b else
 if Txt.startswith b "." then Txt.endswith a b else a == b
theorem udm_ok {x y:Str} {na nb:Bool} (hx:Builtin.Str.tooLong (Txt.lower x).length = false) (hy:Builtin.Str.tooLong (Txt.lower y).length = false) (hnx:Numb (Txt.lower x) na) (hny:Numb (Txt.lower y) nb) : FN w S0 (k + 2) 64 [.str x,.str y] (.bool (udmB (Txt.lower x) (Txt.lower y) na nb)):=by
 have big : ∀ z : Str,Builtin.Str.tooLong z.length = false → z.cps.size < 2 ^ 62:=fun z h=>by
  have h' : ¬ z.cps.size > sizeLine:=by simpa [Builtin.Str.tooLong,Str.length] using h
  unfold sizeLine at h'; w_left
 refine FN.intro (ns:=["A","B"]) (K1_of (by rfl) (by rfl)) (by kernel_rfl) (args2 fun ζ ζ=>rfl) (by rfl) (by decide) (by decide) rfl rfl rfl (fun X=>?_)
 ·refine EXs.assign (v:=.str (Txt.lower x)) (EV.meth (EV.name (v:=.str x) (by rfl)) rfl m_lower EVL.nil (op_lower hx)) (.inl (by rfl)) ?_
  refine EXs.assign (v:=.str (Txt.lower y)) (EV.meth (EV.name (v:=.str y) (by rfl)) rfl m_lower EVL.nil (op_lower hy)) (.inl (by rfl)) ?_
  have bx:=big _ hx
  have by':=big _ hy
  generalize Txt.lower x = a at *
  generalize Txt.lower y = b at *
  refine EXs.ite (b:=!(!na && !nb)) (EVB.not (EVB.and2 (a:=!na) ?_ (fun h=>?_) (fun h=>?_))) (fun h=>?_) (fun h=>?_)
  ·exact EVB.val (EV.callv (EV.glob (v:=.ref 57) (by kernel_rfl) (by rfl)) (EVL.ev (by rfl)) (.top (by kernel_rfl)) (liberal_ok bx hnx)) opt_bool
  ·rw [h,Bool.true_and]
   exact EVB.val (EV.callv (EV.glob (v:=.ref 57) (by kernel_rfl) (by rfl)) (EVL.ev (by rfl)) (.top (by kernel_rfl)) (liberal_ok by' hny)) opt_bool
  ·rw [h]; rfl
  ·have hu : udmB a b na nb = (a == b):=by unfold udmB; rw [if_pos (by revert h; cases na <;> cases nb <;> simp)]
   rw [hu]
   refine EXs.ite (b:=a == b) (EVB.cmp (EV.name (v:=.str a) (by rfl)) (EV.name (v:=.str b) (by rfl)) (op_eqv (.str 0 _ _))) (fun h=>?_) (fun h=>?_)
   ·rw [h]; exact EXs.ret EV.bool rfl
   ·rw [h]; exact EXs.done (EXs.ret EV.bool rfl)
  refine EXs.done ?_
  have hnn : (na || nb) = false:=by revert h; cases na <;> cases nb <;> simp
  refine EXs.assign (v:=.bool (Txt.startswith b ".")) (EV.meth (EV.name (v:=.str b) (by rfl)) rfl m_starts (EVL.ev (by rfl)) op_starts) (.inl (by rfl)) ?_
  unfold udmB
  rw [hnn]
  generalize hsb : Txt.startswith b "." = sb
  refine EXs.ite (b:=sb && Txt.endswith a b) (EVB.and2 (EVB.val (EV.name (v:=.bool sb) (by rfl)) opt_bool) (fun h=>?_) (fun h=>?_)) (fun h=>?_) (fun h=>?_)
  ·rw [h,Bool.true_and]
   exact EVB.val (EV.meth (EV.name (v:=.str a) (by rfl)) rfl m_ends (EVL.ev (by rfl)) op_ends) opt_bool
  ·rw [h]; rfl
  ·rw [Bool.and_eq_true] at h
   rw [h.1,h.2]; exact EXs.ret EV.bool rfl
  refine EXs.done ?_
  refine EXs.ite (b:=!sb && a == b) (EVB.and2 (EVB.not (EVB.val (EV.name (v:=.bool sb) (by rfl)) opt_bool)) (fun h=>?_) (fun h=>?_)) (fun h2=>?_) (fun h2=>?_)
  ·rw [h,Bool.true_and]
   exact EVB.cmp (EV.name (v:=.str a) (by rfl)) (EV.name (v:=.str b) (by rfl)) (op_eqv (.str 0 _ _))
  ·rw [h]; rfl
  ·refine EXs.ret EV.bool ?_
   rw [Bool.and_eq_true] at h2
   cases sb with
   | true=>cases h2.1
   | false=>show V.bool true = V.bool (if false = true then _ else a == b); rw [h2.2]; rfl
  ·refine EXs.done (EXs.ret EV.bool ?_)
   cases sb with
   | true=>rw [Bool.true_and] at h; rw [h]; rfl
   | false=>rw [Bool.not_false,Bool.true_and] at h2; show V.bool false = V.bool (if false = true then _ else a == b); rw [h2]; rfl
end
end Mine.Internal
end
section
namespace Mine.Internal
noncomputable def restOf (h:Str) : Str:=strPick h (some (Txt.find h "." + 1)) none
noncomputable def reachS (h:Str) (n:Bool) : Str:=
 if Txt.find h "." ≥ 0 then
  if (!n && !dotted h) && (decide (Txt.find (restOf h) "." ≥ 0) || restOf h == "local") then "." ++ restOf h else h
 else h
section
variable {w:World} {S0:Shared} {k:Nat} {c:Cx} {σ:St}
theorem reach_ok {h:Str} {n:Bool} (hx:h.cps.size < 2 ^ 62) (hp:0 < h.cps.size) (hn:Numb h n) (hb:(restOf h).length + 1 ≤ sizeLine) : FN w S0 (k + 2) 71 [.str h] (.str (reachS h n)):=by
 refine FN.intro (ns:=["h"]) (K1_of (by rfl) (by rfl)) (by kernel_rfl) (args1 fun ζ=>rfl) (by rfl) (by decide) (by decide) rfl rfl rfl (fun X=>?_)
 ·refine EXs.assign (v:=.int (Txt.find h ".")) (EV.meth (EV.name (v:=.str h) (by rfl)) rfl m_find (EVL.ev (by rfl)) op_find) (.inl (by rfl)) ?_
  unfold reachS
  refine EXs.ite (b:=decide (Txt.find h "." ≥ 0)) (EVB.cmp (EV.name (by rfl)) EV.int op_ge) (fun h1=>?_) (fun h1=>?_)
  ·rw [if_pos (by simpa using h1)]
   refine EXs.assign (v:=.str (restOf h)) (ev_sliceS (l:=some (Txt.find h "." + 1)) (u:=none) (EV.name (v:=.str h) (by rfl)) (EV.bin (EV.name (v:=.int (Txt.find h ".")) (by rfl)) EV.int op_add) rfl (Nat.le_of_succ_le hb)) (.inl (by rfl)) ?_
   generalize restOf h = b at *
   refine EXs.assign (v:=.int (Txt.find b ".")) (EV.meth (EV.name (v:=.str b) (by rfl)) rfl m_find (EVL.ev (by rfl)) op_find) (.inl (by rfl)) ?_
   refine EXs.ite (b:=(!n && !dotted h) && (decide (Txt.find b "." ≥ 0) || b == "local")) (EVB.and2 (a:=!n && !dotted h) ?_ (fun h2=>?_) (fun h2=>?_)) (fun h2=>?_) (fun h2=>?_)
   ·exact EVB.val (EV.callv (EV.glob (v:=.ref 50) (by kernel_rfl) (by rfl)) (EVL.ev (by rfl)) (.top (by kernel_rfl)) (hdn_ok hx hp hn)) opt_bool
   ·rw [h2,Bool.true_and]
    refine EVB.or2 (EVB.cmp (EV.name (v:=.int (Txt.find b ".")) (by rfl)) EV.int op_ge) (fun h3=>?_) (fun h3=>?_)
    ·rw [h3,Bool.false_or]
     exact EVB.cmp (EV.name (v:=.str b) (by rfl)) EV.str (op_eqv (.str 0 _ _))
    ·rw [h3]; rfl
   ·rw [h2]; rfl
   ·rw [if_pos h2]
    exact EXs.ret (EV.bin EV.str (EV.name (v:=.str b) (by rfl)) (op_addS (by rw [Nat.add_comm]; exact hb))) rfl
   ·rw [if_neg (by rw [h2]; exact Bool.false_ne_true)]
    exact EXs.done (EXs.done (EXs.ret (EV.name (by rfl)) rfl))
  ·rw [if_neg (by simpa using h1)]
   exact EXs.done (EXs.ret (EV.name (by rfl)) rfl)
end
end Mine.Internal
end
section
namespace Mine.Internal
noncomputable def updM (mu:List (Addr × MO)) (a:Addr) (o:MO) : List (Addr × MO):=mu.map fun p=>if p.1 = a then (a,o) else p
theorem adr_upd (mu:List (Addr × MO)) (a:Addr) (o:MO) : adr (updM mu a o) = adr mu:=by
 unfold updM adr
 rw [List.map_map]
 apply List.map_congr_left
 intro p _
 show (if p.1 = a then (a,o) else p).1 = p.1
 split
 ·rename_i h; exact h.symm
 ·rfl
section
variable {w:World} {S0:Shared} {k:Nat} {c:Cx} {σ:St}
theorem own_upd (a:Addr) (o:MO) : own c ⟨σ.loc,updM σ.mu a o⟩ = own c σ:=by
 show c.env.locals :: adr (updM σ.mu a o) = c.env.locals :: adr σ.mu
 rw [adr_upd]
theorem ms_upd (a:Addr) (o:MO) : msOf c ⟨σ.loc,updM σ.mu a o⟩ = msOf c σ:=by
 show own c ⟨σ.loc,updM σ.mu a o⟩ ++ c.out = own c σ ++ c.out
 rw [own_upd]
theorem R.upd {s s':Shared} {a:Addr} {o:MO} (r:R c σ s) (ha:a ∈ adr σ.mu) (x:Chg [a] s s') (hm:MR c.w c.S0 (msOf c σ) s' a o) : R c ⟨σ.loc,updM σ.mu a o⟩ s' ∧ Step c σ s ⟨σ.loc,updM σ.mu a o⟩ s':=by
 have ham : a ∈ msOf c σ:=memL _ (.tail _ ha)
 have up : Up (msOf c σ) (msOf c σ) s s':=x.up fun b hb=>by rw [mem1 hb]; exact ham
 have hnl : c.env.locals ≠ a:=fun q=>(ndc r.nd).1 (q ▸ ha)
 have hao : a ∉ c.out:=r.disj a (.tail _ ha)
 have hS : c.S0.heap.get? a = none:=(r.lo a (.tail _ ha)).1
 obtain ⟨m,hm',hv⟩:=r.vars
 obtain ⟨h',tk,rfl⟩:=x.same
 have old : OldK c.S0.heap h':=by
  refine ⟨fun b o e=>?_,fun b o e=>let ⟨o',e'⟩:=r.glob.old.there b o e; x.there b o' e'⟩
  have nb : b ∉ [a]:=fun q=>by rw [mem1 q,hS] at e; cases e
  rcases r.glob.old.old b o e with z | ⟨t,hc,vs,more,hv,z⟩ | ⟨rfl,hc,⟨o',es,n,ho',z1⟩,z⟩
  ·exact .inl (x.kept b o nb z)
  ·exact .inr (.inl ⟨t,hc,vs,more,hv,x.kept b _ nb z⟩)
  ·exact .inr (.inr ⟨rfl,hc,⟨o',es,n,x.kept _ _ nb ho',z1⟩,fun key=>by rw [OldK.staticOf_congr (h:=s.heap) ((x.kept _ _ nb ho').trans ho'.symm) key]; exact z key⟩)
 have hca : ∀ p ∈ c.env.cells,p.2 ≠ a:=fun p hp q=>by
  rcases (r.cells p hp).1 with h | ⟨_,o,h⟩
  ·exact hao (q ▸ h)
  ·rw [q,hS] at h; cases h
 refine ⟨⟨⟨r.glob.base,old,fun o e=>x.kept _ o (fun q=>by rw [mem1 q,hS] at e; cases e) (r.glob.st o e),r.glob.os,r.glob.bare,Nat.le_trans r.glob.tok x.toks,r.glob.tab.at fun P hP o e=>x.kept P o (fun q=>by have:=r.glob.base.tab P hP; rw [mem1 q,hS] at this; cases this) e⟩,r.eok,⟨m,?_,fun y v e=>?_⟩,fun p hp=>⟨(r.cells p hp).1,?_⟩,r.apart,fun p hp=>?_,?_,?_,fun b hb=>let ⟨o,e⟩:=r.live b hb; x.there b o e,?_,r.clo⟩,?_⟩
 ·exact hm'.at' fun o e=>x.kept _ o (fun q=>hnl (mem1 q)) e
 ·rw [ms_upd]
  rcases hv y v e with ⟨hk,y',h1,hr⟩ | ⟨hk,b,y',hb,hc,hr⟩
  ·exact .inl ⟨hk,y',h1,hr.mono up x.toks⟩
  ·obtain ⟨o,e1,e2⟩:=hc
   exact .inr ⟨hk,b,y',hb,⟨o,x.kept _ _ (fun q=>hca _ (mem_of_lookup hb) (mem1 q)) e1,e2⟩,hr.mono up x.toks⟩
 ·obtain ⟨u,o,e1,e2⟩:=(r.cells p hp).2
  exact ⟨u,o,x.kept _ _ (fun q=>hca p hp (mem1 q)) e1,e2⟩
 ·rw [ms_upd]
  obtain ⟨q,hq,rfl⟩:=memm hp
  by_cases e : q.1 = a
  ·rw [if_pos e]; exact hm
  ·rw [if_neg e]
   exact (r.mu q hq).mono up x.toks fun o h=>x.kept _ o (fun z=>e (mem1 z)) h
 ·rw [own_upd]; exact r.nd
 ·rw [own_upd]; exact r.disj
 ·rw [own_upd]; exact r.lo
 ·refine ⟨fun b o hb ζ e=>x.kept b o (fun q=>hb (memL _ (.tail _ (mem1 q ▸ ha)))) e,fun b hb=>.inl (by rw [show (updM σ.mu a o).map (·.1) = σ.mu.map (·.1) from adr_upd _ _ _] at hb; exact hb),x.there,fun ζ=>rfl,rfl,x.toks⟩
theorem R.new {s s':Shared} {a:Addr} {o:MO} (r:R c σ s) (kk:Kp s s') (n:NewC s s' a) (hm:MR c.w c.S0 (msOf c ⟨σ.loc,(a,o) :: σ.mu⟩) s' a o) : R c ⟨σ.loc,(a,o) :: σ.mu⟩ s' ∧ Step c σ s ⟨σ.loc,(a,o) :: σ.mu⟩ s':=by
 have up : Up (msOf c σ) (msOf c ⟨σ.loc,(a,o) :: σ.mu⟩) s s':=fun b o hb ζ e=>by
  refine ⟨fun q=>?_,kget kk e⟩
  rcases mema q with q | q
  ·rcases memc q with rfl | q
   ·exact hb (memL _ (.head _))
   ·rcases memc q with rfl | q
    ·exact n.ne e
    ·exact hb (memL _ (.tail _ q))
  ·exact hb (memR _ q)
 have r':=r.keeps kk
 obtain ⟨m,hm',hv⟩:=r.vars
 refine ⟨⟨r'.glob,r.eok,⟨m,hm'.keeps (kall kk),fun x v e=>(hv x v e).keeps (kall kk) fun y hy=>hy.mono up kk.t⟩,r'.cells,r.apart,fun p hp=>?_,?_,fun b hb q=>?_,r'.live,fun b hb=>?_,r.clo⟩,⟨fun b o ζ ζ e=>kget kk e,fun b hb=>?_,fun b o e=>⟨o,kget kk e⟩,fun ζ=>?_,?_,kk.t⟩⟩
 ·rcases memc hp with rfl | hp
  ·exact hm
  ·exact (r.mu p hp).mono up kk.t fun o e=>kget kk e
 ·have h1:=r.nd
  have hno : a ∉ own c σ:=fun q=>by obtain ⟨o,e⟩:=r.liveMs a (memL _ q); exact n.ne e
  show (c.env.locals :: a :: adr σ.mu).Nodup
  rw [List.nodup_cons] at h1 ⊢
  refine ⟨fun q=>?_,ndk ⟨fun q=>hno (.tail _ q),h1.2⟩⟩
  rcases memc q with q | q
  ·exact hno (q ▸ .head _)
  ·exact h1.1 q
 ·rcases memc hb with rfl | hb
  ·exact r.disj _ (.head _) q
  ·rcases memc hb with rfl | hb
   ·obtain ⟨o,e⟩:=r.live _ q; exact n.ne e
   ·exact r.disj _ (.tail _ hb) q
 ·rcases memc hb with rfl | hb
  ·exact r.lo _ (.head _)
  ·rcases memc hb with rfl | hb
   ·refine ⟨Option.eq_none_iff_forall_ne_some.mpr fun o e=>?_,n.hi⟩
    obtain ⟨o',e'⟩:=r.glob.old.there _ _ e; exact n.ne e'
   ·exact r.lo _ (.tail _ hb)
 ·rcases memc hb with rfl | hb
  ·exact .inr n.none
  ·exact .inl hb
 ·obtain ⟨⟨h',t,rfl,_⟩,_⟩:=kk; rfl
 ·obtain ⟨⟨h',t,rfl,_⟩,_⟩:=kk; rfl
theorem lookup_adr {mu:List (Addr × MO)} {a:Addr} {o:MO} (h:mu.lookup a = some o) : a ∈ adr mu:=List.mem_map_of_mem (mem_of_lookupA h)
theorem R.at {s:Shared} (r:R c σ s) {a:Addr} {o:MO} (h:σ.mu.lookup a = some o) : MR c.w c.S0 (msOf c σ) s a o:=r.mu _ (mem_of_lookupA h)
theorem EX.ofM {e:Expr} {pos:Pos} {Q:AF → St → Prop} (h:EM c k σ e fun ζ σ'=>Q .next σ') (hi:interactive c.env = false) (hs:swapsWith e none pos.line c.env = pure false) : EX c k σ (.Expr e pos) Q:=fun A s f r=>
 wpAny_Expr_any (WPmono (h A s f r) fun x s₁ ⟨v,σ₁,hQ,r₁,hx,st₁⟩=>⟨.next,σ₁,hQ,r₁,trivial,st₁⟩) hi hs
theorem EM.newList {pos:Pos} {Q:V → St → Prop} (hQ:∀ a,a ∉ adr σ.mu → Q (.mob a) ⟨σ.loc,(a,.list []) :: σ.mu⟩) : EM c k σ (.List [] pos) Q:=by
 intro A s f r
 refine List_ (WPmono (EVL.nil pos A s f r) fun xs s₁ w0=>?_)
 obtain ⟨hx,k₁⟩:=w0
 w_dflts hx
 have r₁:=r.keeps k₁
 have k₂:=kpush (s:=s₁) { cls:=.type "list",data:=.seq ([] : List Value).toArray } s₁.toks
 have n:=new_of (s':={ s₁ with heap:=s₁.heap.push { cls:=.type "list",data:=.seq ([] : List Value).toArray } }) r₁.glob (krefl s₁) (Nat.le_refl _) ⟨_,Heap.get?_push_size _ rfl⟩
 obtain ⟨r₂,st₂⟩:=r₁.new (o:=.list []) k₂ n ⟨_,_,Heap.get?_push_size _ rfl,.nil⟩
 refine wpAny_newObj_type ⟨.mob s₁.heap.objs.size,_,hQ _ fun q=>?_,r₂,.mob _,(Step.of_keeps k₁).trans st₂⟩
 obtain ⟨o,e⟩:=r₁.liveMs _ (memL _ (.tail _ q)); exact n.ne e
theorem wp_methM {o:Expr} {name:Str} {apos pos:Pos} {es:List Expr} {a:Addr} {T id:String} {vs:List V} {A:Around} {s:Shared} {Q:Value → Shared → Prop} (hv:EV c k σ o (.mob a)) (hT:∀ s,R c σ s → ∃ ob,s.heap.get? a = some ob ∧ ob.cls = .type T ∧ ob.dict = none) (m:Meth T name id) (ha:EVL c k σ es vs)
  (ft:Fit k A) (r:R c σ s) (h:∀ s₂ xs,Kp s s₂ → R c σ s₂ → VRs c.S0 (msOf c σ) s₂ vs xs → WP c.w A (call (.builtin id) (.ref a :: xs)) Q s₂)
  (S:Site c o name es apos pos) : WP c.w A (eval (.Call (.Attribute o name apos) es [] pos) c.env) Q s:=by
 refine wpAny_Call_method S.base S.few S.line m.pa m.slot m.hty (WPmono (hv A s ft r) fun x s₁ w0=>?_)
 obtain ⟨hx,k₁⟩:=w0
 w_dflts hx
 have r₁:=r.keeps k₁
 obtain ⟨ob,e,hc,hd⟩:=hT s₁ r₁
 refine ⟨⟨ob,e,hc⟩,fun b hb=>by cases hb; exact ⟨ob,e,hd⟩,?_⟩
 refine callWith_of (P:=fun h=>True) (by rw [plainArgs S.plain]; rfl) (fun h ζ=>⟨.machine,.inr (.inl rfl),Looks.of_pure rfl⟩) ?_
 refine wp_evalArgs (plainArgs S.plain) (WPmono (ha pos A s₁ ft r₁) fun xs s₂ ⟨hxs,k₂⟩=>⟨trivial,?_⟩)
 exact h s₂ xs (ktrans k₁ k₂) (r₁.keeps k₂) hxs
theorem R.append {A:Around} {s:Shared} {a:Addr} {ys:List V} {v:V} {x:Value} {Q:Value → Shared → Prop} (r:R c σ s) (hm:σ.mu.lookup a = some (.list ys)) (hsz:ys.length ≤ sizeLine) (hx:VR c.S0 (msOf c σ) s v x)
  (h:∀ s',R c ⟨σ.loc,updM σ.mu a (.list (ys ++ [v]))⟩ s' → Step c σ s ⟨σ.loc,updM σ.mu a (.list (ys ++ [v]))⟩ s' → Chg [a] s s' → Q .none s') : WP c.w A (call (.builtin "list.append") [.ref a,x]) Q s:=by
 obtain ⟨xs,n,ge,hr⟩:=r.at hm
 refine wpAny_list_append_plain (hsz:=by rw [hr.size]; exact hsz) ⟨n,ge⟩ fun h' hpl hs=>?_
 have ch : Chg [a] s { s with heap:=h' }:=chg_same (tk:=s.toks) hs (let ⟨n,e⟩:=hpl; ⟨_,e⟩) (Nat.le_refl _)
 have up:=ch.up (ms:=msOf c σ) fun b hb=>by rw [mem1 hb]; exact memL _ (.tail _ (lookup_adr hm))
 obtain ⟨n',e'⟩:=hpl
 obtain ⟨r',st⟩:=r.upd (lookup_adr hm) ch (o:=.list (ys ++ [v])) ⟨_,n',e',by rw [Array.toList_push]; exact (hr.append (.cons hx .nil)).mono up ch.toks⟩
 exact h _ r' st ch
theorem m_append : Meth "list" "append" "list.append":=⟨F.plainAttrs_list,F.slot_list_append,F.type_list_append⟩
theorem EM.append {o e:Expr} {apos pos:Pos} {a:Addr} {vs:List V} {v:V} {Q:V → St → Prop} (ho:EV c k σ o (.mob a)) (hm:σ.mu.lookup a = some (.list vs)) (he:EVL c k σ [e] [v]) (hsz:vs.length ≤ sizeLine) (hQ:Q .none ⟨σ.loc,updM σ.mu a (.list (vs ++ [v]))⟩)
  (S:Site c o "append" [e] apos pos:=by exact ⟨rfl,rfl,rfl,rfl⟩) : EM c k σ (.Call (.Attribute o "append" apos) [e] [] pos) Q:=by
 intro A s f r
 refine wp_methM ho (fun s r=>by obtain ⟨xs,n,e,_⟩:=r.at hm; exact ⟨_,e,rfl,rfl⟩) m_append he f r (fun s₂ xs k₂ r₂ hxs=>?_) S
 obtain ⟨x,rfl,hx⟩:=hxs.one
 exact r₂.append hm hsz hx fun s' r₃ st₃ ζ=>⟨.none,_,hQ,r₃,.none,(Step.of_keeps k₂).trans st₃⟩
noncomputable def getD (kvs:List (Str × V)) (x:Str) : Option V:=(kvs.find? fun p=>p.1 = x).map (·.2)
noncomputable def putD (kvs:List (Str × V)) (x:Str) (v:V) : List (Str × V):=if kvs.any (fun p=>p.1 = x) then kvs.map (fun p=>if p.1 = x then (p.1,v) else p) else kvs ++ [(x,v)]
theorem DV.len {S:Shared} {ms:List Addr} {s:Shared} {a:List (Str × V)} {b:List (Str × Value)} (h:DV S ms s a b) : b.length = a.length:=by
 induction h with
 | nil=>rfl
 | cons _ _ ih=>exact congrArg Nat.succ ih
theorem DV.get {S:Shared} {ms:List Addr} {s:Shared} {x:Str} : ∀ {a:List (Str × V)} {b:List (Str × Value)},DV S ms s a b → (∀ v,getD a x = some v → ∃ y,valueAt b x = some y ∧ VR S ms s v y) ∧ (getD a x = none → valueAt b x = none)
 | _,_,.nil=>⟨fun v h=>(by simp [getD] at h),fun ζ=>rfl⟩
 | _,_,.cons (k:=k) (v:=v) (x:=y) (kvs:=kvs) (kxs:=kxs) hv r=>by
  have ih:=DV.get (x:=x) r
  unfold getD valueAt at *
  by_cases h : k = x
  ·subst h
   simp only [List.find?_cons,decide_true,Option.map_some]
   exact ⟨fun u e=>(by cases e; exact ⟨_,rfl,hv⟩),fun e=>(by cases e)⟩
  ·simp only [List.find?_cons,h,decide_false]
   exact ih
theorem DV.any {S:Shared} {ms:List Addr} {s:Shared} {x:Str} : ∀ {a:List (Str × V)} {b:List (Str × Value)},DV S ms s a b → b.any (fun p=>p.1 = x) = a.any fun p=>p.1 = x
 | _,_,.nil=>rfl
 | _,_,.cons _ r=>by rw [List.any_cons,List.any_cons,DV.any r]
theorem DV.putMap {S:Shared} {ms:List Addr} {s:Shared} {x:Str} {v:V} {y:Value} (hv:VR S ms s v y) : ∀ {a:List (Str × V)} {b:List (Str × Value)},DV S ms s a b → DV S ms s (a.map fun p=>if p.1 = x then (p.1,v) else p) (b.map fun p=>if p.1 = x then (p.1,y) else p)
 | _,_,.nil=>.nil
 | _,_,.cons (k:=k) hu r=>by
  rw [List.map_cons,List.map_cons]
  by_cases e : k = x
  ·simp only [e,if_true]; exact .cons hv (DV.putMap hv r)
  ·simp only [e,if_false]; exact .cons hu (DV.putMap hv r)
theorem DV.putEnd {S:Shared} {ms:List Addr} {s:Shared} {x:Str} {v:V} {y:Value} (hv:VR S ms s v y) : ∀ {a:List (Str × V)} {b:List (Str × Value)},DV S ms s a b → DV S ms s (a ++ [(x,v)]) (b ++ [(x,y)])
 | _,_,.nil=>.cons hv .nil
 | _,_,.cons hu r=>.cons hu (DV.putEnd hv r)
theorem DV.put {S:Shared} {ms:List Addr} {s:Shared} {x:Str} {v:V} {y:Value} (hv:VR S ms s v y) {a:List (Str × V)} {b:List (Str × Value)} (h:DV S ms s a b) : DV S ms s (putD a x v) (stored b x y):=by
 unfold putD stored
 rw [h.any]
 split
 ·exact h.putMap hv
 ·exact h.putEnd hv
theorem notSys {s:Shared} {σ:St} (r:R c σ s) {a:Addr} (h:a ∈ adr σ.mu) : (a == sysModules) = false:=by
 refine beq_eq_false_iff_ne.mpr fun q=>?_
 have:=(r.lo a (.tail _ h)).2
 rw [q] at this; exact absurd this (by decide)
theorem EM.newDict {pos:Pos} {Q:V → St → Prop} (hQ:∀ a,a ∉ adr σ.mu → Q (.mob a) ⟨σ.loc,(a,.dict []) :: σ.mu⟩) : EM c k σ (.Dict [] [] pos) Q:=by
 intro A s f r
 have k₂:=kpush (s:=s) { cls:=.type "dict",data:=.dict #[] } s.toks
 have n:=new_of (s':={ s with heap:=s.heap.push { cls:=.type "dict",data:=.dict #[] } }) r.glob (krefl s) (Nat.le_refl _) ⟨_,Heap.get?_push_size _ rfl⟩
 obtain ⟨r₂,st₂⟩:=r.new (o:=.dict []) k₂ n ⟨[],Heap.DictOf.new _,.nil⟩
 have hf : s.heap.objs.size ∉ adr σ.mu:=fun q=>by
  obtain ⟨o,e⟩:=r.liveMs _ (memL _ (.tail _ q)); exact n.ne e
 rw [eval_Dict_empty]
 refine wpAny_bind (wpAny_standAt ?_)
 exact wpAny_newObj_type ⟨.mob s.heap.objs.size,_,hQ _ hf,r₂,.mob _,st₂⟩
theorem ev_in {e d:Expr} {pos:Pos} {x:Str} {a:Addr} {kvs:List (Str × V)} (he:EV c k σ e (.str x)) (hd:EV c k σ d (.mob a)) (hm:σ.mu.lookup a = some (.dict kvs)) (hk:behindInMarks .In d = false:=by rfl) : EVB c k σ (.Compare e [.In] [d] pos) (getD kvs x).isSome:=by
 intro A s f r
 refine wpAny_isTrue_Compare1 (WPmono (he A s f r) fun y s₁ w0=>?_) hk
 obtain ⟨hy,k₁⟩:=w0
 refine WPmono (hd A s₁ f (r.keeps k₁)) fun z s₂ w0=>?_
 obtain ⟨hz,k₂⟩:=w0
 have r₂:=(r.keeps k₁).keeps k₂
 cases hy.inv with | mk t=>
 w_dflts hz
 obtain ⟨kvals,hD,hV⟩:=r₂.at hm
 refine wpAny_in_of (knd:=PySem.strKind P0 c.w) (k:=x) (by simp [PySem.strKind,Value.isStrOf]) (notSys r₂ (lookup_adr hm)) hD.mapOf ?_
 refine wpAny_truthy_bool ⟨?_,ktrans k₁ (ktrans k₂ (ktoks _))⟩
 have:=hV.get (x:=x)
 cases hg : getD kvs x with
 | none=>rw [this.2 hg]; rfl
 | some v=>obtain ⟨y,e,_⟩:=this.1 v hg; rw [e]; rfl
theorem ev_notin {e d:Expr} {pos:Pos} {x:Str} {a:Addr} {kvs:List (Str × V)} (he:EV c k σ e (.str x)) (hd:EV c k σ d (.mob a)) (hm:σ.mu.lookup a = some (.dict kvs)) (hk:behindInMarks .NotIn d = false:=by rfl) : EVB c k σ (.Compare e [.NotIn] [d] pos) (!(getD kvs x).isSome):=by
 intro A s f r
 refine wpAny_isTrue_Compare1 (WPmono (he A s f r) fun y s₁ w0=>?_) hk
 obtain ⟨hy,k₁⟩:=w0
 refine WPmono (hd A s₁ f (r.keeps k₁)) fun z s₂ w0=>?_
 obtain ⟨hz,k₂⟩:=w0
 have r₂:=(r.keeps k₁).keeps k₂
 cases hy.inv with | mk t=>
 w_dflts hz
 obtain ⟨kvals,hD,hV⟩:=r₂.at hm
 refine wpAny_notIn_of (knd:=PySem.strKind P0 c.w) (k:=x) (by simp [PySem.strKind,Value.isStrOf]) (notSys r₂ (lookup_adr hm)) hD.mapOf ?_
 refine wpAny_truthy_bool ⟨?_,ktrans k₁ (ktrans k₂ (ktoks _))⟩
 have:=hV.get (x:=x)
 cases hg : getD kvs x with
 | none=>rw [this.2 hg]; rfl
 | some v=>obtain ⟨y,e,_⟩:=this.1 v hg; rw [e]; rfl
theorem op_getItemD {d e:Expr} {pos:Pos} {x:Str} {a:Addr} {kvs:List (Str × V)} {v:V} (hd:EV c k σ d (.mob a)) (he:EV c k σ e (.str x)) (hm:σ.mu.lookup a = some (.dict kvs)) (hv:getD kvs x = some v) : EV c k σ (.Subscript d e pos) v:=by
 intro A s f r
 rw [eval_Subscript]
 refine wpAny_bind (WPmono (hd A s f r) fun x₁ s₁ ⟨hx,k₁⟩=>wpAny_bind (wpAny_holding (WPmono (he A s₁ f (r.keeps k₁)) fun y s₂ ⟨hy,k₂⟩=>wpAny_bind (wpAny_standAt (wpAny_bind ?_)))))
 w_dflts hx
 cases hy.inv with | mk t=>
 have r₂:=(r.keeps k₁).keeps k₂
 obtain ⟨kvals,hD,hV⟩:=r₂.at hm
 have hT:=hD.typeIs (s:=s₂)
 obtain ⟨y,hy,hr⟩:=(hV.get (x:=x)).1 v hv
 rw [getitemInPython_of_ne hT.not_modules]
 refine wpAny_bind (wpAny_specialOf hT F.slot_dict_getitem.lookup (wpAny_pure (wpAny_bind (subscripted_false e (.ref a) (.str x t) ?_))))
 refine wpAny_getItem_of (knd:=PySem.strKind P0 c.w) (k:=x) (by simp [PySem.strKind,Value.isStrOf]) hD.mapOf hy ?_
 exact wpAny_bind (wpAny_letTemporaryGo (wpAny_pure ⟨hr.keeps (ktoks _),ktrans k₁ (ktrans k₂ (ktoks _))⟩))
theorem EX.setItemD {d e:Expr} {ve:Expr} {sp pos:Pos} {x:Str} {a:Addr} {kvs:List (Str × V)} {v:V} {Q:AF → St → Prop} (hv:EV c k σ ve v) (hd:EV c k σ d (.mob a)) (he:EV c k σ e (.str x)) (hm:σ.mu.lookup a = some (.dict kvs)) (hl:kvs.length ≤ sizeLine) (hQ:Q .next ⟨σ.loc,updM σ.mu a (.dict (putD kvs x v))⟩)
  (hs:swapsWith ve (some (.Subscript d e sp)) pos.line c.env = pure false:=by rfl) : EX c k σ (.Assign [.Subscript d e sp] ve pos) Q:=by
 intro A s f r
 refine wpAny_Assign_Subscript (WPmono (hv A s f r) fun z s₁ w1=>WPmono (hd A s₁ f (r.keeps w1.2)) fun dv s₂ w2=>WPmono (he A s₂ f ((r.keeps w1.2).keeps w2.2)) fun iv s₃ w3=>?_) hs
 have r₃:=((r.keeps w1.2).keeps w2.2).keeps w3.2
 have hdv:=w2.1
 cases hdv
 have hiv:=w3.1
 cases hiv.inv with | mk t=>
 have hz':=(w1.1.keeps w2.2).keeps w3.2
 obtain ⟨kvals,hD,hV⟩:=r₃.at hm
 refine wpAny_setItem_pairs (knd:=PySem.strKind P0 c.w) (k:=x) (by simp [PySem.strKind,Value.isStrOf]) hD (fun h' hD' hs'=>?_) (by rw [hV.len]; exact hl)
 have ch : Chg [a] s₃ { s₃ with heap:=h',toks:=s₃.toks + 1 }:=chg_same hs' (let ⟨o,_,_,e,_⟩:=hD'; ⟨o,e⟩) (Nat.le_succ _)
 have up:=ch.up (ms:=msOf c σ) fun b hb=>by rw [mem1 hb]; exact memL _ (.tail _ (lookup_adr hm))
 obtain ⟨r₄,st₄⟩:=r₃.upd (lookup_adr hm) ch (o:=.dict (putD kvs x v)) ⟨_,hD',(hV.put hz').mono up ch.toks⟩
 exact ⟨.next,_,hQ,r₄,trivial,(Step.of_keeps (ktrans w1.2 (ktrans w2.2 w3.2))).trans st₄⟩
theorem m_get : Meth "dict" "get" "dict.get":=⟨F.plainAttrs_dict,F.slot_dict_get,F.type_dict_get⟩
theorem dict_ty {a:Addr} {kvs:List (Str × V)} (hm:σ.mu.lookup a = some (.dict kvs)) : ∀ s,R c σ s → ∃ ob,s.heap.get? a = some ob ∧ ob.cls = .type "dict" ∧ ob.dict = none:=fun s r=>by
 obtain ⟨kvals,hD,_⟩:=r.at hm
 obtain ⟨o,h1,h2⟩:=hD.mapOf.noDict a rfl
 obtain ⟨o',h3,h4⟩:=hD.typeIs (s:=s)
 rw [h1] at h3; cases h3
 exact ⟨o,h1,h4,h2⟩
theorem ev_get1 {o e:Expr} {apos pos:Pos} {a:Addr} {kvs:List (Str × V)} {x:Str} (ho:EV c k σ o (.mob a)) (hm:σ.mu.lookup a = some (.dict kvs)) (he:EVL c k σ [e] [.str x])
  (S:Site c o "get" [e] apos pos) : EV c k σ (.Call (.Attribute o "get" apos) [e] [] pos) ((getD kvs x).getD .none):=by
 intro A s f r
 refine wp_methM ho (dict_ty hm) m_get he f r (fun s₂ xs k₂ r₂ hxs=>?_) S
 obtain ⟨y,rfl,hy⟩:=hxs.one
 cases hy.inv with | mk t=>
 obtain ⟨kvals,hD,hV⟩:=r₂.at hm
 refine call_meetsIn F.slot_dict_get hD.typeIs F.entry_dict_get (F.args_dict_get_2 _ _) (meets_dict_get (PySem.strKind P0 c.w) a (k:=x) (by simp [PySem.strKind,Value.isStrOf]) (notSys r₂ (lookup_adr hm))) ⟨_,hD.mapOf,?_,ktrans k₂ (ktoks _)⟩
 have:=hV.get (x:=x)
 cases hg : getD kvs x with
 | none=>rw [this.2 hg]; exact .none
 | some v=>obtain ⟨y,e,h⟩:=this.1 v hg; rw [e]; exact h.keeps (ktoks _)
theorem ev_get2 {o e d:Expr} {apos pos:Pos} {a:Addr} {kvs:List (Str × V)} {x:Str} {u:V} (ho:EV c k σ o (.mob a)) (hm:σ.mu.lookup a = some (.dict kvs)) (he:EVL c k σ [e,d] [.str x,u])
  (S:Site c o "get" [e,d] apos pos) : EV c k σ (.Call (.Attribute o "get" apos) [e,d] [] pos) ((getD kvs x).getD u):=by
 intro A s f r
 refine wp_methM ho (dict_ty hm) m_get he f r (fun s₂ xs k₂ r₂ hxs=>?_) S
 obtain ⟨y,z,rfl,hy,hz⟩:=hxs.two
 cases hy.inv with | mk t=>
 obtain ⟨kvals,hD,hV⟩:=r₂.at hm
 refine call_meetsIn F.slot_dict_get hD.typeIs F.entry_dict_get (F.args_dict_get_3 _ _ _) (meets_dict_get_default (PySem.strKind P0 c.w) a (k:=x) (by simp [PySem.strKind,Value.isStrOf]) (notSys r₂ (lookup_adr hm)) z) ⟨_,hD.mapOf,?_,ktrans k₂ (ktoks _)⟩
 have:=hV.get (x:=x)
 cases hg : getD kvs x with
 | none=>rw [this.2 hg]; exact hz.keeps (ktoks _)
 | some v=>obtain ⟨y,e,h⟩:=this.1 v hg; rw [e]; exact h.keeps (ktoks _)
theorem ev_lenD {fe e:Expr} {pos:Pos} {a:Addr} {kvs:List (Str × V)} (hf:EV c k σ fe (.val (.builtin "len"))) (he:EVL c k σ [e] [.mob a]) (hm:σ.mu.lookup a = some (.dict kvs)) (hl:(kvs.length:Int) < 2 ^ 63)
  (hc:eval (.Call fe [e] [] pos) c.env = (do callWith pos (← eval fe c.env) [] (backTo pos (starEach [e] c.env)) [])) (hp:(starEach [e] c.env).any (·.1) = false) : EV c k σ (.Call fe [e] [] pos) (.int kvs.length):=by
 intro A s f r
 refine wp_callv hf he .builtin f r (fun s₂ xs k₂ r₂ hxs=>?_) hc hp
 obtain ⟨y,rfl,hy⟩:=hxs.one
 w_dflts hy
 obtain ⟨kvals,hD,hV⟩:=r₂.at hm
 refine call_len_dict (notSys r₂ (lookup_adr hm)) hD (by rw [hV.len]; exact hl) ⟨?_,ktrans k₂ (ktoks _)⟩
 rw [hV.len]; exact .int _ _
theorem R.freeze {s:Shared} {a:Addr} {vs:List V} {loc':List (Str × V)} {mu':List (Addr × MO)} (r:R c σ s) (hm:σ.mu.lookup a = some (.list vs)) (hsub:∀ p ∈ mu',p ∈ σ.mu) (hnd:(adr mu').Nodup) (hna:a ∉ adr mu')
  (hl:∀ x v,loc'.lookup x = some v → σ.loc.lookup x = some v ∨ (σ.loc.lookup x = some (.mob a) ∧ v = .lst vs)) : R c ⟨loc',mu'⟩ s:=by
 have hsubA : ∀ b ∈ adr mu',b ∈ adr σ.mu:=fun b hb=>by obtain ⟨p,hp,rfl⟩:=memm hb; exact List.mem_map_of_mem (hsub p hp)
 have up : Up (msOf c σ) (msOf c ⟨loc',mu'⟩) s s:=fun b o hb ζ e=>⟨fun q=>hb (by
  rcases mema q with q | q
  ·rcases memc q with q | q
   ·exact memL _ (q ▸ .head _)
   ·exact memL _ (.tail _ (hsubA b q))
  ·exact memR _ q),e⟩
 obtain ⟨m,hm',hv⟩:=r.vars
 have hao : a ∈ own c σ:=.tail _ (lookup_adr hm)
 refine ⟨r.glob,r.eok,⟨m,hm',fun x v e=>?_⟩,r.cells,r.apart,fun p hp=>(r.mu p (hsub p hp)).mono up (Nat.le_refl _) fun o e=>e,?_,fun b hb q=>?_,r.live,fun b hb=>?_,r.clo⟩
 ·rcases hl x v e with h | ⟨h,rfl⟩
  ·exact (hv x v h).keeps (fun ζ ζ e=>e) fun y hy=>hy.mono up (Nat.le_refl _)
  ·refine (hv x _ h).keeps (fun ζ ζ e=>e) fun y hy=>?_
   w_dflts hy
   obtain ⟨xs,n,ge,hr⟩:=r.at hm
   refine .lst ge (fun q=>?_) (hr.mono up (Nat.le_refl _))
   rcases mema q with q | q
   ·rcases memc q with q | q
    ·exact (ndc r.nd).1 (q ▸ lookup_adr hm)
    ·exact hna q
   ·exact r.disj a hao q
 ·exact ndk ⟨fun q=>(ndc r.nd).1 (hsubA _ q),hnd⟩
 ·rcases memc hb with rfl | hb
  ·exact r.disj _ (.head _) q
  ·exact r.disj _ (.tail _ (hsubA b hb)) q
 ·rcases memc hb with rfl | hb
  ·exact r.lo _ (.head _)
  ·exact r.lo _ (.tail _ (hsubA b hb))
end
end Mine.Internal
end
section
namespace Mine.Internal
section
variable {w:World} {S0:Shared} {k:Nat} {c:Cx} {σ:St} {rest:List Stmt} {Q:AF → St → Prop}
noncomputable def Sub (l' l:List (Str × V)) : Prop:=∀ x v,l'.lookup x = some v → l.lookup x = some v
theorem Sub.nil {l:List (Str × V)} : Sub [] l:=fun x v h=>by cases h
theorem Sub.cons {l l':List (Str × V)} {x:Str} {v:V} (h:l.lookup x = some v) (r:Sub l' l) : Sub ((x,v) :: l') l:=fun y u e=>by
 rcases lookup_set e with ⟨rfl,rfl⟩ | ⟨_,e⟩
 ·exact h
 ·exact r y u e
theorem Sub.ev {l l':List (Str × V)} (h:(l'.map fun p=>l.lookup p.1) = l'.map fun p=>some p.2) : Sub l' l:=by
 induction l' with
 | nil=>exact .nil
 | cons p l' ih=>
  injection h with h1 h2
  exact .cons h1 (ih h2)
theorem Sub.trans {a b d:List (Str × V)} (h:Sub a b) (h2:Sub b d) : Sub a d:=fun x v e=>h2 x v (h x v e)
theorem Sub.refl {l:List (Str × V)} : Sub l l:=fun ζ ζ h=>h
theorem Step.weak {σ' σ'':St} {s s'':Shared} (hm:∀ a ∈ adr σ'.mu,a ∈ adr σ.mu) (st:Step c σ' s σ'' s'') : Step c σ s σ'' s'':=by
 refine ⟨fun b o hb hg e=>st.kept b o (fun q=>hb ?_) hg e,fun a ha=>(st.fresh a ha).imp (hm a) id,st.there,st.gens,st.drawn,st.toks⟩
 rcases mema q with q | q
 ·rcases memc q with q | q
  ·exact memL _ (q ▸ .head _)
  ·exact memL _ (.tail _ (hm b q))
 ·exact memR _ q
theorem EXs.norm {l':List (Str × V)} (hs:Sub l' σ.loc) (h:EXs c k ⟨l',σ.mu⟩ rest Q) : EXs c k σ rest Q:=fun A s f r=>
 WPmono (h A s f (r.weak rfl hs)) fun fl s' ⟨af,σ',hQ,r',hf,st⟩=>⟨af,σ',hQ,r',hf,Step.weak (σ:=σ) (σ':=⟨l',σ.mu⟩) (fun a ha=>ha) st⟩
theorem EXs.freeze {l':List (Str × V)} {mu':List (Addr × MO)} {a:Addr} {vs:List V} (hm:σ.mu.lookup a = some (.list vs)) (hsub:∀ p ∈ mu',p ∈ σ.mu) (hnd:(adr mu').Nodup) (hna:a ∉ adr mu')
  (hl:∀ x v,l'.lookup x = some v → σ.loc.lookup x = some v ∨ (σ.loc.lookup x = some (.mob a) ∧ v = .lst vs)) (h:EXs c k ⟨l',mu'⟩ rest Q) : EXs c k σ rest Q:=fun A s f r=>
 WPmono (h A s f (r.freeze hm hsub hnd hna hl)) fun fl s' ⟨af,σ',hQ,r',hf,st⟩=>⟨af,σ',hQ,r',hf,Step.weak (σ:=σ) (σ':=⟨l',mu'⟩) (fun b hb=>by
  obtain ⟨p,hp,rfl⟩:=memm hb; exact List.mem_map_of_mem (hsub p hp)) st⟩
theorem fz_nil {a:Addr} {vs:List V} {l:List (Str × V)} : ∀ x v,([] : List (Str × V)).lookup x = some v → l.lookup x = some v ∨ (l.lookup x = some (.mob a) ∧ v = .lst vs):=fun x v h=>by cases h
theorem fz_cons {a:Addr} {vs:List V} {l l':List (Str × V)} {x:Str} {v:V} (h:l.lookup x = some v) (r:∀ y u,l'.lookup y = some u → l.lookup y = some u ∨ (l.lookup y = some (.mob a) ∧ u = .lst vs)) : ∀ y u,((x,v) :: l').lookup y = some u → l.lookup y = some u ∨ (l.lookup y = some (.mob a) ∧ u = .lst vs):=fun y u e=>by
 rcases lookup_set e with ⟨rfl,rfl⟩ | ⟨_,e⟩
 ·exact .inl h
 ·exact r y u e
theorem fz_it {a:Addr} {vs:List V} {l l':List (Str × V)} {x:Str} (h:l.lookup x = some (.mob a)) (r:∀ y u,l'.lookup y = some u → l.lookup y = some u ∨ (l.lookup y = some (.mob a) ∧ u = .lst vs)) : ∀ y u,((x,.lst vs) :: l').lookup y = some u → l.lookup y = some u ∨ (l.lookup y = some (.mob a) ∧ u = .lst vs):=fun y u e=>by
 rcases lookup_set e with ⟨rfl,rfl⟩ | ⟨_,e⟩
 ·exact .inr ⟨h,rfl⟩
 ·exact r y u e
theorem lk_head {β:Type} {a:Addr} {o:β} {mu:List (Addr × β)} : List.lookup a ((a,o) :: mu) = some o:=by rw [List.lookup_cons,beq_self_eq_true]
theorem lk_tail {β:Type} {a b:Addr} {o:β} {mu:List (Addr × β)} (h:a ≠ b) : List.lookup a ((b,o) :: mu) = List.lookup a mu:=by rw [List.lookup_cons,beq_eq_false_iff_ne.mpr h]
theorem updM_none {mu:List (Addr × MO)} {b:Addr} {o:MO} (h:b ∉ adr mu) : updM mu b o = mu:=by
 induction mu with
 | nil=>rfl
 | cons p mu ih=>
  show (if p.1 = b then (b,o) else p) :: updM mu b o = p :: mu
  rw [if_neg (fun e:p.1 = b=>h (by rw [← e]; exact .head _)),ih fun q=>h (.tail _ q)]
theorem upd_cons {mu:List (Addr × MO)} {a:Addr} {o o':MO} (h:a ∉ adr mu) : updM ((a,o) :: mu) a o' = (a,o') :: mu:=by
 show (if a = a then _ else _) :: updM mu a o' = _
 rw [if_pos rfl,updM_none h]
theorem upd_one {a:Addr} {o o':MO} : updM [(a,o)] a o' = [(a,o')]:=congrArg (· :: []) (if_pos rfl)
theorem EXs.mcons {st:Stmt} (h:EX c k σ st (Seq c k rest Q)) : EXs c k σ (st :: rest) Q:=.cons h
theorem EXs.assignM {x:Str} {xp pos:Pos} {e:Expr} (h:EM c k σ e fun v σ'=>EXs c k (σ'.set x v) rest Q) (hx:Stores c x)
  (hs:swapsWith e (some (.Name x xp)) pos.line c.env = pure false:=by rfl) : EXs c k σ (.Assign [.Name x xp] e pos :: rest) Q:=.cons (.assignM h hx hs)
theorem EXs.exprM {e:Expr} {pos:Pos} (h:EM c k σ e fun ζ σ'=>EXs c k σ' rest Q) (hi:interactive c.env = false:=by rfl) (hs:swapsWith e none pos.line c.env = pure false:=by rfl) : EXs c k σ (.Expr e pos :: rest) Q:=.cons (.ofM h hi hs)
theorem EXs.forL {target iter:Expr} {body orelse:List Stmt} {pos:Pos} {vs:List V} {I:Nat → St → Prop} (hit:SRC c k σ iter target vs) (h0:I 0 σ)
  (turn:∀ i v σ₁,vs[i]? = some v → I i σ₁ → ∀ out,BodyP (c.wo out) k σ₁ target v body (LoopQ (I (i + 1)) (Seq c k rest Q)))
  (hend:∀ σ₁,I vs.length σ₁ → EXs c k σ₁ orelse (Seq c k rest Q))
  (hs:∀ x,foldedSetIterable iter c.env x = pure x) : EXs c k σ (.For target iter body orelse pos :: rest) Q:=.cons (.for hit h0 turn hend hs)
theorem EXs.forS {target iter:Expr} {body:List Stmt} {pos:Pos} {vs:List V} (F:Nat → St) (hit:SRC c k σ iter target vs) (h0:σ = F 0)
  (turn:∀ i v,vs[i]? = some v → ∀ out (Q':AF → St → Prop),Q' .next (F (i + 1)) → BodyP (c.wo out) k (F i) target v body Q')
  (hend:EXs c k (F vs.length) rest Q)
  (hs:∀ x,foldedSetIterable iter c.env x = pure x:=by intro _; rfl) : EXs c k σ (.For target iter body [] pos :: rest) Q:=
 .forL (I:=fun i σ=>σ = F i) hit h0 (fun i v σ₁ hv e out=>by subst e; exact turn i v hv out _ rfl) (fun σ₁ e=>by subst e; exact EXs.nil hend) hs
theorem EXs.forA {target iter:Expr} {body:List Stmt} {pos:Pos} {vs:List V} (F:Nat → List (Str × V)) (P:Nat → List (Addr × MO) → Prop) (hit:SRC c k σ iter target vs) (h0:σ.loc = F 0) (h00:P 0 σ.mu)
  (turn:∀ i v m,vs[i]? = some v → P i m → ∀ out (Q':AF → St → Prop),(∀ m',P (i + 1) m' → Q' .next ⟨F (i + 1),m'⟩) → BodyP (c.wo out) k ⟨F i,m⟩ target v body Q')
  (hend:∀ m,P vs.length m → EXs c k ⟨F vs.length,m⟩ rest Q)
  (hs:∀ x,foldedSetIterable iter c.env x = pure x:=by intro _; rfl) : EXs c k σ (.For target iter body [] pos :: rest) Q:=
 .forL (I:=fun i σ=>σ.loc = F i ∧ P i σ.mu) hit ⟨h0,h00⟩ (fun i v σ₁ hv e out=>by
  obtain ⟨l,m⟩:=σ₁
  obtain ⟨e1,e2⟩:=e
  subst e1
  exact turn i v m hv e2 out _ fun m' h=>⟨rfl,h⟩) (fun σ₁ e=>by
  obtain ⟨l,m⟩:=σ₁
  obtain ⟨e1,e2⟩:=e
  subst e1
  exact EXs.nil (hend m e2)) hs
end
end Mine.Internal
namespace Mine.Internal
section
variable {c:Cx} {σ:St} {scope:Scope} {cl:List (Str × Addr)}
noncomputable def CapP (c:Cx) (σ:St) (scope:Scope) (cl:List (Str × Addr)) (x:Str) (v:V) : Prop:=σ.loc.lookup x = some v ∧ c.env.kindOf x = some .cell ∧ cl.lookup x = c.env.cells.lookup x ∧ ((relabel scope c.env).names.lookup x = some .cell ∨ (relabel scope c.env).names.lookup x = some .free)
theorem cap_nil : ∀ x v,([] : List (Str × V)).lookup x = some v → CapP c σ scope cl x v:=fun x v h=>by cases h
theorem cap_cons {cap:List (Str × V)} {x:Str} {v:V} (h:σ.loc.lookup x = some v) (h2:c.env.kindOf x = some .cell) (h3:cl.lookup x = c.env.cells.lookup x) (h4:(relabel scope c.env).names.lookup x = some .cell) (r:∀ x v,cap.lookup x = some v → CapP c σ scope cl x v) : ∀ y u,((x,v) :: cap).lookup y = some u → CapP c σ scope cl y u:=fun y u e=>by
 rcases lookup_set e with ⟨rfl,rfl⟩ | ⟨_,e⟩
 ·exact ⟨h,h2,h3,.inl h4⟩
 ·exact r y u e
theorem ck_nil : ∀ p ∈ ([] : List (Str × Addr)),p ∈ c.env.cells ∧ c.env.kindOf p.1 = some .cell:=fun p h=>by cases h
theorem ck_cons {x:Str} {a:Addr} (h:c.env.cells.lookup x = some a) (h2:c.env.kindOf x = some .cell) (r:∀ p ∈ cl,p ∈ c.env.cells ∧ c.env.kindOf p.1 = some .cell) : ∀ p ∈ (x,a) :: cl,p ∈ c.env.cells ∧ c.env.kindOf p.1 = some .cell:=fun p hp=>by
 rcases memc hp with rfl | hp
 ·exact ⟨mem_of_lookup h,h2⟩
 ·exact r p hp
end
end Mine.Internal
end
section
namespace Mine.Internal
noncomputable def ST (c:Cx) (k:Nat) (σ:St) (wl:List Addr) (m:Sem Unit) (P:St → Prop) : Prop:=∀ A s,Fit k A → R c σ s → WP c.w A m (fun ζ s'=>∃ σ',P σ' ∧ R c σ' s' ∧ Step c σ s σ' s' ∧ Chg wl s s') s
noncomputable def ASGW (c:Cx) (k:Nat) (σ:St) (wl:List Addr) (t:Expr) (v:V) (σ':St) : Prop:=∀ A s x,Fit k A → R c σ s → VR c.S0 (msOf c σ) s v x → WP c.w A (assign t c.env x) (fun ζ s'=>R c σ' s' ∧ Step c σ s σ' s' ∧ Chg wl s s') s
theorem Chg.sub {wl wr:List Addr} {s s':Shared} (ch:Chg wr s s') (h:∀ b ∈ wr,b ∈ wl) : Chg wl s s':=⟨ch.same,fun b o hb e=>ch.kept b o (fun q=>hb (h b q)) e,ch.there,ch.toks⟩
theorem Chg.new {wl wr:List Addr} {s₀ s s':Shared} (x:Chg wl s₀ s) (ch:Chg wr s s') (h:∀ b ∈ wr,s₀.heap.get? b = none) : Chg wl s₀ s':=by
 refine ⟨?_,fun b o hb e=>ch.kept b o (fun q=>by rw [h b q] at e; cases e) (x.kept b o hb e),fun b o e=>let ⟨o',e'⟩:=x.there b o e; ch.there b o' e',Nat.le_trans x.toks ch.toks⟩
 obtain ⟨h₁,t₁,rfl⟩:=x.same
 obtain ⟨h₂,t₂,rfl⟩:=ch.same
 exact ⟨h₂,t₂,rfl⟩
theorem Chg.new0 {wl wr:List Addr} {s₀ s s':Shared} (x:Chg wl s₀ s) (ch:Chg0 wr s s') (h:∀ b ∈ wr,s₀.heap.get? b = none) : Chg wl s₀ s':=by
 refine ⟨?_,fun b o hb e=>ch.kept b o (fun q=>by rw [h b q] at e; cases e) (x.kept b o hb e),fun b o e=>?_,Nat.le_trans x.toks ch.toks⟩
 ·obtain ⟨h₁,t₁,rfl⟩:=x.same
  obtain ⟨h₂,t₂,rfl⟩:=ch.same
  exact ⟨h₂,t₂,rfl⟩
 ·obtain ⟨o',e'⟩:=x.there b o e
  exact ⟨o',ch.kept b o' (fun q=>by rw [h b q] at e; cases e) e'⟩
noncomputable def cturn (e:Expr) (d:Nat) (p:Pos) (target:Expr) (it acc:Value) (env:Env) (ifs:List Expr) (body:Sem Unit) : Sem Fin:=do
 standAt p
 match ← pyNext it with
 | none=>pure (.done .next)
 | some v=>
  letOwnedTupleGo target it v
  assign target env v
  let mut ok:=true
  for c in ifs do
   if ok then ok ← isTrue c env (eval c env)
  if ok then body
  again (.compLoop e d it acc env)
inductive TurnG (c:Cx) (k:Nat) (wl:List Addr) (target:Expr) (ifs:List Expr) (body:Sem Unit) (v:V) (P:St → Prop) (σ₁:St) : Prop
 | mk (σ₂:St) (b:Bool) (ha:ASGW c k σ₁ wl target v σ₂) (ht:EVT c k σ₂ ifs b) (h1:b = true → ST c k σ₂ wl body P) (h2:b = false → P σ₂) : TurnG c k wl target ifs body v P σ₁
section
variable {w:World} {S0:Shared} {k:Nat} {c:Cx} {σ:St}
theorem cloop_gen {A:Around} {s s₂:Shared} {wl:List Addr} {elt target:Expr} {gens:List Comprehension} {scope:Scope} {pos p:Pos} {d:Nat} {acc:Value} {ifs:List Expr} {body:Sem Unit} {vs:List V} {I:Nat → St → Prop} {J:Addr} {wr:List Addr} {St:Nat → List Addr → Shared → Prop} {RR:Result → Shared → Prop}
  (heq:compTurn (.ListComp elt gens scope pos) d (.ref J) acc c.env = cturn (.ListComp elt gens scope pos) d p target (.ref J) acc c.env ifs body)
  (f:Fit k A) (r₂:R c σ s₂) (k₂:Kp s s₂) (hws:∀ b ∈ wr,s.heap.get? b = none) (hwL:∀ b ∈ wr,Lo c.S0 b) (hwC:∀ p ∈ c.env.cells,p.2 ∉ wr) (hwo:∀ b ∈ wr,b ∈ c.out) (W:Itr c.w A c.S0 target vs J wr St) (hst:St 0 (msOf c σ) s₂) (h0:I 0 σ)
  (turn:∀ i v σ₁,vs[i]? = some v → I i σ₁ → TurnG c k wl target ifs body v (I (i + 1)) σ₁)
  (hend:∀ σ' s₃ s',I vs.length σ' → R c σ' s₃ → Step c σ s σ' s₃ → Chg wl s s₃ → Chg0 wr s₃ s' → RR (.ok .next) s') :
  codeAny (model P0 c.w) A (.compLoop (.ListComp elt gens scope pos) d (.ref J) acc c.env) RR s₂:=by
 have hwS : ∀ b ∈ wr,c.S0.heap.get? b = none:=fun b hb=>(hwL b hb).1
 have hwCo : ∀ b ∈ wr,b ∉ ownC c.env:=fun b hb q=>by
  obtain ⟨p,hp,rfl,_⟩:=of_mem_ownC q; exact hwC p hp hb
 have kw : ∀ {σ₁ σ₂:Mine.Internal.St} {s s':Shared},R c σ₁ s → Step c σ₁ s σ₂ s' → ∀ b ∈ wr,∀ o,s.heap.get? b = some o → s'.heap.get? b = some o:=fun r st b hb o e=>by
  refine st.kept b o (fun q=>?_) ((hwL b hb).gk _ o) e
  rcases mema q with q | q
  ·exact r.disj b q (hwo b hb)
  ·exact hwCo b hb q
 refine codeAny_loop rfl (fun n s'=>∃ i σ₁,i ≤ vs.length ∧ n = vs.length - i ∧ I i σ₁ ∧ R c σ₁ s' ∧ St i (msOf c σ₁) s' ∧ Step c σ s σ₁ s' ∧ Chg wl s s') (fun n s₃ hI=>?_) vs.length ⟨0,σ,Nat.zero_le _,rfl,h0,r₂,hst,.of_keeps k₂,.of_kp k₂⟩
 obtain ⟨i,σ₁,hi,rfl,hI,r₃,hst₃,st₃,cg₃⟩:=hI
 show wpAny _ A ((compTurn (.ListComp elt gens scope pos) d (.ref J) acc c.env).onRaise (fun x=>do noteFrame x c.env; theTreesLotGoes x)) _ _ s₃
 refine wpAny_noted ?_
 rw [heq]
 unfold cturn
 refine wpAny_bind (wpAny_standAt (wpAny_bind ?_))
 rcases Nat.lt_or_ge i vs.length with hlt | hge
 ·refine wpAny_mono (W.item i _ s₃ hlt hst₃ r₃.gl (fun b hb=>memR _ (hwo b hb))) (fun v s₄ h=>?_) fun ζ ζ x=>x.elim
  obtain ⟨x,hv,h⟩:=h
  subst hv
  refine wpAny_bind (wpAny_mono h (fun ζ s₅ h=>?_) fun ζ ζ x=>x.elim)
  obtain ⟨v,hv,hr,hst₅,ch⟩:=h
  have r₅:=r₃.chg ch hwo hwS hwC
  have st₅:=st₃.chg ch hws
  have cg₅:=cg₃.new ch hws
  obtain ⟨σ₂,b,ha,ht,h1,h2⟩:=turn i v σ₁ hv hI
  refine wpAny_bind (wpAny_mono (ha A s₅ _ f r₅ hr) (fun ζ s₆ h=>?_) fun ζ ζ x=>x.elim)
  obtain ⟨r₆,st₆,cg₆⟩:=h
  have hst₆:=W.frame _ _ _ _ _ hst₅ (st₆.up r₅) st₆.toks (kw r₅ st₆)
  refine wpAny_bind (wpAny_mono (ht A s₆ f r₆) (fun ok s₇ h=>?_) fun ζ ζ x=>x.elim)
  obtain ⟨hok,k₇⟩:=h
  subst hok
  have r₇:=r₆.keeps k₇
  have hst₇:=W.frame _ _ _ _ _ hst₆ (.keeps k₇) k₇.t fun b hb o e=>kget k₇ e
  have st₇ : Step c σ s σ₂ s₇:=(st₅.trans st₆).trans (.of_keeps k₇)
  have cg₇:=(cg₅.trans cg₆).trans (.of_kp k₇)
  cases ok with
  | false=>exact wpAny_pure ⟨rfl,vs.length - (i + 1),sub_step hlt,i + 1,σ₂,hlt,rfl,h2 rfl,r₇,hst₇,st₇,cg₇⟩
  | true=>
   refine wpAny_bind (wpAny_mono (h1 rfl A s₇ f r₇) (fun ζ s₈ h=>?_) fun ζ ζ x=>x.elim)
   obtain ⟨σ₃,hI3,r₈,st₈,cg₈⟩:=h
   exact wpAny_pure ⟨rfl,vs.length - (i + 1),sub_step hlt,i + 1,σ₃,hlt,rfl,hI3,r₈,W.frame _ _ _ _ _ hst₇ (st₈.up r₇) st₈.toks (kw r₇ st₈),st₇.trans st₈,cg₇.trans cg₈⟩
 ·have hi' : i = vs.length:=Nat.le_antisymm hi hge
  subst hi'
  refine wpAny_mono (W.done _ s₃ hst₃ r₃.gl) (fun v s₄ h=>?_) fun ζ ζ x=>x.elim
  obtain ⟨hv,ch⟩:=h
  subst hv
  exact wpAny_pure (hend _ _ _ hI r₃ st₃ cg₃ ch)
theorem cloop_core {A:Around} {s s₂:Shared} {wl:List Addr} {elt target:Expr} {gens:List Comprehension} {scope:Scope} {pos p:Pos} {d:Nat} {acc:Value} {ifs:List Expr} {body:Sem Unit} {vs:List V} {I:Nat → St → Prop} {J:Addr} {wr:List Addr} {St:Nat → List Addr → Shared → Prop} {RR:Result → Shared → Prop}
  (heq:compTurn (.ListComp elt gens scope pos) d (.ref J) acc c.env = cturn (.ListComp elt gens scope pos) d p target (.ref J) acc c.env ifs body)
  (f:Fit k A) (r:R c σ s) (k₂:Kp s s₂) (W:Itr c.w A c.S0 target vs J wr St) (hst:St 0 (wr ++ msOf c σ) s₂) (hw:∀ b ∈ wr,NewC s s₂ b) (h0:I 0 σ)
  (turn:∀ i v σ₁,vs[i]? = some v → I i σ₁ → ∀ out,TurnG (c.wo out) k wl target ifs body v (I (i + 1)) σ₁)
  (hend:∀ σ' s',I vs.length σ' → R c σ' s' → Step c σ s σ' s' → Chg wl s s' → RR (.ok .next) s') :
  codeAny (model P0 c.w) A (.compLoop (.ListComp elt gens scope pos) d (.ref J) acc c.env) RR s₂:=by
 have hws : ∀ b ∈ wr,s.heap.get? b = none:=fun b hb=>(hw b hb).none
 have hwL : ∀ b ∈ wr,Lo c.S0 b:=fun b hb=>⟨by
  cases e : c.S0.heap.get? b with
  | none=>rfl
  | some o=>obtain ⟨o',e'⟩:=r.glob.old.there b o e; exact ((hw b hb).ne e').elim,(hw b hb).hi⟩
 have hwC : ∀ p ∈ c.env.cells,p.2 ∉ wr:=fun p hp q=>by
  obtain ⟨u,o,e,_⟩:=(r.cells p hp).2
  exact (hw _ q).ne e
 have hwO : ∀ a ∈ c.out,a ∉ wr:=fun a ha q=>by
  obtain ⟨o,e⟩:=r.live a ha
  exact (hw _ q).ne e
 refine cloop_gen (c:=(c.wo (wr ++ c.out))) heq f (r.wide k₂ hw) k₂ hws hwL hwC (fun b hb=>memL _ hb) W ?_ h0 (fun i v σ₁ hv hI=>turn i v σ₁ hv hI _) fun σ' s₃ s' h1 h2 h3 h4 h5=>hend σ' s' h1 (r.chgN h2 h5 (fun b hb=>(hwL b hb).1) hwC hwO) (Step.chg0 (c:=c) ⟨h3.kept,h3.fresh,h3.there,h3.gens,h3.drawn,h3.toks⟩ h5 hws) (h4.new0 h5 hws)
 refine W.frame _ _ _ _ _ hst (fun b o hb ζ e=>⟨fun q=>hb ?_,e⟩) (Nat.le_refl _) fun ζ ζ ζ e=>e
 rcases mema q with q | q
 ·exact memR _ (memL _ q)
 ·rcases mema q with q | q
  ·exact memL _ q
  ·exact memR _ (memR _ q)
end
end Mine.Internal
end
section
namespace Mine.Internal
noncomputable def ocs (own:Option Str) (n:Addr) : List (Str × Addr):=match own with
 | none=>[]
 | some x=>[(x,n)]
noncomputable def pushO (own:Option Str) (H:Heap) : Heap:=match own with
 | none=>H
 | some _=>H.push { cls:=.type "cell",data:=.cell none }
theorem pushO_keeps {own:Option Str} {H:Heap} {b:Addr} {o:Obj} (e:H.get? b = some o) : (pushO own H).get? b = some o:=by
 cases own with
 | none=>exact e
 | some _=>exact Heap.get?_push_of_some _ e
theorem pushO_cell {own:Option Str} {H:Heap} : ∀ p ∈ ocs own H.objs.size,(pushO own H).IsCell p.2 none ∧ H.objs.size ≤ p.2:=by
 cases own with
 | none=>intro p hp; cases hp
 | some x=>
  intro p hp
  rw [mem1 hp]
  exact ⟨⟨_,Heap.get?_push_size _ rfl,rfl⟩,Nat.le_refl _⟩
noncomputable abbrev cx3 (c:Cx) (scope:Scope) (cells:List (Str × Addr)) (C:Addr) (out:List Addr) : Cx:={ c with env:=compEnvC scope cells C c.env,out:=out,gen:=false }
structure Cap3 (c:Cx) (σ:St) (scope:Scope) (own:Option Str) (cl:List (Str × Addr)) (cap:List (Str × V)) : Prop where
 clos : closureFor scope c.env = pure cl
 cf : ∀ n,cellsFrom n scope.names cl = ocs own n ++ cl
 pf : ∀ H,pushCells H scope.names = pushO own H
 kind : scope.kind = .function
 names : ∀ y ∈ scope.names,y.2 = .local → scope.names.lookup y.1 = some .local
 clok : ∀ p ∈ cl,p ∈ c.env.cells ∧ c.env.kindOf p.1 = some .cell
 nd : (cl.map (·.1)).Nodup
 capok : ∀ x v,cap.lookup x = some v → σ.loc.lookup x = some v ∧ c.env.kindOf x = some .cell ∧ (∀ n,(ocs own n ++ cl).lookup x = c.env.cells.lookup x) ∧ ((relabel scope c.env).names.lookup x = some .cell ∨ (relabel scope c.env).names.lookup x = some .free)
section
variable {w:World} {S0:Shared} {k:Nat} {c:Cx} {σ:St}
theorem wp_newEnv3 {A:Around} {scope:Scope} {own:Option Str} {cl:List (Str × Addr)} {cap:List (Str × V)} {s:Shared} {Q:Env → Shared → Prop} (hc:Cap3 c σ scope own cl cap)
  (hQ:Q { scope:=scope,locals:=s.heap.objs.size,globals:=c.env.globals,cells:=ocs own (s.heap.objs.size + 1) ++ cl,qual:=c.env.qual,func:=none,code:=c.env.code,frame:=c.env.frame,builtins:=c.env.builtins } { s with heap:=pushO own (s.heap.push { cls:=.type "dict",data:=.dict #[] }) }) :
  WP c.w A (newFunctionEnv scope c.env.globals cl [] c.env.qual none .none (some c.env)) Q s:=by
 simp only [newFunctionEnv,Option.isSome_some,if_true]
 refine wpAny_bind (wpAny_alloc ?_)
 refine wpAny_bind (wpAny_layCells _ (fun name kind cells=>by cases hkc:kind == NameKind.cell <;> simp [hkc]) _ _ _ _ ?_)
 rw [hc.cf,hc.pf,Heap.size_push]
 refine wpAny_bind ?_
 rw [List.forIn_nil]
 exact wpAny_pure (wpAny_pure hQ)
theorem R.comp3 {scope:Scope} {own:Option Str} {cl:List (Str × Addr)} {cap:List (Str × V)} {s s':Shared} {C D K:Addr} {out:List Addr} {m:Str → Option Value} (r:R c σ s) (hc:Cap3 c σ scope own cl cap) (kk:Kp s s') (hn:s'.heap.Ns C m) (hC:NewC s s' C) (hD:NewC s s' D) (hCD:C ≠ D)
  (hl:s'.heap.get? D = some { cls:=.type "list",data:=.seq #[] 0 }) (hK:∀ p ∈ ocs own K,NewC s s' p.2 ∧ s'.heap.IsCell p.2 none ∧ p.2 ∈ out)
  (ho:∀ b ∈ out,NewC s s' b ∨ b = c.env.locals ∨ b ∈ c.out) (ho':∀ b ∈ c.out,b ∈ out) (hCo:C ∉ out) (hDo:D ∉ out) : R (cx3 c scope (ocs own K ++ cl) C out) ⟨cap,(D,.list []) :: σ.mu⟩ s':=by
 have r':=r.keeps kk
 have hol : ∀ a ∈ adr σ.mu,∃ o,s.heap.get? a = some o:=fun a ha=>r.liveMs a (memL _ (.tail _ ha))
 have up : Up (msOf c σ) (msOf (cx3 c scope (ocs own K ++ cl) C out) ⟨cap,(D,.list []) :: σ.mu⟩) s s':=fun b o hb ζ e=>by
  refine ⟨fun q=>?_,kget kk e⟩
  rcases mema q with q | q
  ·rcases memc q with rfl | q
   ·exact hC.ne e
   ·rcases memc q with rfl | q
    ·exact hD.ne e
    ·exact hb (memL _ (.tail _ q))
  ·rcases ho b q with h | rfl | h
   ·exact h.ne e
   ·exact hb (memL _ (.head _))
   ·exact hb (memR _ h)
 have lo : ∀ {a:Addr},NewC s s' a → Lo c.S0 a:=fun {a} h=>⟨Option.eq_none_iff_forall_ne_some.mpr fun o e=>(by obtain ⟨o',e'⟩:=r.glob.old.there _ _ e; exact h.ne e'),h.hi⟩
 obtain ⟨m₀,hm,hv⟩:=r.vars
 refine ⟨r'.glob,⟨hc.kind,r.eok.globals,r.eok.builtins⟩,⟨m,hn,fun x v e=>?_⟩,fun p hp=>?_,?_,fun p hp=>?_,?_,fun a ha q=>?_,fun a ha=>?_,fun a ha=>?_,fun p hp hk=>?_⟩
 ·obtain ⟨h1,h2,h3,h4⟩:=hc.capok x v e
  rcases hv x v h1 with ⟨hk,_⟩ | ⟨hk,a,y',ha,hcell,hr⟩
  ·rw [h2] at hk; cases hk
  ·exact .inr ⟨h4,a,y',(h3 K).trans ha,hcell.keeps (kall kk),hr.mono up kk.t⟩
 ·rcases mema hp with hp | hp
  ·exact ⟨.inl (hK p hp).2.2,_,(hK p hp).2.1⟩
  ·obtain ⟨h1,h2⟩:=hc.clok p hp
   rcases (r.cells p h1).1 with h | ⟨h,_⟩
   ·exact ⟨.inl (ho' _ h),(r'.cells p h1).2⟩
   ·exact absurd h2 h
 ·refine List.pairwise_append.mpr ⟨?_,(List.pairwise_map.mp hc.nd).imp_of_mem fun hx hy hne e=>hne (name_of_addr r.apart (hc.clok _ hx).1 (e ▸ (hc.clok _ hy).1)),fun p hp q hq e=>?_⟩
  ·cases own with
   | none=>exact .nil
   | some x=>exact List.pairwise_singleton _ _
  ·obtain ⟨u,o,g,_⟩:=(r.cells q (hc.clok q hq).1).2
   rw [← e] at g
   exact (hK p hp).1.ne g
 ·rcases memc hp with rfl | hp
  ·exact ⟨#[],0,hl,.nil⟩
  ·exact (r.mu p hp).mono up kk.t fun o e=>kget kk e
 ·refine ndk ⟨fun q=>?_,ndk ⟨fun q=>?_,(ndc r.nd).2⟩⟩
  ·rcases memc q with q | q
   ·exact hCD q
   ·obtain ⟨o,e⟩:=hol _ q; exact hC.ne e
  ·obtain ⟨o,e⟩:=hol _ q; exact hD.ne e
 ·rcases memc ha with rfl | ha
  ·exact hCo q
  ·rcases memc ha with rfl | ha
   ·exact hDo q
   ·rcases ho a q with h | rfl | h
    ·obtain ⟨o,e⟩:=hol _ ha; exact h.ne e
    ·exact (ndc r.nd).1 ha
    ·exact r.disj a (.tail _ ha) h
 ·rcases ho a ha with h | rfl | h
  ·exact h.there
  ·exact r'.liveMs _ (memL _ (.head _))
  ·exact r'.live a h
 ·rcases memc ha with rfl | ha
  ·exact lo hC
  ·rcases memc ha with rfl | ha
   ·exact lo hD
   ·exact r.lo a (.tail _ ha)
 ·rcases mema hp with hp | hp
  ·exact lo (hK p hp).1
  ·obtain ⟨h1,h2⟩:=hc.clok p hp
   exact r.clo p h1 h2
theorem ST.emit {wl:List Addr} {elt:Expr} {D:Addr} {ys:List V} {v:V} {P:St → Prop} (he:EV c k σ elt v) (hm:σ.mu.lookup D = some (.list ys)) (hsz:ys.length ≤ sizeLine) (hD:D ∈ wl) (hP:P ⟨σ.loc,updM σ.mu D (.list (ys ++ [v]))⟩) :
  ST c k σ wl (do let _ ← call (.builtin "list.append") [.ref D,← eval elt c.env]) P:=by
 intro A s f r
 refine wpAny_bind (WPmono (he A s f r) fun x s₂ h=>?_)
 obtain ⟨hx,k₂⟩:=h
 exact wpAny_bind ((r.keeps k₂).append hm hsz hx fun s' r₃ st₃ ch=>wpAny_pure ⟨_,hP,r₃,(Step.of_keeps k₂).trans st₃,(Chg.of_kp k₂).trans (ch.sub fun b hb=>by rw [mem1 hb]; exact hD)⟩)
theorem start_d {A:Around} {elt target iter:Expr} {ifs:List Expr} {g0:Comprehension} {rest:List Comprehension} {scope:Scope} {pos:Pos} {it acc:Value} {env:Env} {RR:Result → Shared → Prop} {s:Shared}
  (h0:codeAny (model P0 w) A (.compLoop (.ListComp elt (g0 :: ⟨target,iter,ifs,0⟩ :: rest) scope pos) 1 it acc env) RR s)
  (h:WP w A (pyIter it) (fun it' s'=>codeAny (model P0 w) A (.compLoop (.ListComp elt (g0 :: ⟨target,iter,ifs,0⟩ :: rest) scope pos) 1 it' acc env) RR s') s) :
  codeAny (model P0 w) A (.compStart (.ListComp elt (g0 :: ⟨target,iter,ifs,0⟩ :: rest) scope pos) 1 it acc env) RR s:=by
 refine codeAny_of_tree ?_
 show wpAny _ _ ((compStart (.ListComp elt (g0 :: ⟨target,iter,ifs,0⟩ :: rest) scope pos) 1 it acc env).onRaise (fun x=>do noteFrame x env; standAt theWindowsPlace)) _ _ s
 refine wpAny_notedAt ?_
 unfold compStart
 show wpAny _ _ (ask >>= _) _ _ s
 refine wpAny_bind (wpAny_askSetting (wpAny_ite ?_))
 have h':=wpAny_mono h (fun ζ ζ q=>q) (E':=notedBy (model P0 w) A env fun x s'=>RR (.error x) s') fun ζ ζ x=>x.elim
 split
 ·first
   | exact wpAny_bind (wpAny_pure (wpAny_pure (And.intro rfl h0)))
   | exact wpAny_pure (And.intro rfl h0)
 ·first
   | exact wpAny_bind (wpAny_rule (wpAny_bind (wpAny_standAt (wpAny_bind (wpAny_mono h' (fun it' s' h'=>wpAny_pure (And.intro rfl h')) fun ζ ζ x=>x)))))
   | (refine wpAny_bind (wpAny_rule ?_); show wpAny _ _ (standAt iter.pos >>= _) _ _ s; exact wpAny_bind (wpAny_standAt (wpAny_bind (wpAny_mono h' (fun it' s' h'=>wpAny_pure (And.intro rfl h')) fun ζ ζ x=>x))))
theorem ST.inner {wl:List Addr} {elt target iter:Expr} {ifs:List Expr} {g0:Comprehension} {scope:Scope} {pos p:Pos} {acc:Value} {body:Sem Unit} {vs:List V} {I:Nat → St → Prop}
  (hsrc:SRC c k σ iter target vs) (h0:I 0 σ)
  (heq:∀ J,compTurn (.ListComp elt [g0,⟨target,iter,ifs,0⟩] scope pos) 1 (.ref J) acc c.env = cturn (.ListComp elt [g0,⟨target,iter,ifs,0⟩] scope pos) 1 p target (.ref J) acc c.env ifs body)
  (turn:∀ i v σ₁,vs[i]? = some v → I i σ₁ → ∀ out,TurnG (c.wo out) k wl target ifs body v (I (i + 1)) σ₁)
  (hs:∀ x,foldedSetIterable iter c.env x = pure x:=by intro _; rfl) :
  ST c k σ wl (do
   let x ← eval iter c.env
   standAt iter.pos
   let x ← foldedSetIterable iter c.env x
   let _ ← runOwn (.compStart (.ListComp elt [g0,⟨target,iter,ifs,0⟩] scope pos) 1 (← holding [x] (pyIter x)) acc c.env) c.env) (I vs.length):=by
 intro A s f r
 refine wpAny_bind (WPmono (hsrc A s f r) fun x s₁ h=>?_)
 obtain ⟨k₁,h⟩:=h
 refine wpAny_bind (wpAny_standAt (wpAny_bind ?_))
 rw [hs]
 refine wpAny_pure (wpAny_bind (wpAny_holding (WPmono h fun it s₂ h=>?_)))
 obtain ⟨k₂,J,wr,St,rfl,W,hst,hw⟩:=h
 have k12:=ktrans k₁ k₂
 refine wpAny_bind (wpAny_runOwn ?_)
 have loop:=cloop_core (A:=A) (s:=s) (s₂:=s₂) (RR:=fun rr s'=>match rr with | .ok fl=>WP c.w A (pure ()) (fun ζ s'=>∃ σ',I vs.length σ' ∧ R c σ' s' ∧ Step c σ s σ' s' ∧ Chg wl s s') s' | .error e=>cameBackBy (model P0 c.w) A c.env (fun ζ ζ=>False) e s') (heq J) f r k12 W hst hw h0 turn fun σ' s' h1 h2 h3 h4=>wpAny_pure ⟨σ',h1,h2,h3,h4⟩
 have g2 : GL c.w c.S0 (wr ++ msOf c σ) s₂:=⟨r.glob.keeps k12,fun a ha=>(mema ha).elim (fun q=>(hw a q).there) fun q=>(r.liveMs.keeps (kall k12)) a q⟩
 exact start_d loop (wpAny_mono (W.self 0 _ s₂ hst g2) (fun x s' h=>by obtain ⟨h1,h2⟩:=h; rw [h1,h2]; exact loop) fun ζ ζ h=>h.elim)
end
end Mine.Internal
end
section
namespace Mine.Internal
section
variable {w:World} {S0:Shared} {k:Nat} {c:Cx} {σ:St}
theorem ASGW.name {wl:List Addr} {x:Str} {p:Pos} {v:V} (h:c.env.kindOf x = some .local) (hl:c.env.locals ∈ wl) : ASGW c k σ wl (.Name x p) v (σ.set x v):=fun A s y f r hy=>
 wpAny_assign_Name (WPmono (storeVar2 r hy (.inl h)) fun ζ s' q=>by
  obtain ⟨⟨q1,q2⟩,q3⟩:=q
  obtain ⟨h',tk,rfl,ht,hs,ho⟩:=q3 h
  exact ⟨q1,q2,(chg_same hs ho ht).sub fun b hb=>by rw [mem1 hb]; exact hl⟩)
theorem storeCell {x:Str} {v:V} {y:Value} {A:Around} {s:Shared} {a:Addr} (r:R c σ s) (hy:VR c.S0 (msOf c σ) s v y) (hx:c.env.kindOf x = some .cell) (ha:c.env.cells.lookup x = some a) :
  WP c.w A (storeName c.env x y) (fun ζ s'=>R c (σ.set x v) s' ∧ Step c σ s (σ.set x v) s' ∧ Chg [a] s s') s:=by
 obtain ⟨m,hm,hv⟩:=r.vars
 have hmem:=mem_of_lookup ha
 obtain ⟨hout',v₀,hv₀⟩:=r.cells _ hmem
 have hout : a ∈ c.out:=by
  rcases hout' with h | ⟨h,_⟩
  ·exact h
  ·exact absurd hx h
 refine wpAny_storeName_cell r.eok.kind hx ha hv₀ fun h' hn hs=>?_
 have hms : a ∈ msOf c σ:=memR _ hout
 have up : ∀ s' : Shared,s'.heap = h' → Up (msOf c σ) (msOf c σ) s s':=fun s' es b o hb ζ e=>⟨hb,es ▸ (hs.2 b fun q=>hb (q ▸ hms)).trans e⟩
 have hloc : c.env.locals ≠ a:=fun q=>r.disj _ mem_own_locals (q ▸ hout)
 refine ⟨⟨glob_same (t:=s.toks) r.glob (r.clo _ hmem hx).1 hs,r.eok,⟨m,hm.sameBut hs hloc,fun z u hz=>?_⟩,fun p hp=>⟨(r.cells p hp).1,?_⟩,r.apart,fun p hp=>?_,r.nd,r.disj,fun b hb=>?_,r.lo,r.clo⟩,⟨fun b o hb ζ e=>?_,fun a ha=>.inl ha,fun b o e=>?_,fun ζ=>rfl,rfl,Nat.le_refl _⟩,chg_same hs (let ⟨o,e,_⟩:=hn; ⟨o,e⟩) (Nat.le_refl _)⟩
 ·rcases lookup_set hz with ⟨rfl,rfl⟩ | ⟨hne,hz⟩
  ·exact .inr ⟨.inl hx,a,y,ha,hn,hy.mono (up _ rfl) (by exact Nat.le_refl _)⟩
  ·rcases hv z u hz with ⟨hk,y',hm',hr⟩ | ⟨hk,b,y',hb,hc,hr⟩
   ·exact .inl ⟨hk,y',hm',hr.mono (up _ rfl) (by exact Nat.le_refl _)⟩
   ·exact .inr ⟨hk,b,y',hb,hc.sameBut hs (fun q=>hne (name_of_addr r.apart (mem_of_lookup hb) (q ▸ hmem))),hr.mono (up _ rfl) (by exact Nat.le_refl _)⟩
 ·by_cases q : p.2 = a
  ·exact ⟨_,q ▸ hn⟩
  ·obtain ⟨u,hu⟩:=(r.cells p hp).2; exact ⟨u,hu.sameBut hs q⟩
 ·refine (r.mu p hp).mono (up _ rfl) (by exact Nat.le_refl _) fun o e=>(hs.2 _ fun q=>?_).trans e
  exact r.disj _ (.tail _ (List.mem_map_of_mem hp)) (q ▸ hout)
 ·by_cases q : b = a
  ·obtain ⟨o,e,_⟩:=hn; exact ⟨o,q ▸ e⟩
  ·obtain ⟨o,e⟩:=r.live b hb; exact ⟨o,(hs.2 b q).trans e⟩
 ·exact (hs.2 b fun q=>hb (q ▸ memR _ (mem_ownC hmem hx))).trans e
 ·by_cases q : b = a
  ·obtain ⟨o,e,_⟩:=hn; exact ⟨o,q ▸ e⟩
  ·exact ⟨o,(hs.2 b q).trans e⟩
theorem ASGW.cell {wl:List Addr} {x:Str} {p:Pos} {v:V} {a:Addr} (hx:c.env.kindOf x = some .cell) (ha:c.env.cells.lookup x = some a) (hl:a ∈ wl) : ASGW c k σ wl (.Name x p) v (σ.set x v):=fun A s y f r hy=>
 wpAny_assign_Name (WPmono (storeCell r hy hx ha) fun ζ s' q=>⟨q.1,q.2.1,q.2.2.sub fun b hb=>by rw [mem1 hb]; exact hl⟩)
noncomputable abbrev wl3 (own:Option Str) (C D K:Addr) : List Addr:=C :: D :: (ocs own K).map (·.2)
structure CompEnd (c:Cx) (σ:St) (s:Shared) (D C:Addr) (s':Shared) (m:Str → Option Value) (mu:List (Addr × MO)) (out:List Addr) : Prop where
 mr : ∀ p ∈ mu,MR c.w c.S0 ((C :: adr mu) ++ out) s' p.1 p.2
 ms : ∀ b,b = c.env.locals ∨ b ∈ c.out → b ∈ out
 nd : (C :: adr mu).Nodup
 new : ∀ b ∈ adr mu,b ∈ adr σ.mu ∨ NewC s s' b
 r : R (c.wo ([C] ++ c.out)) σ s'
 kp : Kp s s'
 ns : s'.heap.Ns C m
 nC : NewC s s' C
theorem compG {elt target iter:Expr} {ifs:List Expr} {rest:List Comprehension} {scope:Scope} {pos p:Pos} {own:Option Str} {cl:List (Str × Addr)} {cap:List (Str × V)} {vs:List V} {body:Addr → Env → Sem Unit} {I:Addr → Nat → St → Prop} {A:Around} {s:Shared} {RR:Value → Addr → Result → Shared → Prop}
  (hc:Cap3 c σ scope own cl cap) (hsrc:SRC c k σ iter target vs)
  (heq:∀ (J D:Addr) (env:Env),compTurn (.ListComp elt (⟨target,iter,ifs,0⟩ :: rest) scope pos) 0 (.ref J) (.ref D) env = cturn (.ListComp elt (⟨target,iter,ifs,0⟩ :: rest) scope pos) 0 p target (.ref J) (.ref D) env ifs (body D env))
  (h0:∀ D,I D 0 ⟨cap,(D,.list []) :: σ.mu⟩)
  (turn:∀ C D K,C ≠ D → D ∉ adr σ.mu → (∀ q ∈ cl,q.2 ≠ K) → ∀ i v σ₁,vs[i]? = some v → I D i σ₁ → ∀ out,TurnG (cx3 c scope (ocs own K ++ cl) C out) k (wl3 own C D K) target ifs (body D (compEnvC scope (ocs own K ++ cl) C c.env)) v (I D (i + 1)) σ₁)
  (ft:Fit k A) (r:R c σ s)
  (hRR:∀ D C s' m σ' out,I D vs.length σ' → CompEnd c σ s D C s' m σ'.mu out → RR (.ref D) C (.ok .next) s') :
  WP c.w A (eval iter c.env) (fun x s₁=>WP c.w A (pyIter x) (fun it s₂=>WP c.w A (newList []) (fun acc s₃=>WP c.w A (newFunctionEnv scope c.env.globals cl [] c.env.qual Option.none .none (some c.env)) (fun cenv s₄=>
   codeAny (model P0 c.w) A (.compStart (.ListComp elt (⟨target,iter,ifs,0⟩ :: rest) scope pos) 0 it acc { cenv with scope:=relabel scope c.env }) (RR acc cenv.locals) s₄) s₃) s₂) s₁) s:=by
 refine WPmono (hsrc A s ft r) fun x s₁ h=>?_
 obtain ⟨k₁,h⟩:=h
 refine WPmono h fun it s₂ h=>?_
 obtain ⟨k₂,J,wr,St,rfl,W,hst,hw⟩:=h
 have k12:=ktrans k₁ k₂
 refine wpAny_newObj_type (wp_newEnv3 hc ?_)
 dsimp only
 have hD0 : (s₂.heap.push { cls:=.type "list",dict:=Option.none,data:=.seq ([] : List Value).toArray }).get? s₂.heap.objs.size = some { cls:=.type "list",data:=.seq #[] 0 }:=Heap.get?_push_size _ rfl
 have old0 : ∀ b o,s₂.heap.get? b = some o → (s₂.heap.push { cls:=.type "list",dict:=Option.none,data:=.seq ([] : List Value).toArray }).get? b = some o:=fun b o e=>Heap.get?_push_of_some _ e
 have hsz1 : (s₂.heap.push { cls:=.type "list",dict:=Option.none,data:=.seq ([] : List Value).toArray }).objs.size = s₂.heap.objs.size + 1:=Heap.size_push ..
 generalize s₂.heap.push { cls:=.type "list",dict:=Option.none,data:=.seq ([] : List Value).toArray } = H1 at *
 have hns1 : (H1.push { cls:=.type "dict",data:=.dict #[] }).Ns H1.objs.size fun ζ=>Option.none:=Heap.Ns.new H1 (.type "dict")
 have old1 : ∀ b o,H1.get? b = some o → (H1.push { cls:=.type "dict",data:=.dict #[] }).get? b = some o:=fun b o e=>Heap.get?_push_of_some _ e
 have hsz2 : (H1.push { cls:=.type "dict",data:=.dict #[] }).objs.size = H1.objs.size + 1:=Heap.size_push ..
 generalize H1.push { cls:=.type "dict",data:=.dict #[] } = H2 at *
 have hcell:=pushO_cell (own:=own) (H:=H2)
 have old2 : ∀ b o,H2.get? b = some o → (pushO own H2).get? b = some o:=fun b o e=>pushO_keeps e
 have hns:=hns1.keeps old2
 rw [hsz2] at hcell
 generalize hH3 : pushO own H2 = H3 at *
 generalize hC : H1.objs.size = C at *
 generalize hD : s₂.heap.objs.size = D at *
 have hCD : C ≠ D:=by rw [hsz1]; exact Nat.succ_ne_self _
 have old : ∀ b o,s₂.heap.get? b = some o → H3.get? b = some o:=fun b o e=>old2 b o (old1 b o (old0 b o e))
 have kk : Kp s { s₂ with heap:=H3 }:=ktrans k12 ⟨⟨H3,_,rfl,old⟩,Nat.le_refl _⟩
 have g₂:=r.glob.keeps k12
 have hDC : D < C:=by rw [hsz1]; exact Nat.lt_succ_self _
 have nD : NewC s { s₂ with heap:=H3 } D:=new_of g₂ k12 (by rw [hD]; exact Nat.le_refl _) ⟨_,old2 _ _ (old1 _ _ hD0)⟩
 have nC : NewC s { s₂ with heap:=H3 } C:=new_of g₂ k12 (by rw [hD,hsz1]; exact Nat.le_succ _) (let ⟨o,_,_,e,_⟩:=hns; ⟨o,e⟩)
 have nK : ∀ q ∈ ocs own (C + 1),NewC s { s₂ with heap:=H3 } q.2:=fun q hq=>new_of g₂ k12 (by rw [hD]; exact Nat.le_trans (Nat.le_of_lt hDC) (Nat.le_trans (Nat.le_succ C) (hcell q hq).2)) (let ⟨o,e,_⟩:=(hcell q hq).1; ⟨o,e⟩)
 have nW : ∀ b ∈ wr,NewC s { s₂ with heap:=H3 } b:=fun b hb=>⟨(hw b hb).none,(hw b hb).hi,let ⟨o,e⟩:=(hw b hb).there; ⟨o,old b o e⟩⟩
 have hwlt : ∀ b ∈ wr,b < D:=fun b hb=>by obtain ⟨o,e⟩:=(hw b hb).there; rw [← hD]; exact Heap.lt_size e
 have hltC : ∀ {b:Addr} {o:Obj},s.heap.get? b = some o → b < D:=fun e=>by rw [← hD]; exact Heap.lt_size (kget k12 e)
 have hKD : ∀ q ∈ ocs own (C + 1),¬ q.2 < D:=fun q hq h=>absurd (Nat.lt_of_le_of_lt (Nat.le_trans (Nat.le_succ C) (hcell q hq).2) h) (Nat.not_lt.mpr (Nat.le_of_lt hDC))
 have hout : ∀ b ∈ wr ++ (c.env.locals :: ((ocs own (C + 1)).map (·.2) ++ c.out)),NewC s { s₂ with heap:=H3 } b ∨ b = c.env.locals ∨ b ∈ c.out:=fun b hb=>by
  rcases mema hb with hb | hb
  ·exact .inl (nW b hb)
  ·rcases memc hb with hb | hb
   ·exact .inr (.inl hb)
   ·rcases mema hb with hb | hb
    ·obtain ⟨q,hq,rfl⟩:=memm hb
     exact .inl (nK q hq)
    ·exact .inr (.inr hb)
 have hnot : ∀ a,D ≤ a → a ≤ C → a ∉ wr ++ (c.env.locals :: ((ocs own (C + 1)).map (·.2) ++ c.out)):=fun a h1 h2 hb=>by
  rcases mema hb with hb | hb
  ·exact absurd (hwlt a hb) (Nat.not_lt.mpr h1)
  ·rcases memc hb with hb | hb
   ·obtain ⟨o,e⟩:=r.liveMs c.env.locals (memL _ (.head _))
    exact absurd (hltC (hb ▸ e)) (Nat.not_lt.mpr h1)
   ·rcases mema hb with hb | hb
    ·obtain ⟨q,hq,rfl⟩:=memm hb
     exact absurd (Nat.le_trans (hcell q hq).2 h2) (Nat.not_succ_le_self _)
    ·obtain ⟨o,e⟩:=r.live a hb
     exact absurd (hltC e) (Nat.not_lt.mpr h1)
 have r₄:=r.comp3 (K:=C + 1) hc kk hns nC nD hCD (old2 _ _ (old1 _ _ hD0)) (fun q hq=>⟨nK q hq,(hcell q hq).1,memR _ (.tail _ (memL _ (List.mem_map_of_mem hq)))⟩) hout (fun b hb=>memR _ (.tail _ (memR _ hb))) (hnot C (Nat.le_of_lt hDC) (Nat.le_refl _)) (hnot D (Nat.le_refl _) (Nat.le_of_lt hDC))
 have hws : ∀ b ∈ wr,s.heap.get? b = Option.none:=fun b hb=>(nW b hb).none
 have hwL : ∀ b ∈ wr,Lo c.S0 b:=fun b hb=>⟨Option.eq_none_iff_forall_ne_some.mpr fun o e=>(by obtain ⟨o',e'⟩:=r.glob.old.there b o e; exact ((nW b hb).ne e').elim),(nW b hb).hi⟩
 have hwC : ∀ q ∈ ocs own (C + 1) ++ cl,q.2 ∉ wr:=fun q hq hb=>by
  rcases mema hq with hq | hq
  ·exact hKD q hq (hwlt _ hb)
  ·obtain ⟨u,o,e,_⟩:=(r.cells q (hc.clok q hq).1).2
   exact (nW _ hb).ne e
 have hst4 : St 0 (msOf (cx3 c scope (ocs own (C + 1) ++ cl) C (wr ++ (c.env.locals :: ((ocs own (C + 1)).map (·.2) ++ c.out)))) ⟨cap,(D,.list []) :: σ.mu⟩) { s₂ with heap:=H3 }:=by
  refine W.frame _ _ _ _ _ hst (fun b o hb ζ e=>⟨fun q=>?_,old b o e⟩) (Nat.le_refl _) fun b ζ o e=>old b o e
  have hlt : b < D:=by rw [← hD]; exact Heap.lt_size e
  rcases mema q with q | q
  ·rcases memc q with q | q
   ·have q' : b = C:=q
    rw [q'] at hlt; exact absurd (Nat.lt_trans hlt hDC) (Nat.lt_irrefl _)
   ·rcases memc q with q | q
    ·have q' : b = D:=q
     rw [q'] at hlt; exact absurd hlt (Nat.lt_irrefl _)
    ·exact hb (memR _ (memL _ (.tail _ q)))
  ·rcases mema q with q | q
   ·exact hb (memL _ q)
   ·rcases memc q with q | q
    ·exact hb (memR _ (memL _ (q ▸ .head _)))
    ·rcases mema q with q | q
     ·obtain ⟨q',hq',rfl⟩:=memm q
      exact hKD q' hq' hlt
     ·exact hb (memR _ (memR _ q))
 have loop:=cloop_gen (c:=cx3 c scope (ocs own (C + 1) ++ cl) C (wr ++ (c.env.locals :: ((ocs own (C + 1)).map (·.2) ++ c.out)))) (wl:=wl3 own C D (C + 1)) (s:=s) (A:=A) (acc:=.ref D) (RR:=RR (.ref D) C) (heq J D _) ft r₄ kk hws hwL hwC (fun b hb=>memL _ hb) W hst4 (h0 D) (fun i v σ₁ hv hI=>turn C D (C + 1) hCD (fun q=>by obtain ⟨o,e⟩:=r.liveMs D (memL _ (.tail _ q)); exact nD.ne e) (fun q hq e=>by
  obtain ⟨u,o,e',_⟩:=(r.cells q (hc.clok q hq).1).2
  exact absurd (Nat.lt_trans (hltC e') hDC) (by rw [e]; exact Nat.not_lt.mpr (Nat.le_succ C))) i v σ₁ hv hI _) (fun σ' s₃ s' hI r₅ st₅ cg₅ ch=>?_)
 ·exact codeAny_compStart_list loop (wpAny_mono (W.self 0 _ _ hst4 r₄.gl) (fun x s' h=>by obtain ⟨h1,h2⟩:=h; rw [h1,h2]; exact loop) fun ζ ζ h=>h.elim)
 ·obtain ⟨m,hns',_⟩:=r₅.vars
  have hCw : C ∉ wr:=fun q=>absurd (hwlt C q) (Nat.not_lt.mpr (Nat.le_of_lt hDC))
  have hDw : D ∉ wr:=fun q=>absurd (hwlt D q) (Nat.lt_irrefl _)
  have cg:=cg₅.new0 ch hws
  have kp : Kp s s':=by
   obtain ⟨h₁,tk,e⟩:=cg.same
   refine ⟨⟨s'.heap,s'.toks,by rw [e],fun b o e1=>?_⟩,cg.toks⟩
   have hb : b < D:=hltC e1
   refine cg.kept b o (fun q=>?_) e1
   rcases memc q with q | q
   ·rw [q] at hb; exact absurd (Nat.lt_trans hb hDC) (Nat.lt_irrefl _)
   ·rcases memc q with q | q
    ·rw [q] at hb; exact absurd hb (Nat.lt_irrefl _)
    ·obtain ⟨q',hq',rfl⟩:=memm q
     exact hKD q' hq' hb
  have hns₅ : s'.heap.Ns C m:=hns'.at' fun o e=>ch.kept _ o hCw e
  have nC' : NewC s s' C:=⟨nC.none,nC.hi,let ⟨o,_,_,e,_⟩:=hns₅; ⟨o,e⟩⟩
  have kw : ∀ a ∈ Mine.Internal.own (cx3 c scope (ocs own (C + 1) ++ cl) C (wr ++ (c.env.locals :: ((ocs own (C + 1)).map (·.2) ++ c.out)))) σ',∀ o,s₃.heap.get? a = some o → s'.heap.get? a = some o:=fun a ha o e=>ch.kept a o (fun q=>r₅.disj a ha (memL _ q)) e
  refine hRR D C s' m σ' _ hI ⟨fun p hp=>(r₅.mu p hp).mono (fun b o hb ζ e=>⟨hb,ch.kept b o (fun q=>hb (memR _ (memL _ q))) e⟩) ch.toks fun o e=>kw _ (.tail _ (List.mem_map_of_mem hp)) o e,fun b hb=>?_,r₅.nd,fun b hb=>?_,r.wide kp fun b hb=>by rw [mem1 hb]; exact nC',kp,hns₅,nC'⟩
  ·rcases hb with rfl | hb
   ·exact memR _ (.head _)
   ·exact memR _ (.tail _ (memR _ hb))
  ·rcases st₅.fresh b hb with h | h
   ·rcases memc h with rfl | h
    ·obtain ⟨p,hp,e⟩:=memm hb
     obtain ⟨o,g⟩:=(r₅.mu p hp).live
     rw [e] at g
     exact .inr ⟨nD.none,nD.hi,o,kw _ (.tail _ hb) o g⟩
    ·exact .inl h
   ·obtain ⟨p,hp,e⟩:=memm hb
    obtain ⟨o,g⟩:=(r₅.mu p hp).live
    rw [e] at g
    exact .inr ⟨h,(r₅.lo b (.tail _ hb)).2,o,kw _ (.tail _ hb) o g⟩
theorem CompEnd.assign {s s':Shared} {D C:Addr} {m:Str → Option Value} {mu:List (Addr × MO)} {out:List Addr} {σ₁:St} {v:V} {y:Str} {yp:Pos} {A:Around} (E:CompEnd c σ s D C s' m mu out) (r:R c σ s) (r':R (c.wo ([C] ++ c.out)) σ₁ s') (hv:VR c.S0 (msOf (c.wo ([C] ++ c.out)) σ₁) s' v (.ref D)) (st₀:Step c σ s σ₁ s') (hy:Stores c y) :
  WP c.w A (PySem.assign (.Name y yp) c.env (.ref D)) (fun ζ s''=>∃ m,s''.heap.Ns C m ∧ ∀ h',Heap.SameBut C s''.heap h' → R c (σ₁.set y v) { s'' with heap:=h' } ∧ Step c σ s (σ₁.set y v) { s'' with heap:=h' }) s':=by
 have hC:=E.nC
 refine wpAny_mono (wpAny_assign_Name (storeVar (c:=(c.wo ([C] ++ c.out))) r' hv hy)) (fun ζ s'' w0=>?_) fun ζ ζ e=>e.elim
 obtain ⟨r'',st⟩:=w0
 have hlo : Lo c.S0 C:=r'.glob.old |> fun old=>⟨Option.eq_none_iff_forall_ne_some.mpr fun o e=>(by obtain ⟨o',e'⟩:=r.glob.old.there _ _ e; exact hC.ne e'),hC.hi⟩
 have hCk : s''.heap.Ns C m:=E.ns.at' fun o e=>st.kept _ o (fun q=>?_) (hlo.gk _ o) e
 ·refine ⟨m,hCk,fun h' hs'=>⟨let_go r r'' (fun b hb=>?_) hs',?_⟩⟩
  ·rw [mem1 hb]; obtain ⟨o,_,_,e,_⟩:=hCk; exact ⟨hC.none,hC.hi,o,e⟩
  ·exact Step.chg0 (wr:=[C]) (st₀.trans ⟨st.kept,st.fresh,st.there,st.gens,st.drawn,st.toks⟩) (chg0_same hs') fun b hb=>by rw [mem1 hb]; exact hC.none
 ·rcases mema q with q | q
  ·exact r'.disj C q (.head _)
  ·obtain ⟨p,hp,rfl,_⟩:=of_mem_ownC q
   obtain ⟨u,o,e,_⟩:=(r.cells p hp).2; exact hC.ne e
theorem CompEnd.vr {s s':Shared} {D C:Addr} {m:Str → Option Value} {us:List V} {out:List Addr} (E:CompEnd c σ s D C s' m ((D,.list us) :: σ.mu) out) (r:R c σ s) : VR c.S0 (msOf (c.wo ([C] ++ c.out)) σ) s' (.lst us) (.ref D):=by
 obtain ⟨xs,n,hl,hr⟩:=E.mr _ (.head _)
 obtain ⟨h1,h2⟩:=ndc E.nd
 have hDn:=(ndc h2).1
 have nD:=(E.new D (.head _)).resolve_left hDn
 refine .lst hl (fun q=>?_) (hr.mono (fun b o hb ζ e=>⟨fun q=>hb ?_,e⟩) (Nat.le_refl _))
 ·rcases mema q with q | q
  ·obtain ⟨o,e⟩:=r.liveMs D (memL _ q); exact nD.ne e
  ·rcases memc q with q | q
   ·exact h1 (q ▸ .head _)
   ·obtain ⟨o,e⟩:=r.live D q; exact nD.ne e
 ·rcases mema q with q | q
  ·rcases memc q with q | q
   ·exact memR _ (E.ms b (.inl q))
   ·exact memL _ (.tail _ (.tail _ q))
  ·rcases memc q with q | q
   ·exact memL _ (q ▸ .head _)
   ·exact memR _ (E.ms b (.inr q))
section
variable {elt target iter:Expr} {ifs:List Expr} {rest:List Comprehension} {scope:Scope} {pos p:Pos} {own:Option Str} {cl:List (Str × Addr)} {cap:List (Str × V)} {vs us:List V} {body:Addr → Env → Sem Unit} {I:Addr → Nat → St → Prop}
theorem EV.comp3 (hc:Cap3 c σ scope own cl cap) (hsrc:SRC c k σ iter target vs)
  (heq:∀ (J D:Addr) (env:Env),compTurn (.ListComp elt (⟨target,iter,ifs,0⟩ :: rest) scope pos) 0 (.ref J) (.ref D) env = cturn (.ListComp elt (⟨target,iter,ifs,0⟩ :: rest) scope pos) 0 p target (.ref J) (.ref D) env ifs (body D env))
  (h0:∀ D,I D 0 ⟨cap,(D,.list []) :: σ.mu⟩)
  (turn:∀ C D K,C ≠ D → D ∉ adr σ.mu → (∀ q ∈ cl,q.2 ≠ K) → ∀ i v σ₁,vs[i]? = some v → I D i σ₁ → ∀ out,TurnG (cx3 c scope (ocs own K ++ cl) C out) k (wl3 own C D K) target ifs (body D (compEnvC scope (ocs own K ++ cl) C c.env)) v (I D (i + 1)) σ₁)
  (hend:∀ D σ',I D vs.length σ' → σ'.mu = (D,.list us) :: σ.mu)
  (hs:∀ x,foldedSetIterable iter c.env x = pure x) : EV c k σ (.ListComp elt (⟨target,iter,ifs,0⟩ :: rest) scope pos) (.lst us):=by
 intro A s ft r
 rw [eval_ListComp]
 refine wpAny_comprehension_free (use:=Option.none) rfl hs hc.clos hc.kind hc.names (compG hc hsrc heq h0 turn ft r ?_)
 intro D C s' m σ' out hI E
 rw [hend D σ' hI] at E
 exact ⟨m,E.ns,fun h' hs'=>⟨vr_go (E.vr r) hs',(chg0_same hs').kp (fun b hb=>(mem1 hb) ▸ E.nC.none) E.kp⟩⟩
theorem EX.assignComp3 {spos yp:Pos} {y:Str} {Q:AF → St → Prop}
  (hsw:swapsWith (.ListComp elt (⟨target,iter,ifs,0⟩ :: rest) scope pos) (some (.Name y yp)) spos.line c.env = pure true)
  (hc:Cap3 c σ scope own cl cap) (hsrc:SRC c k σ iter target vs)
  (heq:∀ (J D:Addr) (env:Env),compTurn (.ListComp elt (⟨target,iter,ifs,0⟩ :: rest) scope pos) 0 (.ref J) (.ref D) env = cturn (.ListComp elt (⟨target,iter,ifs,0⟩ :: rest) scope pos) 0 p target (.ref J) (.ref D) env ifs (body D env))
  (h0:∀ D,I D 0 ⟨cap,(D,.list []) :: σ.mu⟩)
  (turn:∀ C D K,C ≠ D → D ∉ adr σ.mu → (∀ q ∈ cl,q.2 ≠ K) → ∀ i v σ₁,vs[i]? = some v → I D i σ₁ → ∀ out,TurnG (cx3 c scope (ocs own K ++ cl) C out) k (wl3 own C D K) target ifs (body D (compEnvC scope (ocs own K ++ cl) C c.env)) v (I D (i + 1)) σ₁)
  (hend:∀ D σ',I D vs.length σ' → σ'.mu = (D,.list us) :: σ.mu)
  (hy:Stores c y) (hQ:Q .next (σ.set y (.lst us)))
  (hs:∀ x,foldedSetIterable iter c.env x = pure x) : EX c k σ (.Assign [.Name y yp] (.ListComp elt (⟨target,iter,ifs,0⟩ :: rest) scope pos) spos) Q:=by
 intro A s ft r
 rw [exec_Assign_Name_used _ _ _ _ hsw]
 refine wpAny_bind (wpAny_standAt (wpAny_bind ?_))
 show WP c.w A (do let _ ← comprehension (.ListComp elt (⟨target,iter,ifs,0⟩ :: rest) scope pos) scope c.env _ (newList []) false (eval iter c.env) (some (PySem.assign (.Name y yp) c.env))) _ s
 refine wpAny_bind (WPmono (wpAny_comprehension_free (use:=some (PySem.assign (.Name y yp) c.env)) (Q:=fun ζ s'=>R c (σ.set y (.lst us)) s' ∧ Step c σ s (σ.set y (.lst us)) s') rfl hs hc.clos hc.kind hc.names (compG hc hsrc heq h0 turn ft r ?_)) fun ζ s' h=>wpAny_pure (wpAny_pure ⟨.next,_,hQ,h.1,trivial,h.2⟩))
 intro D C s' m σ' out hI E
 rw [hend D σ' hI] at E
 exact E.assign r (E.r) (E.vr r) (.of_keeps E.kp) hy
end
inductive TurnP (c:Cx) (k:Nat) (σ:St) (scope:Scope) (cl:List (Str × Addr)) (cap:List (Str × V)) (target:Expr) (ifs:List Expr) (elt:Expr) (f:V → Option V) (u:V) (C:Addr) : Prop
 | mk (l':List (Str × V)) (hs:Sub cap l') (ha:∀ out mu,ASGL (cx3 c scope cl C out) k ⟨cap,mu⟩ target u ⟨l',mu⟩) (ht:∀ out,EVT (cx3 c scope cl C out) k ⟨l',σ.mu⟩ ifs (f u).isSome) (he:∀ v,f u = some v → ∀ out,EV (cx3 c scope cl C out) k ⟨l',σ.mu⟩ elt v) : TurnP c k σ scope cl cap target ifs elt f u C
theorem ASGW.of_L {wl:List Addr} {t:Expr} {v:V} {cap l l':List (Str × V)} {mu:List (Addr × MO)} (h:ASGL c k ⟨cap,mu⟩ t v ⟨l',mu⟩) (hs:Sub cap l) (hl:c.env.locals ∈ wl) : ASGW c k ⟨l,mu⟩ wl t v ⟨l',mu⟩:=fun A s x f r hx=>WPmono (h A s x f (r.weak rfl hs) hx) fun ζ s' q=>by
 obtain ⟨q1,q2⟩:=q
 obtain ⟨h',tk,e⟩:=q2.same
 exact ⟨q1,⟨fun b o hb ζ e=>q2.kept b o (fun m=>hb (memL _ (mem1 m ▸ .head _))) e,fun a ha=>.inl ha,q2.there,fun ζ=>by rw [e],by rw [e],q2.toks⟩,q2.sub fun b hb=>mem1 hb ▸ hl⟩
theorem ms_drop {l:List (Str × V)} {mu:List (Addr × MO)} {D:Addr} {o:MO} {b:Addr} : b ∈ msOf (c.wo (D :: c.out)) ⟨l,mu⟩ ↔ b ∈ msOf c ⟨l,(D,o) :: mu⟩:=by
 show b ∈ (_ :: adr mu) ++ (D :: c.out) ↔ b ∈ (_ :: D :: adr mu) ++ c.out
 rw [List.mem_append,List.mem_append,List.mem_cons,List.mem_cons,List.mem_cons,List.mem_cons,or_assoc,or_assoc,or_assoc]
 exact or_congr_right or_left_comm
theorem R.drop {l:List (Str × V)} {mu:List (Addr × MO)} {D:Addr} {o:MO} {s:Shared} (r:R c ⟨l,(D,o) :: mu⟩ s) : R (c.wo (D :: c.out)) ⟨l,mu⟩ s:=by
 have up : Up (msOf c ⟨l,(D,o) :: mu⟩) (msOf (c.wo (D :: c.out)) ⟨l,mu⟩) s s:=fun b o hb ζ e=>⟨fun q=>hb (ms_drop.mp q),e⟩
 obtain ⟨m,hm,hv⟩:=r.vars
 have nd:=ndc r.nd
 have nd2:=ndc nd.2
 have hsub : ∀ a ∈ Mine.Internal.own c ⟨l,mu⟩,a ∈ Mine.Internal.own c ⟨l,(D,o) :: mu⟩:=fun a ha=>(memc ha).elim (fun e=>e ▸ .head _) fun h=>.tail _ (.tail _ h)
 refine ⟨r.glob,r.eok,⟨m,hm,fun x v e=>(hv x v e).keeps (fun ζ ζ e=>e) fun y hy=>hy.mono up (Nat.le_refl _)⟩,fun p hp=>⟨(r.cells p hp).1.imp (.tail _) id,(r.cells p hp).2⟩,r.apart,fun p hp=>(r.mu p (.tail _ hp)).mono up (Nat.le_refl _) fun ζ e=>e,ndk ⟨fun q=>nd.1 (.tail _ q),nd2.2⟩,fun a ha q=>?_,fun a ha=>?_,fun a ha=>r.lo a (hsub a ha),r.clo⟩
 ·rcases memc q with q | q
  ·rcases memc ha with h | h
   ·exact nd.1 (h ▸ q ▸ .head _)
   ·exact nd2.1 (q ▸ h)
  ·exact r.disj a (hsub a ha) q
 ·rcases memc ha with rfl | ha
  ·exact (r.mu _ (.head _)).live
  ·exact r.live a ha
theorem EV.drop {l:List (Str × V)} {mu:List (Addr × MO)} {D:Addr} {o:MO} {e:Expr} {v:V} (h:EV (c.wo (D :: c.out)) k ⟨l,mu⟩ e v) : EV c k ⟨l,(D,o) :: mu⟩ e v:=fun A s f r=>WPmono (h A s f r.drop) fun x s' q=>⟨q.1.mono (fun b o hb ζ e=>⟨fun m=>hb (ms_drop.mpr m),e⟩) (Nat.le_refl _),q.2⟩
theorem EVT.drop {l:List (Str × V)} {mu:List (Addr × MO)} {D:Addr} {o:MO} {ifs:List Expr} {b:Bool} (h:EVT (c.wo (D :: c.out)) k ⟨l,mu⟩ ifs b) : EVT c k ⟨l,(D,o) :: mu⟩ ifs b:=fun A s f r=>h A s f r.drop
section
variable {elt target iter:Expr} {ifs:List Expr} {scope:Scope} {pos:Pos} {cl:List (Str × Addr)} {cap:List (Str × V)} {vs:List V} {f:V → Option V}
noncomputable def turnI (σ:St) (cap:List (Str × V)) (vs:List V) (f:V → Option V) (D:Addr) (i:Nat) (σ':St) : Prop:=σ'.mu = (D,.list ((vs.take i).filterMap f)) :: σ.mu ∧ Sub cap σ'.loc
theorem turnP {C D K:Addr} (hC:C ≠ D) (hDn:D ∉ adr σ.mu) (hsz:vs.length ≤ sizeLine) (ht:∀ u ∈ vs,∀ C,TurnP c k σ scope cl cap target ifs elt f u C) (i:Nat) (v:V) (σ₁:St) (hv:vs[i]? = some v) (hI:turnI σ cap vs f D i σ₁) (out:List Addr) :
  TurnG (cx3 c scope (ocs Option.none K ++ cl) C out) k (wl3 Option.none C D K) target ifs (do let _ ← call (.builtin "list.append") [.ref D,← eval elt (compEnvC scope (ocs Option.none K ++ cl) C c.env)]) v (turnI σ cap vs f D (i + 1)) σ₁:=by
 obtain ⟨l,mu⟩:=σ₁
 obtain ⟨hmu,hsub⟩:=hI
 obtain rfl : mu = _:=hmu
 obtain ⟨l',hl',ha,htest,helt⟩:=ht v (List.mem_of_getElem? hv) C
 refine ⟨⟨l',_⟩,(f v).isSome,.of_L (ha out _) hsub (.head _),.drop (htest (D :: out)),fun hb=>?_,fun hb=>?_⟩
 ·obtain ⟨z,hz⟩:=Option.isSome_iff_exists.mp hb
  refine ST.emit (.drop (helt z hz (D :: out))) lk_head ?_ (.tail _ (.head _)) ⟨?_,hl'⟩
  ·exact Nat.le_trans (List.length_filterMap_le f _) (Nat.le_trans (by rw [List.length_take]; exact Nat.min_le_right _ _) hsz)
  ·show updM ((D,_) :: σ.mu) D _ = _
   rw [upd_cons hDn,take_succ_fm hv,hz]; rfl
 ·refine ⟨?_,hl'⟩
  rw [take_succ_fm hv,show f v = Option.none from Option.not_isSome_iff_eq_none.mp fun q=>by rw [hb] at q; cases q]
  show (D,_) :: _ = _
  rw [Option.toList_none,List.append_nil]
theorem EV.comp (hc:Cap3 c σ scope Option.none cl cap) (hsrc:SRC c k σ iter target vs) (ht:∀ u ∈ vs,∀ C,TurnP c k σ scope cl cap target ifs elt f u C) (hsz:vs.length ≤ sizeLine)
  (hs:∀ x,foldedSetIterable iter c.env x = pure x:=by intro _; rfl) : EV c k σ (.ListComp elt [⟨target,iter,ifs,0⟩] scope pos) (.lst (vs.filterMap f)):=
 EV.comp3 (p:=iter.pos) (body:=fun D env=>(do let _ ← call (.builtin "list.append") [.ref D,← eval elt env])) (I:=turnI σ cap vs f) hc hsrc (fun J D env=>by rw [compTurn_list]; rfl) (fun D=>⟨rfl,Sub.refl⟩) (fun C D K h1 h2 ζ=>turnP h1 h2 hsz ht) (fun D σ' h=>by rw [h.1,List.take_length]) hs
theorem EX.assignComp {spos yp:Pos} {y:Str} {Q:AF → St → Prop}
  (hsw:swapsWith (.ListComp elt [⟨target,iter,ifs,0⟩] scope pos) (some (.Name y yp)) spos.line c.env = pure true)
  (hc:Cap3 c σ scope Option.none cl cap) (hsrc:SRC c k σ iter target vs) (ht:∀ u ∈ vs,∀ C,TurnP c k σ scope cl cap target ifs elt f u C) (hsz:vs.length ≤ sizeLine) (hy:Stores c y) (hQ:Q .next (σ.set y (.lst (vs.filterMap f))))
  (hs:∀ x,foldedSetIterable iter c.env x = pure x) : EX c k σ (.Assign [.Name y yp] (.ListComp elt [⟨target,iter,ifs,0⟩] scope pos) spos) Q:=
 EX.assignComp3 (p:=iter.pos) (body:=fun D env=>(do let _ ← call (.builtin "list.append") [.ref D,← eval elt env])) (I:=turnI σ cap vs f) hsw hc hsrc (fun J D env=>by rw [compTurn_list]; rfl) (fun D=>⟨rfl,Sub.refl⟩) (fun C D K h1 h2 ζ=>turnP h1 h2 hsz ht) (fun D σ' h=>by rw [h.1,List.take_length]) hy hQ hs
end
noncomputable def capCl (c:Cx) (ns:List Str) : List (Str × Addr):=ns.map fun x=>(x,(c.env.cells.lookup x).getD 0)
noncomputable def capChk (c:Cx) (scope:Scope) (ns:List Str) : Bool:=
 scope.names.all (fun y=>y.2 != .cell) && scope.names.all (fun y=>y.2 != .local || scope.names.lookup y.1 == some .local) && decide ns.Nodup &&
 ns.all fun x=>c.env.kindOf x == some .cell && (c.env.cells.lookup x).isSome && ((relabel scope c.env).names.lookup x == some .cell || (relabel scope c.env).names.lookup x == some .free)
theorem no_cells {names:List (Str × NameKind)} (h:names.all (fun y=>y.2 != .cell) = true) : (∀ n cl,cellsFrom n names cl = cl) ∧ ∀ H,pushCells H names = H:=by
 induction names with
 | nil=>exact ⟨fun ζ ζ=>rfl,fun ζ=>rfl⟩
 | cons p names ih=>
  rw [List.all_cons,Bool.and_eq_true] at h
  have e : (p.2 == NameKind.cell) = false:=Bool.not_eq_true' _ ▸ h.1
  obtain ⟨i1,i2⟩:=ih h.2
  exact ⟨fun n cl=>(if_neg (by rw [e]; exact Bool.false_ne_true)).trans (i1 n cl),fun H=>(if_neg (by rw [e]; exact Bool.false_ne_true)).trans (i2 H)⟩
theorem lookup_cl {g:Str → Addr} {ns:List Str} {x:Str} (h:x ∈ ns) : (ns.map fun x=>(x,g x)).lookup x = some (g x):=by
 induction ns with
 | nil=>cases h
 | cons y ns ih=>
  rw [List.map_cons,List.lookup_cons]
  cases e : x == y with
  | true=>rw [eq_of_beq e]
  | false=>exact ih ((memc h).resolve_left fun q=>by rw [q,beq_self_eq_true] at e; cases e)
theorem Cap3.of {scope:Scope} {cap:List (Str × V)} (ns:List Str) (hc:closureFor scope c.env = pure (capCl c ns)) (hk:scope.kind = .function) (h:capChk c scope ns = true) (hn:(cap.all fun p=>ns.any (· == p.1)) = true) (hs:Sub cap σ.loc) : Cap3 c σ scope Option.none (capCl c ns) cap:=by
 unfold capChk at h
 rw [Bool.and_eq_true,Bool.and_eq_true,Bool.and_eq_true] at h
 obtain ⟨⟨⟨h1,h2⟩,h3⟩,h4⟩:=h
 obtain ⟨n1,n2⟩:=no_cells h1
 have at_ : ∀ x ∈ ns,(c.env.kindOf x = some .cell ∧ ∃ a,c.env.cells.lookup x = some a) ∧ ((relabel scope c.env).names.lookup x = some .cell ∨ (relabel scope c.env).names.lookup x = some .free):=fun x hx=>by
  have q:=List.all_eq_true.mp h4 x hx
  rw [Bool.and_eq_true,Bool.and_eq_true,Bool.or_eq_true] at q
  exact ⟨⟨eq_of_beq q.1.1,Option.isSome_iff_exists.mp q.1.2⟩,q.2.imp eq_of_beq eq_of_beq⟩
 refine ⟨hc,fun n=>n1 n _,n2,hk,fun y hy e=>?_,fun p hp=>?_,?_,fun x v e=>?_⟩
 ·rcases Bool.or_eq_true _ _ ▸ List.all_eq_true.mp h2 y hy with q | q
  ·rw [e] at q; exact absurd q (by decide)
  ·exact eq_of_beq q
 ·obtain ⟨x,hx,rfl⟩:=memm hp
  obtain ⟨⟨q1,a,q2⟩,_⟩:=at_ x hx
  refine ⟨?_,q1⟩
  rw [q2]; exact mem_of_lookup q2
 ·have : (capCl c ns).map (·.1) = ns:=by unfold capCl; rw [List.map_map]; exact List.map_id ns
  rw [this]; exact of_decide_eq_true h3
 ·have hx : x ∈ ns:=by
   obtain ⟨y,hy,q⟩:=List.any_eq_true.mp (List.all_eq_true.mp hn _ (mem_of_lookup e))
   exact (show y = x from eq_of_beq q) ▸ hy
  obtain ⟨⟨q1,a,q2⟩,q3⟩:=at_ x hx
  refine ⟨hs x v e,q1,fun n=>?_,q3⟩
  show (capCl c ns).lookup x = _
  rw [capCl,lookup_cl hx,q2]; rfl
end
end Mine.Internal
end
section
namespace Mine.Internal
theorem Sub.set {l' l:List (Str × V)} {x:Str} {v:V} (h:Sub l' l) (hx:l'.lookup x = none) : Sub l' ((x,v) :: l):=fun y u e=>by
 have hne : y ≠ x:=fun q=>by rw [q,hx] at e; cases e
 rw [List.lookup_cons,beq_eq_false_iff_ne.mpr hne]
 exact h y u e
theorem Sub.set1 {l' l:List (Str × V)} {x:Str} {v:V} (h:Sub l' l) : Sub ((x,v) :: l') ((x,v) :: l):=fun y u e=>by
 rcases lookup_set e with ⟨rfl,rfl⟩ | ⟨hne,e⟩
 ·rw [List.lookup_cons,beq_self_eq_true]
 ·rw [List.lookup_cons,beq_eq_false_iff_ne.mpr hne]
  exact h y u e
theorem take_flat {α β:Type} {g:α → List β} {vs:List α} {i:Nat} {v:α} (h:vs[i]? = some v) : (vs.take (i + 1)).flatMap g = (vs.take i).flatMap g ++ g v:=by
 rw [List.take_add_one,h,List.flatMap_append]
 show _ ++ List.flatMap g [v] = _
 rw [List.flatMap_cons,List.flatMap_nil,List.append_nil]
theorem flat_le {α β:Type} {g:α → List β} (vs:List α) (n:Nat) : ((vs.take n).flatMap g).length ≤ (vs.flatMap g).length:=by
 conv=>rhs; rw [← List.take_append_drop n vs]
 rw [List.flatMap_append,List.length_append]
 exact Nat.le_add_right _ _
section
variable {w:World} {S0:Shared} {k:Nat} {c:Cx} {σ:St}
theorem EV.comp2 {elt iter1 iter2:Expr} {ifs:List Expr} {x y:Str} {xp yp:Pos} {scope:Scope} {pos:Pos} {cl:List (Str × Addr)} {cap:List (Str × V)} {vs:List V} {ws:V → List V} {f:V → V → Option V}
  (hc:Cap3 c σ scope Option.none cl cap) (hsrc:SRC c k σ iter1 (.Name x xp) vs)
  (kx:(relabel scope c.env).names.lookup x = some .local) (ky:(relabel scope c.env).names.lookup y = some .local) (hxy:x ≠ y) (hx:cap.lookup x = Option.none) (hy:cap.lookup y = Option.none)
  (inner:∀ u ∈ vs,∀ C out l mu,Sub ((x,u) :: cap) l → SRC (cx3 c scope cl C out) k ⟨l,mu⟩ iter2 (.Name y yp) (ws u))
  (test:∀ u ∈ vs,∀ v ∈ ws u,∀ C out l mu,Sub ((y,v) :: (x,u) :: cap) l → EVT (cx3 c scope cl C out) k ⟨l,mu⟩ ifs (f u v).isSome)
  (elts:∀ u ∈ vs,∀ v ∈ ws u,∀ z,f u v = some z → ∀ C out l mu,Sub ((y,v) :: (x,u) :: cap) l → EV (cx3 c scope cl C out) k ⟨l,mu⟩ elt z)
  (hsz:(vs.flatMap fun u=>(ws u).filterMap (f u)).length ≤ sizeLine)
  (hs2:∀ C x,foldedSetIterable iter2 (compEnvC scope cl C c.env) x = pure x)
  (hs:∀ x,foldedSetIterable iter1 c.env x = pure x) : EV c k σ (.ListComp elt [⟨.Name x xp,iter1,[],0⟩,⟨.Name y yp,iter2,ifs,0⟩] scope pos) (.lst (vs.flatMap fun u=>(ws u).filterMap (f u))):=by
 refine EV.comp3 (own:=Option.none) (p:=iter1.pos) (body:=fun D env=>(do
   let q ← eval iter2 env
   standAt iter2.pos
   let q ← foldedSetIterable iter2 env q
   let _ ← runOwn (.compStart (.ListComp elt [⟨.Name x xp,iter1,[],0⟩,⟨.Name y yp,iter2,ifs,0⟩] scope pos) 1 (← holding [q] (pyIter q)) (.ref D) env) env))
  (I:=fun D i σ'=>σ'.mu = (D,.list ((vs.take i).flatMap fun u=>(ws u).filterMap (f u))) :: σ.mu ∧ Sub cap σ'.loc) hc hsrc (fun J D env=>by unfold cturn; simp only [bind_assoc,pure_bind]; rfl) (fun D=>⟨by rfl,Sub.refl⟩) ?_ ?_ hs
 ·rintro C D K hCD hDn hK i v ⟨l,mu⟩ hv ⟨hmu,hsub⟩ out
  have hm:=List.mem_of_getElem? hv
  refine ⟨_,true,ASGW.name kx (.head _),EVT.nil,fun ζ=>?_,fun h=>by cases h⟩
  obtain rfl : mu = _:=hmu
  have hle:=flat_le (g:=fun u=>(ws u).filterMap (f u)) vs (i + 1)
  rw [take_flat hv] at hle ⊢
  generalize (vs.take i).flatMap (fun u=>(ws u).filterMap (f u)) = A at *
  have hin:=ST.inner (wl:=wl3 Option.none C D K) (c:=cx3 c scope (ocs Option.none K ++ cl) C out) (σ:=St.set ⟨l,(D,.list A) :: σ.mu⟩ x v) (elt:=elt) (scope:=scope) (pos:=pos) (g0:=⟨.Name x xp,iter1,[],0⟩) (ifs:=ifs) (acc:=.ref D) (p:=iter2.pos) (vs:=ws v)
   (body:=do let _ ← call (.builtin "list.append") [.ref D,← eval elt (compEnvC scope cl C c.env)])
   (I:=fun j σ'=>σ'.mu = (D,.list (A ++ ((ws v).take j).filterMap (f v))) :: σ.mu ∧ Sub ((x,v) :: cap) σ'.loc)
   (inner v hm C out _ _ (Sub.set1 hsub)) ⟨by rw [List.take_zero,List.filterMap_nil,List.append_nil],Sub.set1 hsub⟩ (fun J=>by rfl) ?_ (hs2 C)
  ·refine fun A' s ft r=>WPmono (hin A' s ft r) fun ζ s' h=>?_
   obtain ⟨σ',⟨h1,h2⟩,h3⟩:=h
   refine ⟨σ',⟨by rw [h1,List.take_length],fun z u e=>h2 z u ?_⟩,h3⟩
   have hne : z ≠ x:=fun q=>by rw [q,hx] at e; cases e
   rw [List.lookup_cons,beq_eq_false_iff_ne.mpr hne]
   exact e
  ·rintro j u ⟨l2,mu2⟩ hu ⟨hmu2,hsub2⟩ out2
   obtain rfl : mu2 = _:=hmu2
   have hum:=List.mem_of_getElem? hu
   have hsub3 : Sub ((x,v) :: cap) ((y,u) :: l2):=Sub.set hsub2 (by rw [List.lookup_cons,beq_eq_false_iff_ne.mpr (Ne.symm hxy)]; exact hy)
   have hsub4 : Sub ((y,u) :: (x,v) :: cap) ((y,u) :: l2):=Sub.set1 hsub2
   refine ⟨_,(f v u).isSome,ASGW.name ky (.head _),test v hm u hum C out2 _ _ hsub4,fun hb=>?_,fun hb=>?_⟩
   ·obtain ⟨z,hz⟩:=Option.isSome_iff_exists.mp hb
    refine ST.emit (elts v hm u hum z hz C out2 _ _ hsub4) (ys:=A ++ ((ws v).take j).filterMap (f v)) (by exact lk_head) ?_ (.tail _ (.head _)) ⟨?_,hsub3⟩
    ·have h1 : (((ws v).take j).filterMap (f v)).length ≤ ((ws v).filterMap (f v)).length:=by
      conv=>rhs; rw [← List.take_append_drop j (ws v)]
      rw [List.filterMap_append,List.length_append]
      exact Nat.le_add_right _ _
     rw [List.length_append] at hle ⊢
     exact Nat.le_trans (Nat.add_le_add_left h1 _) (Nat.le_trans hle hsz)
    ·show updM ((D,_) :: σ.mu) D _ = _
     rw [upd_cons hDn,take_succ_fm hu,hz,List.append_assoc]; rfl
   ·have hz : f v u = Option.none:=by
     cases h : f v u with
     | none=>rfl
     | some z=>rw [h] at hb; cases hb
    refine ⟨?_,hsub3⟩
    rw [take_succ_fm hu,hz]
    show (D,_) :: _ = _
    rw [Option.toList_none,List.append_nil]
 ·rintro D ⟨l,mu⟩ ⟨hmu,_⟩
  obtain rfl : mu = _:=hmu
  rw [List.take_length]
theorem EXs.assignCompC {elt iter:Expr} {x y:Str} {xp yp spos:Pos} {scope:Scope} {pos:Pos} {cl:List (Str × Addr)} {cap:List (Str × V)} {vs:List V} {f:V → V} {rest:List Stmt} {Q:AF → St → Prop}
  (hc:Cap3 c σ scope (some x) cl cap) (hsrc:SRC c k σ iter (.Name x xp) vs)
  (kx:(relabel scope c.env).names.lookup x = some .cell) (hx:cap.lookup x = Option.none)
  (elts:∀ u ∈ vs,∀ C K,(∀ q ∈ cl,q.2 ≠ K) → ∀ out l mu,Sub ((x,u) :: cap) l → EV (cx3 c scope ((x,K) :: cl) C out) k ⟨l,mu⟩ elt (f u))
  (hsz:vs.length ≤ sizeLine) (hy:Stores c y) (hr:EXs c k (σ.set y (.lst (vs.map f))) rest Q)
  (hsw:swapsWith (.ListComp elt [⟨.Name x xp,iter,[],0⟩] scope pos) (some (.Name y yp)) spos.line c.env = pure true)
  (hs:∀ x,foldedSetIterable iter c.env x = pure x) : EXs c k σ (.Assign [.Name y yp] (.ListComp elt [⟨.Name x xp,iter,[],0⟩] scope pos) spos :: rest) Q:=by
 refine .cons (EX.assignComp3 (own:=some x) (p:=iter.pos) (body:=fun D env=>(do let _ ← call (.builtin "list.append") [.ref D,← eval elt env]))
  (I:=fun D i σ'=>σ'.mu = (D,.list ((vs.take i).map f)) :: σ.mu ∧ Sub cap σ'.loc) hsw hc hsrc (fun J D env=>by rfl) (fun D=>⟨by rfl,Sub.refl⟩) ?_ ?_ hy hr hs)
 ·rintro C D K hCD hDn hK i v ⟨l,mu⟩ hv ⟨hmu,hsub⟩ out
  obtain rfl : mu = _:=hmu
  have hm:=List.mem_of_getElem? hv
  refine ⟨_,true,ASGW.cell (a:=K) kx (by show List.lookup x ((x,K) :: cl) = _; rw [List.lookup_cons,beq_self_eq_true]) (.tail _ (.tail _ (.head _))),EVT.nil,fun ζ=>?_,fun h=>by cases h⟩
  refine ST.emit (elts v hm C K hK out _ _ (Sub.set1 hsub)) (ys:=(vs.take i).map f) (by exact lk_head) ?_ (.tail _ (.head _)) ⟨?_,Sub.set hsub hx⟩
  ·rw [List.length_map,List.length_take]; exact Nat.le_trans (Nat.min_le_right _ _) hsz
  ·show updM ((D,_) :: σ.mu) D _ = _
   rw [upd_cons hDn,List.take_add_one,hv,List.map_append]; rfl
 ·rintro D ⟨l,mu⟩ ⟨hmu,_⟩
  obtain rfl : mu = _:=hmu
  rw [List.take_length]
end
end Mine.Internal
end
section
namespace Mine.Internal
noncomputable def chr (c:Nat) : Str:=⟨#[c]⟩
noncomputable def isPt (c:Nat) : Prop:=107 ≤ c ∧ c ≤ 111
theorem idx_pt {c:Nat} (h:isPt c) : Builtin.Str.occurrences "klmno" (chr c) 0 ("klmno":Str).length 1 = [c - 107]:=
 (show ∀ c,c < 112 → 107 ≤ c → Builtin.Str.occurrences "klmno" (chr c) 0 ("klmno":Str).length 1 = [c - 107] by decide +kernel) c (Nat.lt_succ_of_le h.2) h.1
noncomputable def tieP (row:List Int) (o:Nat) : Int:=row.getD (o - 107) 0
noncomputable def wrd (l:List Nat) : Str:=⟨l.toArray⟩
noncomputable def joinStep (row:List Int) (paint:Int) (st:List Nat × List (List Nat)) (part:List Nat) : List Nat × List (List Nat):=
 if (part.filter fun o=>tieP row o != paint) ≠ [] then (part ++ st.1,st.2) else (st.1,st.2 ++ [part])
noncomputable def partStep (T:List (List Int)) (paint:Int) (parts:List (List Nat)) (n:Nat) : List (List Nat):=
 let r:=parts.foldl (joinStep (T.getD (n - 107) []) paint) ([n],[])
 r.2 ++ [r.1]
noncomputable def partsF (T:List (List Int)) (members:List Nat) (paint:Int) : List (List Nat):=members.foldl (partStep T paint) []
noncomputable def tabV (T:List (List Int)) : V:=.lst (T.map fun r=>.lst (r.map V.int))
noncomputable def partsV (ps:List (List Nat)) : V:=.lst (ps.map fun p=>.str (wrd p))
noncomputable def fOth (row:List Int) (paint:Int) : V → Option V
 | .str x=>if tieP row (x.cps.getD 0 0) != paint then some (.str x) else none
 | _=>none
theorem chars_wrd (l:List Nat) : chars (wrd l) = l.map fun c=>.str (chr c):=by
 show (wrd l).cps.toList.map _ = _
 simp [wrd,chr]
theorem fOth_filter (row:List Int) (paint:Int) (l:List Nat) : (chars (wrd l)).filterMap (fOth row paint) = (l.filter fun o=>tieP row o != paint).map fun c=>.str (chr c):=by
 rw [chars_wrd]
 induction l with
 | nil=>rfl
 | cons c l ih=>
  rw [List.map_cons,List.filter_cons]
  have e : fOth row paint (.str (chr c)) = if tieP row c != paint then some (.str (chr c)) else none:=rfl
  cases hc : (tieP row c != paint) with
  | true=>rw [List.filterMap_cons_some (by rw [e,hc]; rfl),ih]; rfl
  | false=>rw [List.filterMap_cons_none (by rw [e,hc]; rfl),ih]; rfl
noncomputable def tot (r:List Nat × List (List Nat)) : Nat:=r.1.length + (r.2.map List.length).sum
theorem tot_step (row:List Int) (paint:Int) (r:List Nat × List (List Nat)) (p:List Nat) : tot (joinStep row paint r p) = tot r + p.length:=by
 unfold joinStep tot
 split
 ·simp; w_left
 ·simp; w_left
theorem tot_fold (row:List Int) (paint:Int) (ps:List (List Nat)) (r:List Nat × List (List Nat)) : tot (ps.foldl (joinStep row paint) r) = tot r + (ps.map List.length).sum:=by
 induction ps generalizing r with
 | nil=>simp
 | cons p ps ih=>rw [List.foldl_cons,ih,tot_step]; simp; w_left
theorem sum_part (T:List (List Int)) (paint:Int) (ps:List (List Nat)) (n:Nat) : ((partStep T paint ps n).map List.length).sum = (ps.map List.length).sum + 1:=by
 have:=tot_fold (T.getD (n - 107) []) paint ps ([n],[])
 unfold tot at this
 unfold partStep
 simp at this ⊢
 w_left
theorem sum_parts (T:List (List Int)) (paint:Int) (ms:List Nat) (ps:List (List Nat)) : ((ms.foldl (partStep T paint) ps).map List.length).sum = (ps.map List.length).sum + ms.length:=by
 induction ms generalizing ps with
 | nil=>simp
 | cons m ms ih=>rw [List.foldl_cons,ih,sum_part]; simp; w_left
theorem len_step (row:List Int) (paint:Int) (r:List Nat × List (List Nat)) (p:List Nat) : (joinStep row paint r p).2.length ≤ r.2.length + 1:=by
 unfold joinStep
 split <;> simp
theorem len_fold (row:List Int) (paint:Int) (ps:List (List Nat)) (r:List Nat × List (List Nat)) : (ps.foldl (joinStep row paint) r).2.length ≤ r.2.length + ps.length:=by
 induction ps generalizing r with
 | nil=>simp
 | cons p ps ih=>rw [List.foldl_cons]; have:=ih (joinStep row paint r p); have:=len_step row paint r p; simp; w_left
theorem len_part (T:List (List Int)) (paint:Int) (ps:List (List Nat)) (n:Nat) : (partStep T paint ps n).length ≤ ps.length + 1:=by
 have:=len_fold (T.getD (n - 107) []) paint ps ([n],[])
 unfold partStep
 simp at this ⊢
 exact this
theorem len_parts (T:List (List Int)) (paint:Int) (ms:List Nat) (ps:List (List Nat)) : (ms.foldl (partStep T paint) ps).length ≤ ps.length + ms.length:=by
 induction ms generalizing ps with
 | nil=>simp
 | cons m ms ih=>rw [List.foldl_cons]; have:=ih (partStep T paint ps m); have:=len_part T paint ps m; simp; w_left
theorem pt_fold (row:List Int) (paint:Int) {P:Nat → Prop} (ps:List (List Nat)) : ∀ (r:List Nat × List (List Nat)),(∀ p ∈ ps,∀ o ∈ p,P o) → (∀ o ∈ r.1,P o) → (∀ p ∈ r.2,∀ o ∈ p,P o) → (∀ o ∈ (ps.foldl (joinStep row paint) r).1,P o) ∧ (∀ p ∈ (ps.foldl (joinStep row paint) r).2,∀ o ∈ p,P o):=by
 induction ps with
 | nil=>intro r _ h1 h2; exact ⟨h1,h2⟩
 | cons p ps ih=>
  intro r h0 h1 h2
  rw [List.foldl_cons]
  have hp:=h0 p (.head _)
  refine ih _ (fun q hq=>h0 q (.tail _ hq)) ?_ ?_
  ·unfold joinStep
   split
   ·intro o ho
    rcases mema ho with h | h
    ·exact hp o h
    ·exact h1 o h
   ·exact h1
  ·unfold joinStep
   split
   ·exact h2
   ·intro q hq
    rcases mema hq with h | h
    ·exact h2 q h
    ·rw [mem1 h]; exact hp
theorem pt_parts (T:List (List Int)) (paint:Int) {P:Nat → Prop} (ms:List Nat) : ∀ (ps:List (List Nat)),(∀ n ∈ ms,P n) → (∀ p ∈ ps,∀ o ∈ p,P o) → ∀ p ∈ ms.foldl (partStep T paint) ps,∀ o ∈ p,P o:=by
 induction ms with
 | nil=>intro ps _ h; exact h
 | cons m ms ih=>
  intro ps hm h
  rw [List.foldl_cons]
  refine ih _ (fun n hn=>hm n (.tail _ hn)) ?_
  obtain ⟨h1,h2⟩:=pt_fold (T.getD (m - 107) []) paint ps ([m],[]) h (fun o ho=>by rw [mem1 ho]; exact hm m (.head _)) (fun p hp=>by cases hp)
  intro q hq
  unfold partStep at hq
  rcases mema hq with h | h
  ·exact h2 q h
  ·rw [mem1 h]; exact h1
theorem sum_take_le : ∀ (l:List Nat) (k:Nat),(l.take k).sum ≤ l.sum
 | [],k=>by simp
 | x :: l,0=>by simp
 | x :: l,k + 1=>by have:=sum_take_le l k; simp; w_left
theorem take_foldl {α β:Type} (f:α → β → α) (a:α) (l:List β) (i:Nat) (b:β) (h:l[i]? = some b) : (l.take (i + 1)).foldl f a = f ((l.take i).foldl f a) b:=by
 rw [List.take_add_one,h]; simp
theorem op_itemRow {w:World} {S0:Shared} {k:Nat} {row:List Int} {n:Nat} (hn:isPt n) (hr:row.length = 5) : OP2 w S0 k getItem (.lst (row.map V.int)) (.int ((n - 107:Nat) : Int)) (.int (tieP row n)):=by
 obtain ⟨h1,h2⟩:=hn
 refine op_itemL (Int.natCast_nonneg _) (pt_int h2) ?_
 unfold tieP
 have : n - 107 < row.length:=by rw [hr]; exact pt_lt h2
 simp [List.getD,this]
structure TabOk (T:List (List Int)) : Prop where
 len : T.length = 5
 rows : ∀ i,i < 5 → (T.getD i []).length = 5
section
variable {w:World} {S0:Shared} {k:Nat} {c:Cx} {σ:St}
theorem ev_idx {e:Expr} {kk:Nat} {p apos pos:Pos} {n:Nat} (hn:isPt n) (he:EV c k σ e (.str (chr n)))
  (S:Site c (.Constant (.str "klmno") kk p) "index" [e] apos pos:=by exact ⟨rfl,rfl,rfl,rfl⟩) (hse:starEach (e :: []) c.env = (false,eval e c.env) :: starEach [] c.env:=by rfl) :
  EV c k σ (.Call (.Attribute (.Constant (.str "klmno") kk p) "index" apos) [e] [] pos) (.int ((n - 107:Nat) : Int)):=
 EV.meth EV.str rfl m_sindex (EVL.cons he EVL.nil hse) (op_sindex (idx_pt hn)) S
theorem parts_ok (T:List (List Int)) (hT:TabOk T) (members:List Nat) (hm:∀ n ∈ members,isPt n) (hl:members.length ≤ 5) (paint:Int) : FN w S0 (k + 1) 282 [tabV T,.str (wrd members),.int paint] (partsV (partsF T members paint)):=by
 refine FN.intro (ns:=["table","members","paint"]) (K1_of (by rfl) (by rfl)) (by kernel_rfl) (args3 fun ζ ζ ζ=>rfl) (by rfl) (by decide) (by decide) rfl rfl rfl (fun X=>?_)
 ·refine EXs.assign (v:=.lst []) (EV.list EVL.nil) (.inl (by rfl)) ?_
  refine EXs.norm (l':=[("parts",partsV []),("table",tabV T),("members",.str (wrd members)),("paint",.int paint)]) (.ev rfl) ?_
  refine EXs.forS (fun i=>⟨[("parts",partsV ((members.take i).foldl (partStep T paint) [])),("table",tabV T),("members",.str (wrd members)),("paint",.int paint)],[]⟩) (.of (EV.name (v:=.str (wrd members)) (by rfl)) ITER.str) rfl ?_ ?_
  ·intro i v hv out₁ Q1 hQ1
   refine ⟨_,ASG.name (.inl (by rfl)),?_⟩
   rw [chars_wrd,List.getElem?_map,Option.map_eq_some_iff] at hv
   obtain ⟨n,hn,rfl⟩:=hv
   have hpt:=hm n (List.mem_of_getElem? hn)
   have hi : i < members.length:=by rw [List.getElem?_eq_some_iff] at hn; exact hn.1
   have hrow : (T.getD (n - 107) []).length = 5:=hT.rows _ (pt_lt hpt.2)
   have hitem : (T.map fun r=>V.lst (r.map V.int))[(((n - 107:Nat) : Int)).toNat]? = some (.lst ((T.getD (n - 107) []).map V.int)):=by
    have : n - 107 < T.length:=by rw [hT.len]; exact pt_lt hpt.2
    simp [List.getD,this]
   have hsum : ((((members.take i).foldl (partStep T paint) []).map List.length).sum : Nat) ≤ 5:=by
    rw [sum_parts]; simp; w_left
   have hlenp : ((members.take i).foldl (partStep T paint) []).length ≤ 5:=by
    have:=len_parts T paint (members.take i) []
    simp at this; w_left
   have hptp : ∀ p ∈ (members.take i).foldl (partStep T paint) [],∀ o ∈ p,isPt o:=pt_parts T paint (members.take i) [] (fun n hn=>hm n (List.mem_of_mem_take hn)) (fun p hp=>by cases hp)
   have hnext : (members.take (i + 1)).foldl (partStep T paint) [] = partStep T paint ((members.take i).foldl (partStep T paint) []) n:=take_foldl _ _ _ _ _ hn
   rw [hnext] at hQ1
   clear hnext
   generalize (members.take i).foldl (partStep T paint) [] = parts at *
   unfold partStep at hQ1
   generalize hrw : T.getD (n - 107) [] = row at *
   refine EXs.assign (v:=.lst (row.map V.int)) (EV.sub (EV.name (v:=tabV T) (by rfl)) rfl ⟨_,F.slot_list_getitem.lookup⟩ (ev_idx hpt (EV.name (by rfl))) (op_itemL (Int.natCast_nonneg _) (pt_int hpt.2) hitem)) (.inr ⟨by rfl,by rfl⟩) ?_
   refine EXs.assign (v:=.str (chr n)) (EV.name (by rfl)) (.inl (by rfl)) ?_
   refine EXs.assignM (.newList fun a ζ=>?_) (.inl (by rfl))
   refine EXs.norm (l':=[("joined",.str (wrd [n])),("others",.mob a),("row",.lst (row.map V.int)),("parts",partsV parts),("table",tabV T),("members",.str (wrd members)),("paint",.int paint)]) (.ev rfl) ?_
   refine EXs.forS (fun j=>⟨[("joined",.str (wrd ((parts.take j).foldl (joinStep row paint) ([n],[])).1)),("others",.mob a),("row",.lst (row.map V.int)),("parts",partsV parts),("table",tabV T),("members",.str (wrd members)),("paint",.int paint)],[(a,.list ((((parts.take j).foldl (joinStep row paint) ([n],[])).2).map fun p=>.str (wrd p)))]⟩) (.of (EV.name (v:=partsV parts) (by rfl)) ITER.lst) rfl ?_ ?_
   ·intro j v hv out₂ Q2 hQ2
    refine ⟨_,ASG.name (.inl (by rfl)),?_⟩
    rw [List.getElem?_map,Option.map_eq_some_iff] at hv
    obtain ⟨p,hp,rfl⟩:=hv
    have hnx : (parts.take (j + 1)).foldl (joinStep row paint) ([n],[]) = joinStep row paint ((parts.take j).foldl (joinStep row paint) ([n],[])) p:=take_foldl _ _ _ _ _ hp
    rw [hnx] at hQ2
    clear hnx
    have hlen : p.length + ((parts.take j).foldl (joinStep row paint) ([n],[])).1.length ≤ 6 ∧ ((parts.take j).foldl (joinStep row paint) ([n],[])).2.length ≤ 5:=by
     have h1:=tot_fold row paint (parts.take j) ([n],[])
     have h2:=len_fold row paint (parts.take j) ([n],[])
     have hj : j < parts.length:=by rw [List.getElem?_eq_some_iff] at hp; exact hp.1
     have h3 : ((parts.take (j + 1)).map List.length).sum ≤ (parts.map List.length).sum:=by
      rw [List.map_take]; exact sum_take_le _ _
     have h4 : ((parts.take (j + 1)).map List.length).sum = ((parts.take j).map List.length).sum + p.length:=by
      rw [List.take_add_one,hp]; simp
     have h5 : (parts.take j).length ≤ parts.length:=by rw [List.length_take]; w_left
     rw [List.length_nil,Nat.zero_add] at h2
     exact ⟨room6 h1 h4 h3 hsum,Nat.le_trans h2 (Nat.le_trans h5 hlenp)⟩
    have hpm:=hptp p (List.mem_of_getElem? hp)
    generalize (parts.take j).foldl (joinStep row paint) ([n],[]) = r at *
    refine EXs.ite (b:=!decide ((p.filter fun o=>tieP row o != paint) = [])) (EVB.cmp (a:=.lst ((chars (wrd p)).filterMap (fOth row paint))) (EV.comp (cap:=[("row",.lst (row.map V.int)),("paint",.int paint)]) (.of ["row","paint"] rfl rfl (by rfl) rfl (.ev rfl)) (.of (EV.name (v:=.str (wrd p)) (by rfl)) ITER.str) ?_ ?_) (EV.list EVL.nil) ?_) (fun h=>?_) (fun h=>?_)
    ·intro u hu L'
     rw [chars_wrd] at hu
     obtain ⟨o,ho,rfl⟩:=memm hu
     have hpo:=hpm o ho
     have hf : fOth row paint (.str (chr o)) = if tieP row o != paint then some (.str (chr o)) else none:=rfl
     refine ⟨[("other",.str (chr o)),("row",.lst (row.map V.int)),("paint",.int paint)],.ev rfl,fun ζ ζ=>ASGL.name (by rfl),fun ζ=>?_,fun v hv ζ=>?_⟩
     ·have : (fOth row paint (.str (chr o))).isSome = (tieP row o != paint):=by rw [hf]; cases (tieP row o != paint) <;> rfl
      rw [this]
      exact EVT.one (EVB.cmp (EV.sub (EV.name (v:=.lst (row.map V.int)) (by rfl)) rfl ⟨_,F.slot_list_getitem.lookup⟩ (ev_idx hpo (EV.name (by rfl))) (op_itemRow hpo hrow)) (EV.name (v:=.int paint) (by rfl)) op_ne)
     ·rw [hf] at hv
      split at hv
      ·w_dflts hv; exact EV.name (by rfl)
      ·w_dflts hv
    ·rw [chars_wrd,List.length_map]; unfold sizeLine; w_left
    ·rw [fOth_filter]
     cases hq : (p.filter fun o=>tieP row o != paint) with
     | nil=>exact op_ne_lst (.nil 0)
     | cons a l=>exact op_ne_lst (.left 0 _ _)
    ·have e : joinStep row paint r p = (p ++ r.1,r.2):=by unfold joinStep; rw [if_pos (by simpa using h)]
     rw [e] at hQ2
     have ha : wrd (p ++ r.1) = wrd p ++ wrd r.1:=by show (⟨(p ++ r.1).toArray⟩ : Str) = ⟨p.toArray ++ r.1.toArray⟩; simp
     rw [ha] at hQ2
     refine EXs.assign (v:=.str (wrd p ++ wrd r.1)) (EV.bin (EV.name (v:=.str (wrd p)) (by rfl)) (EV.name (v:=.str (wrd r.1)) (by rfl)) (op_addS (by show p.toArray.size + r.1.toArray.size ≤ sizeLine; unfold sizeLine; simp; w_left))) (.inl (by rfl)) ?_
     refine EXs.norm (l':=[("joined",.str (wrd p ++ wrd r.1)),("others",.mob a),("row",.lst (row.map V.int)),("parts",partsV parts),("table",tabV T),("members",.str (wrd members)),("paint",.int paint)]) (.ev rfl) ?_
     exact EXs.nil (EXs.nil hQ2)
    ·have e : joinStep row paint r p = (r.1,r.2 ++ [p]):=by unfold joinStep; rw [if_neg (by simpa using h)]
     rw [e] at hQ2
     refine EXs.exprM (.append (EV.name (v:=.mob a) (by rfl)) (vs:=r.2.map fun p=>.str (wrd p)) (by simp) (EVL.ev (by rfl)) (by rw [List.length_map]; unfold sizeLine; w_left) ?_)
     refine EXs.norm (l':=[("joined",.str (wrd r.1)),("others",.mob a),("row",.lst (row.map V.int)),("parts",partsV parts),("table",tabV T),("members",.str (wrd members)),("paint",.int paint)]) (.ev rfl) ?_
     refine EXs.nil (EXs.nil ?_)
     rw [List.map_append,← upd_one (o:=.list (r.2.map fun p=>V.str (wrd p)))] at hQ2
     exact hQ2
   ·
    have hfull : parts.take (parts.map fun p=>V.str (wrd p)).length = parts:=by rw [List.length_map,List.take_length]
    rw [hfull]
    have hl2:=len_fold row paint parts ([n],[])
    simp only [List.length_nil,Nat.zero_add] at hl2
    generalize parts.foldl (joinStep row paint) ([n],[]) = r at *
    refine EXs.freeze (a:=a) (vs:=r.2.map fun p=>.str (wrd p)) (mu':=[]) (l':=[("others",.lst (r.2.map fun p=>.str (wrd p))),("joined",.str (wrd r.1)),("table",tabV T),("members",.str (wrd members)),("paint",.int paint)]) (by simp) (fun p hp=>by cases hp) .nil (fun h=>by cases h)
     (fz_it rfl (fz_cons rfl (fz_cons rfl (fz_cons rfl (fz_cons rfl fz_nil))))) ?_
    refine EXs.assign (v:=.lst ((r.2.map fun p=>.str (wrd p)) ++ [.str (wrd r.1)])) (EV.bin (EV.name (by rfl)) (EV.list (EVL.ev (by rfl))) (op_addL (by simp; unfold sizeLine; w_left))) (.inl (by rfl)) ?_
    have e2 : V.lst ((r.2.map fun p=>.str (wrd p)) ++ [.str (wrd r.1)]) = partsV (r.2 ++ [r.1]):=by unfold partsV; simp
    rw [e2]
    refine EXs.norm (l':=[("parts",partsV (r.2 ++ [r.1])),("table",tabV T),("members",.str (wrd members)),("paint",.int paint)]) (.ev rfl) ?_
    exact EXs.nil hQ1
  ·refine EXs.ret (EV.name (by rfl)) ?_
   show partsV ((members.take (chars (wrd members)).length).foldl (partStep T paint) []) = _
   rw [chars_len,show (wrd members).cps.size = members.length from by simp [wrd],List.take_length]; rfl
end
end Mine.Internal
end
section
namespace Mine.Internal
noncomputable def isCh (c:Nat) : Prop:=c = 46 ∨ (97 ≤ c ∧ c ≤ 122)
structure HostL (l:List Nat) : Prop where
 ch : ∀ c ∈ l,isCh c
 pos : 0 < l.length
 small : l.length ≤ 64
theorem wrd_cps (l:List Nat) : (wrd l).cps.toList = l:=by simp [wrd]
theorem wrd_len (l:List Nat) : (wrd l).length = l.length:=by simp [wrd,Str.length]
theorem wrd_size (l:List Nat) : (wrd l).cps.size = l.length:=by simp [wrd]
theorem wrd_app (a b:List Nat) : wrd a ++ wrd b = wrd (a ++ b):=by show (⟨a.toArray ++ b.toArray⟩ : Str) = ⟨(a ++ b).toArray⟩; simp
theorem wrd_get (l:List Nat) (i:Nat) : (wrd l).cps.getD i 0 = l.getD i 0:=by simp [wrd,Array.getD,List.getD]; split <;> simp_all
theorem wrd_inj {a b:List Nat} (h:wrd a = wrd b) : a = b:=by have:=congrArg (fun x:Str=>x.cps.toList) h; simpa [wrd] using this
theorem pick_from (l:List Nat) (k:Nat) (h:k ≤ l.length) : strPick (wrd l) (some (k:Int)) none = wrd (l.drop k):=by
 have e : strPick (wrd l) (some (k:Int)) none = StrLaws.sliceText (wrd l) (some (k:Int)) none:=rfl
 rw [e,StrLaws.sliceText_from ⟨Int.natCast_nonneg k,by rw [wrd_cps]; exact Int.ofNat_le.mpr h⟩,wrd_cps,Int.toNat_natCast,Int.toNat_sub,← List.length_drop,List.take_length]; rfl
theorem lower_host {l:List Nat} (h:∀ c ∈ l,isCh c) : Txt.lower (wrd l) = wrd l:=by
 rw [lower_ascii (x:=wrd l) (fun c hc=>by rw [wrd_cps] at hc; rcases h c hc with h | ⟨_,h⟩ <;> w_left)]
 show (⟨(l.toArray).map lo1⟩ : Str) = ⟨l.toArray⟩
 have : l.toArray.map lo1 = l.toArray:=by
  rw [List.map_toArray]
  congr 1
  conv=>rhs; rw [← List.map_id l]
  apply List.map_congr_left
  intro c hc
  rcases h c hc with rfl | ⟨h1,h2⟩
  ·rfl
  ·unfold lo1; rw [if_neg (by w_left)]; rfl
 rw [this]
theorem upper_host {l:List Nat} (h:∀ c ∈ l,isCh c) : Txt.upper (wrd l) = wrd (l.map up1):=by
 rw [upper_ascii (x:=wrd l) (fun c hc=>by rw [wrd_cps] at hc; rcases h c hc with h | ⟨_,h⟩ <;> w_left)]
 show (⟨(l.toArray).map up1⟩ : Str) = ⟨(l.map up1).toArray⟩
 simp
theorem lowup_host {l:List Nat} (h:∀ c ∈ l,isCh c) : Txt.lower (Txt.upper (wrd l)) = wrd l:=by
 rw [upper_host h]
 have h2 : ∀ c ∈ l.map up1,c < 128 ∧ True:=fun c hc=>by
  obtain ⟨d,hd,rfl⟩:=memm hc
  rcases h d hd with rfl | ⟨h1,h2⟩
  ·exact ⟨by decide,trivial⟩
  ·unfold up1; rw [if_pos ⟨h1,h2⟩]; exact ⟨Nat.lt_of_le_of_lt (Nat.sub_le_sub_right h2 32) (by decide),trivial⟩
 rw [lower_ascii (x:=wrd (l.map up1)) (fun c hc=>by rw [wrd_cps] at hc; exact (h2 c hc).1)]
 show (⟨((l.map up1).toArray).map lo1⟩ : Str) = ⟨l.toArray⟩
 have : (l.map up1).toArray.map lo1 = l.toArray:=by
  rw [List.map_toArray,List.map_map]
  congr 1
  conv=>rhs; rw [← List.map_id l]
  apply List.map_congr_left
  intro c hc
  rcases h c hc with rfl | ⟨h1,h2⟩
  ·rfl
  ·show lo1 (up1 c) = c
   unfold up1; rw [if_pos ⟨h1,h2⟩]; unfold lo1; rw [if_pos ⟨Nat.sub_le_sub_right h1 32,Nat.sub_le_sub_right h2 32⟩]; exact Nat.sub_add_cancel (Nat.le_trans (by decide) h1)
 rw [this]
theorem noNum_host {l:List Nat} (h:∀ c ∈ l,isCh c) : noNum (wrd l).cps:=fun s ζ hs=>by
 rw [wrd_size] at hs
 rw [wrd_get]
 have : l.getD (s + 1) 0 ∈ l:=by simp [List.getD,hs]
 rcases h _ this with h | ⟨h1,h2⟩
 ·rw [h]; rfl
 ·generalize l.getD (s + 1) 0 = c at *
  unfold Sre.isDigit; simp; w_left
theorem small_ok {l:List Nat} (h:l.length ≤ 1000) : Builtin.Str.tooLong (wrd l).length = false:=by
 rw [wrd_len]; unfold Builtin.Str.tooLong sizeLine; simp; w_left
theorem dot_eq : (".":Str) = wrd [46]:=rfl
theorem occ_dot (l:List Nat) : (Builtin.Str.occurrences (wrd l) "." 0 (wrd l).length 1 = [] ∧ 46 ∉ l) ∨ ∃ i r,Builtin.Str.occurrences (wrd l) "." 0 (wrd l).length 1 = i :: r ∧ l[i]? = some 46 ∧ ∀ k,k < i → l[k]? ≠ some 46:=by
 have key : ∀ i,StrLaws.At (wrd l) "." (wrd l).length i ↔ l[i]? = some 46:=fun i=>by
  have:=StrLaws.subAt_one (wrd l) 46 i
  rw [wrd_cps] at this
  exact this
 rcases StrLaws.occ_head (wrd l) "." 1 (Nat.le_refl _) with ⟨h,hn⟩ | ⟨i,r,h,ha,hn⟩
 ·refine .inl ⟨h,fun hm=>?_⟩
  obtain ⟨i,hi⟩:=List.mem_iff_getElem?.mp hm
  exact hn i ((key i).mpr hi)
 ·exact .inr ⟨i,r,h,(key i).mp ha,fun k hk e=>hn k hk ((key k).mpr e)⟩
theorem find_dot {p q:List Nat} (h:46 ∉ p) : Txt.find (wrd (p ++ 46 :: q)) "." = p.length:=by
 unfold Txt.find
 rcases occ_dot (p ++ 46 :: q) with ⟨_,hn⟩ | ⟨i,r,he,hi,hn⟩
 ·exact absurd (by simp) hn
 ·rw [he]
  have : i = p.length:=by
   rcases Nat.lt_trichotomy i p.length with hlt | heq | hgt
   ·rw [List.getElem?_append_left hlt] at hi
    exact absurd (List.mem_of_getElem? hi) h
   ·exact heq
   ·have:=hn p.length hgt
    simp at this
  subst this; rfl
theorem find_none {l:List Nat} (h:46 ∉ l) : Txt.find (wrd l) "." = -1:=by
 unfold Txt.find
 rcases occ_dot l with ⟨he,_⟩ | ⟨i,r,he,hi,hn⟩
 ·rw [he]
 ·exact absurd (List.mem_of_getElem? hi) h
theorem ends_iff (a b:List Nat) : Txt.endswith (wrd a) (wrd b) = decide (b <:+ a):=by
 unfold Txt.endswith
 rw [StrLaws.subAt_eq,wrd_len,wrd_len,wrd_cps,wrd_cps,Bool.eq_iff_iff]
 simp only [Bool.and_eq_true,decide_eq_true_eq,beq_iff_eq,Nat.zero_add]
 constructor
 ·rintro ⟨h1,h2⟩
  rw [List.take_of_length_le (by rw [List.length_drop]; exact sub_sub_le _ _)] at h2
  have s:=List.drop_suffix (a.length - b.length) a
  rw [h2] at s; exact s
 ·rintro ⟨t,rfl⟩
  refine ⟨by simp,?_⟩
  have : (t ++ b).length - b.length = t.length:=by simp
  rw [this]; simp
theorem starts_dot (l:List Nat) : Txt.startswith (wrd l) "." = decide (l.head? = some 46):=by
 unfold Txt.startswith
 rw [StrLaws.subAt_eq,wrd_len,wrd_cps,Bool.eq_iff_iff]
 simp only [Bool.and_eq_true,decide_eq_true_eq,beq_iff_eq,Nat.zero_add,List.drop_zero]
 show 1 ≤ l.length ∧ l.take 1 = [46] ↔ _
 cases l with
 | nil=>simp
 | cons c l=>simp
noncomputable def reachL (l:List Nat) : List Nat:=
 match l.dropWhile (· != 46) with
 | []=>l
 | _ :: b=>if l.head? = some 46 ∨ l.getLast? = some 46 then l else if 46 ∈ b ∨ b = [108,111,99,97,108] then 46 :: b else l
theorem local_eq : ("local":Str) = wrd [108,111,99,97,108]:=rfl
theorem dropW : ∀ (l:List Nat),(46 ∉ l ∧ l.dropWhile (· != 46) = []) ∨ ∃ p b,l = p ++ 46 :: b ∧ 46 ∉ p ∧ l.dropWhile (· != 46) = 46 :: b
 | []=>.inl ⟨by simp,rfl⟩
 | c :: l=>by
  by_cases hc : c = 46
  ·subst hc
   exact .inr ⟨[],l,rfl,by simp,rfl⟩
  ·have e : (c :: l).dropWhile (· != 46) = l.dropWhile (· != 46):=by
    rw [List.dropWhile_cons,if_pos (by simpa using hc)]
   rcases dropW l with ⟨h1,h2⟩ | ⟨p,b,h1,h2,h3⟩
   ·refine .inl ⟨by simp [h1]; exact fun h=>hc h.symm,by rw [e,h2]⟩
   ·refine .inr ⟨c :: p,b,by rw [h1]; rfl,by simp [h2]; exact fun h=>hc h.symm,by rw [e,h3]⟩
theorem dotted_wrd {l:List Nat} (h:0 < l.length) : dotted (wrd l) = decide (l.head? = some 46 ∨ l.getLast? = some 46):=by
 unfold dotted
 rw [wrd_size,wrd_get,wrd_get,Bool.eq_iff_iff]
 cases l with
 | nil=>exact absurd h (by simp)
 | cons c l=>
  have e1 : (c :: l).getD 0 0 = c:=rfl
  have e2 : (c :: l).getLast? = some ((c :: l).getD ((c :: l).length - 1) 0):=by
   rw [List.getLast?_eq_getElem?]
   simp [List.getD]
  rw [e2,e1]
  simp
theorem reach_wrd {l:List Nat} (h:0 < l.length) : reachS (wrd l) false = wrd (reachL l):=by
 unfold reachS reachL
 rw [dotted_wrd h]
 rcases dropW l with ⟨h1,h2⟩ | ⟨p,b,h1,h2,h3⟩
 ·rw [find_none h1,h2]; rfl
 ·have hr : restOf (wrd l) = wrd b:=by
   unfold restOf
   rw [h1,find_dot h2]
   have:=pick_from (p ++ 46 :: b) (p.length + 1) (by simp)
   rw [show ((p.length:Int) + 1) = ((p.length + 1:Nat) : Int) from by w_left,this]
   congr 1
   rw [← List.drop_drop,List.drop_left]; rfl
  rw [hr,h3]
  have hf : Txt.find (wrd l) "." ≥ 0:=by rw [h1,find_dot h2]; w_left
  rw [if_pos hf]
  have hb : (decide (Txt.find (wrd b) "." ≥ 0) || wrd b == "local") = decide (46 ∈ b ∨ b = [108,111,99,97,108]):=by
   rw [Bool.eq_iff_iff,Bool.or_eq_true,decide_eq_true_eq,decide_eq_true_eq,beq_iff_eq,local_eq]
   refine or_congr ?_ ⟨fun h=>wrd_inj h,fun h=>by rw [h]⟩
   rcases dropW b with ⟨q1,_⟩ | ⟨p',b',q1,q2,_⟩
   ·rw [find_none q1]; exact ⟨fun h=>absurd h (by decide),fun h=>absurd h q1⟩
   ·rw [q1,find_dot q2]; exact ⟨fun ζ=>by simp,fun ζ=>by w_left⟩
  rw [hb]
  dsimp only
  by_cases c1 : l.head? = some 46 ∨ l.getLast? = some 46
  ·rw [if_pos c1]
   rw [if_neg (by simp only [decide_eq_true c1]; simp)]
  ·rw [if_neg c1,decide_eq_false c1]
   by_cases c2 : 46 ∈ b ∨ b = [108,111,99,97,108]
   ·rw [if_pos c2,decide_eq_true c2]; exact wrd_app [46] b
   ·rw [if_neg c2,decide_eq_false c2]; rfl
end Mine.Internal
end
section
namespace Mine.Internal
noncomputable def labV (host:List Nat) : V:=.int (Txt.find "rgb" (chr (host.getD 0 0)))
noncomputable def tellStep (host dom:List Nat) (D:List (Str × V)) (o:List Nat) : List (Str × V):=
 if (getD D (wrd o)).isSome then D else if dom <:+ o then putD D (wrd o) (labV host) else D
noncomputable def climbStep (others:List (List Nat)) (st:List Nat × List (Str × V)) : List Nat × List (Str × V):=
 if reachL st.1 = st.1 then st else ((reachL st.1).drop 1,others.foldl (tellStep st.1 (reachL st.1)) st.2)
noncomputable def climbN (others:List (List Nat)) (st:List Nat × List (Str × V)) : Nat → List Nat × List (Str × V)
 | 0=>st
 | n + 1=>climbStep others (climbN others st n)
noncomputable def toldF (host:List Nat) (others:List (List Nat)) : List V:=others.map fun o=>(getD (climbN others (host,[]) 6).2 (wrd o)).getD .none
theorem reachL_shape {l:List Nat} (h:HostL l) (hne:reachL l ≠ l) : ∃ b,reachL l = 46 :: b ∧ HostL b:=by
 unfold reachL at hne ⊢
 rcases dropW l with ⟨h1,h2⟩ | ⟨p,b,h1,h2,h3⟩
 ·rw [h2] at hne; exact absurd rfl hne
 ·rw [h3] at hne ⊢
  dsimp only at hne ⊢
  by_cases c1 : l.head? = some 46 ∨ l.getLast? = some 46
  ·rw [if_pos c1] at hne; exact absurd rfl hne
  ·rw [if_neg c1] at hne ⊢
   by_cases c2 : 46 ∈ b ∨ b = [108,111,99,97,108]
   ·rw [if_pos c2]
    refine ⟨b,rfl,fun c hc=>h.ch c (by rw [h1]; simp [hc]),?_,?_⟩
    ·rcases c2 with c2 | c2
     ·exact List.length_pos_of_mem c2
     ·rw [c2]; decide
    ·have:=h.small; rw [h1] at this; simp at this; w_left
   ·rw [if_neg c2] at hne; exact absurd rfl hne
theorem climbN_host {others:List (List Nat)} {st:List Nat × List (Str × V)} (h:HostL st.1) : ∀ n,HostL (climbN others st n).1
 | 0=>h
 | n + 1=>by
  have ih:=climbN_host (others:=others) h n
  show HostL (climbStep others (climbN others st n)).1
  unfold climbStep
  split
  ·exact ih
  ·rename_i hne
   obtain ⟨b,hb,hh⟩:=reachL_shape ih hne
   rw [hb]; exact hh
theorem putD_len (D:List (Str × V)) (x:Str) (v:V) : (putD D x v).length ≤ D.length + 1:=by
 unfold putD; split <;> simp
theorem tell_len (host dom:List Nat) (D:List (Str × V)) (o:List Nat) : (tellStep host dom D o).length ≤ D.length + 1:=by
 unfold tellStep
 split
 ·w_left
 ·split
  ·exact putD_len _ _ _
  ·w_left
theorem tells_len (host dom:List Nat) (os:List (List Nat)) : ∀ D : List (Str × V),(os.foldl (tellStep host dom) D).length ≤ D.length + os.length:=by
 induction os with
 | nil=>intro D; simp
 | cons o os ih=>intro D; rw [List.foldl_cons]; have:=ih (tellStep host dom D o); have:=tell_len host dom D o; simp; w_left
theorem climb_len (others:List (List Nat)) (st:List Nat × List (Str × V)) : ∀ n,(climbN others st n).2.length ≤ st.2.length + n * others.length
 | 0=>by simp [climbN]
 | n + 1=>by
  have ih:=climb_len others st n
  show (climbStep others (climbN others st n)).2.length ≤ _
  unfold climbStep
  rw [Nat.add_mul,Nat.one_mul]
  split
  ·w_left
  ·have:=tells_len (climbN others st n).1 (reachL (climbN others st n).1) others (climbN others st n).2
   simp only; w_left
theorem upper_small {l:List Nat} (h:HostL l) : Builtin.Str.tooLong (Txt.upper (wrd l)).length = false:=by
 rw [upper_host h.ch]; exact small_ok (by have:=h.small; simp; w_left)
section
variable {w:World} {S0:Shared} {k:Nat} {c:Cx} {σ:St}
theorem host62 {l:List Nat} (h:HostL l) : (wrd l).cps.size < 2 ^ 62:=by rw [wrd_size]; have:=h.small; w_left
theorem reach_host {l:List Nat} (h:HostL l) : FN w S0 (k + 2) 71 [.str (wrd l)] (.str (wrd (reachL l))):=by
 have:=reach_ok (w:=w) (S0:=S0) (k:=k) (host62 h) (by rw [wrd_size]; exact h.pos) (.no (noNum_host h.ch)) (by
  have : (restOf (wrd l)).length ≤ (wrd l).length:=by
   unfold restOf strPick
   split
   ·exact Nat.le_refl _
   ·show (List.toArray _).size ≤ _
    rw [List.size_toArray]
    exact Nat.le_trans (List.length_filterMap_le _ _) (PyProof.Rows.indices_len_le _ _ _)
  rw [wrd_len] at this
  have:=h.small
  unfold sizeLine; w_left)
 rw [reach_wrd h.pos] at this
 exact this
theorem udm_tell {o dom:List Nat} (ho:HostL o) (hd:∀ c ∈ dom,isCh c) (hs:dom.length ≤ 100) (h46:dom.head? = some 46) {x y:Str} (hx:x = wrd o ∨ x = Txt.upper (wrd o)) (hy:y = wrd dom ∨ y = Txt.upper (wrd dom)) : FN w S0 (k + 2) 64 [.str x,.str y] (.bool (decide (dom <:+ o))):=by
 have lx : Txt.lower x = wrd o:=by rcases hx with rfl | rfl; exact lower_host ho.ch; exact lowup_host ho.ch
 have ly : Txt.lower y = wrd dom:=by rcases hy with rfl | rfl; exact lower_host hd; exact lowup_host hd
 have:=udm_ok (w:=w) (S0:=S0) (k:=k) (x:=x) (y:=y) (na:=false) (nb:=false) (by rw [lx]; exact small_ok (by have:=ho.small; w_left)) (by rw [ly]; exact small_ok (by w_left)) (by rw [lx]; exact .no (noNum_host ho.ch)) (by rw [ly]; exact .no (noNum_host hd))
 rw [lx,ly] at this
 have e : udmB (wrd o) (wrd dom) false false = decide (dom <:+ o):=by
  unfold udmB
  rw [starts_dot,h46,ends_iff]; rfl
 rw [e] at this
 exact this
theorem op_is {a b:Bool} : OP2 w S0 k (compareOp .Is) (.bool a) (.bool b) (.bool (a == b)):=fun ms A s x y f g hx hy=>by
 w_dflts hx; w_dflts hy
 exact wpAny_is_plain rfl ⟨by cases a <;> cases b <;> exact .bool _,krefl _⟩
theorem mod2 (i:Nat) : (((0:Int) + (i:Int) * 1).fmod 2) = if i % 2 = 0 then 0 else 1:=by
 rw [Int.zero_add,Int.mul_one,Int.fmod_eq_emod_of_nonneg _ (by decide)]
 split <;> w_left
theorem op_pair {a b:V} {i:Int} : OP2 w S0 k getItem (.lst [a,b]) (.int (if i = 0 then 0 else 1)) (if i = 0 then a else b):=by
 split
 ·exact op_itemL (by decide) (by decide) rfl
 ·exact op_itemL (by decide) (by decide) rfl
noncomputable def fGet (D:List (Str × V)) : V → Option V
 | .str x=>some ((getD D x).getD .none)
 | _=>none
theorem fGet_map (D:List (Str × V)) : ∀ os : List (List Nat),(os.map fun o=>V.str (wrd o)).filterMap (fGet D) = os.map fun o=>(getD D (wrd o)).getD .none
 | []=>rfl
 | o :: os=>by
  have e : fGet D (V.str (wrd o)) = some ((getD D (wrd o)).getD .none):=rfl
  rw [List.map_cons,List.map_cons,List.filterMap_cons_some e,fGet_map D os]
set_option maxHeartbeats 4000000 in
theorem told_ok {host:List Nat} {others:List (List Nat)} (hh:HostL host) (ho:∀ o ∈ others,HostL o) (hl:others.length ≤ 5) : FN w S0 (k + 3) 294 [.str (wrd host),.lst (others.map fun o=>.str (wrd o))] (.lst (toldF host others)):=by
 refine FN.intro (ns:=["host","others"]) (K1_of (by rfl) (by rfl)) (by kernel_rfl) (args2 fun ζ ζ=>rfl) (by rfl) (by decide) (by decide) rfl rfl rfl (fun X=>?_)
 ·refine EXs.assignM (.newDict fun a ζ=>?_) (.inr ⟨by rfl,by rfl⟩)
  refine EXs.norm (l':=[("told",.mob a),("host",.str (wrd host)),("others",.lst (others.map fun o=>.str (wrd o)))]) (.ev rfl) ?_
  refine EXs.forS (fun i=>⟨[("told",.mob a),("host",.str (wrd (climbN others (host,[]) i).1)),("others",.lst (others.map fun o=>.str (wrd o)))],[(a,.dict (climbN others (host,[]) i).2)]⟩)
   (.range (vs:=[.int 6]) (n:=6) (EV.boot (by kernel_rfl) (by rfl) (by rfl)) (EVL.ev (by rfl)) (fun ms s A xs Q h hQ=>range1 h hQ) (by decide) (by decide +kernel) (fun ζ ζ=>rfl) (by rfl) (by rfl)) rfl ?_ ?_
  ·intro i v hv out₁ Q1 hQ1
   have hi : i < 6:=by
    rw [List.getElem?_eq_some_iff] at hv; obtain ⟨h,_⟩:=hv; simpa [rngV] using h
   have hv' : v = .int (0 + (i:Int) * 1):=by
    have:=rngV_get (a:=0) (c:=1) (n:=6) (i:=i) (by simpa [rngV] using hi)
    rw [this] at hv; w_dflts hv; rfl
   subst hv'
   refine ⟨_,ASG.name (.inl (by rfl)),?_⟩
   show EXs _ _ _ _ _
   have hst : climbN others (host,[]) (i + 1) = climbStep others (climbN others (host,[]) i):=rfl
   have hH:=climbN_host (others:=others) (st:=(host,[])) hh i
   have hL:=climb_len others (host,[]) i
   have hL2 : (climbN others (host,[]) i).2.length ≤ 25:=by
    have : i * others.length ≤ 5 * 5:=Nat.mul_le_mul (by w_left) hl
    simp only [List.length_nil] at hL; w_left
   rw [hst] at hQ1
   clear hst
   generalize climbN others (host,[]) i = st at *
   obtain ⟨hs,D⟩:=st
   simp only at hH hL2 ⊢
   refine EXs.assign (v:=.str (wrd (reachL hs))) (EV.callv (EV.glob (v:=.ref 71) (by kernel_rfl) (by rfl)) (EVL.ev (by rfl)) (.top (by kernel_rfl)) (reach_host hH)) (.inl (by rfl)) ?_
   refine EXs.ite (b:=!(wrd (reachL hs) == wrd hs)) (EVB.cmp (EV.name (v:=.str (wrd (reachL hs))) (by rfl)) (EV.name (v:=.str (wrd hs)) (by rfl)) op_ne_str) (fun h=>?_) (fun h=>?_)
   ·have hne : reachL hs ≠ hs:=fun e=>by rw [e] at h; simp at h
    obtain ⟨b,hb,hB⟩:=reachL_shape hH hne
    have hst2 : climbStep others (hs,D) = (b,others.foldl (tellStep hs (46 :: b)) D):=by unfold climbStep; rw [if_neg hne]; simp only [hb]; rfl
    rw [hst2] at hQ1
    rw [hb] at hne ⊢
    have hdc : ∀ c ∈ (46 :: b),isCh c:=fun c hc=>by
     rcases memc hc with rfl | hc
     ·exact .inl rfl
     ·exact hB.ch c hc
    refine EXs.norm (l':=[("told",.mob a),("host",.str (wrd hs)),("others",.lst (others.map fun o=>.str (wrd o))),("domain",.str (wrd (46 :: b))),("climb",.int (0 + (i:Int) * 1))]) (.ev rfl) ?_
    refine EXs.forS (fun j=>⟨[("told",.mob a),("host",.str (wrd hs)),("others",.lst (others.map fun o=>.str (wrd o))),("domain",.str (wrd (46 :: b))),("climb",.int (0 + (i:Int) * 1))],[(a,.dict ((others.take j).foldl (tellStep hs (46 :: b)) D))]⟩) (.of (EV.name (v:=.lst (others.map fun o=>.str (wrd o))) (by rfl)) ITER.lst) rfl ?_ ?_
    ·intro j v hv out₂ Q2 hQ2
     refine ⟨_,ASG.name (.inl (by rfl)),?_⟩
     rw [List.getElem?_map,Option.map_eq_some_iff] at hv
     obtain ⟨o,hoj,rfl⟩:=hv
     have hO:=ho o (List.mem_of_getElem? hoj)
     rw [take_foldl _ _ _ _ _ hoj] at hQ2
     have hD2 : ((others.take j).foldl (tellStep hs (46 :: b)) D).length ≤ 30:=by
      have:=tells_len hs (46 :: b) (others.take j) D
      have : (others.take j).length ≤ others.length:=by rw [List.length_take]; w_left
      w_left
     generalize (others.take j).foldl (tellStep hs (46 :: b)) D = E at *
     obtain ⟨x,hx,hxv⟩ : ∃ x,(x = wrd o ∨ x = Txt.upper (wrd o)) ∧ (if (if i % 2 = 0 then (0:Int) else 1) = 0 then V.str (wrd o) else V.str (Txt.upper (wrd o))) = V.str x:=by
      by_cases hp : i % 2 = 0
      ·exact ⟨_,.inl rfl,by simp [hp]⟩
      ·exact ⟨_,.inr rfl,by simp [hp]⟩
     obtain ⟨y,hy,hyv⟩ : ∃ y,(y = wrd (46 :: b) ∨ y = Txt.upper (wrd (46 :: b))) ∧ (if (if i % 2 = 0 then (0:Int) else 1) = 0 then V.str (Txt.upper (wrd (46 :: b))) else V.str (wrd (46 :: b))) = V.str y:=by
      by_cases hp : i % 2 = 0
      ·exact ⟨_,.inr rfl,by simp [hp]⟩
      ·exact ⟨_,.inl rfl,by simp [hp]⟩
     have hup : Builtin.Str.tooLong (Txt.upper (wrd (46 :: b))).length = false:=by
      rw [upper_host hdc]; exact small_ok (by have:=hB.small; simp; w_left)
     have h01 : (if i % 2 = 0 then (0:Int) else 1) = if (if i % 2 = 0 then (0:Int) else 1) = 0 then 0 else 1:=by split <;> simp
     have norm : ∀ {st:St},st = st:=fun {_}=>rfl
     refine EXs.ite (b:=!(getD E (wrd o)).isSome) (ev_notin (EV.name (v:=.str (wrd o)) (by rfl)) (EV.name (v:=.mob a) (by rfl)) (by simp)) (fun h=>?_) (fun h=>?_)
     ·have hno : (getD E (wrd o)).isSome = false:=by simpa using h
      refine EXs.ite (b:=decide ((46 :: b) <:+ o) == true) (EVB.cmp (EV.callv (vs:=[.str x,.str y]) (EV.glob (v:=.ref 64) (by kernel_rfl) (by rfl)) (EVL.cons ?_ (EVL.cons ?_ EVL.nil)) (.top (by kernel_rfl)) (udm_tell hO hdc (by have:=hB.small; simp; w_left) rfl hx hy)) EV.bool op_is) (fun h2=>?_) (fun h2=>?_)
      ·refine EV.eq (EV.sub (EV.list (EVL.cons (EV.name (v:=.str (wrd o)) (by rfl)) (EVL.cons (EV.meth (EV.name (v:=.str (wrd o)) (by rfl)) rfl m_upper EVL.nil (op_upper (upper_small hO))) EVL.nil))) rfl ⟨_,F.slot_list_getitem.lookup⟩ (EV.bin (v:=.int (if (if i % 2 = 0 then (0:Int) else 1) = 0 then 0 else 1)) (EV.name (v:=.int (0 + (i:Int) * 1)) (by rfl)) EV.int (by rw [← h01,← mod2]; exact op_mod (by decide))) op_pair) hxv
      ·refine EV.eq (EV.sub (EV.list (EVL.cons (EV.meth (EV.name (v:=.str (wrd (46 :: b))) (by rfl)) rfl m_upper EVL.nil (op_upper hup)) (EVL.ev (by rfl)))) rfl ⟨_,F.slot_list_getitem.lookup⟩ (EV.bin (v:=.int (if (if i % 2 = 0 then (0:Int) else 1) = 0 then 0 else 1)) (EV.name (v:=.int (0 + (i:Int) * 1)) (by rfl)) EV.int (by rw [← h01,← mod2]; exact op_mod (by decide))) op_pair) hyv
      ·have e : tellStep hs (46 :: b) E o = putD E (wrd o) (labV hs):=by unfold tellStep; rw [hno,if_neg Bool.false_ne_true,if_pos (by simpa using h2)]
       rw [e,← upd_one (o:=.dict E)] at hQ2
       have h0 : (wrd hs).cps[0]? = some (hs.getD 0 0):=by
        have:=hH.pos
        cases hs with
        | nil=>exact absurd this (by simp)
        | cons c l=>rfl
       refine EXs.mcons (EX.setItemD (EV.meth EV.str rfl m_find (EVL.cons (v:=.str (chr (hs.getD 0 0))) (EV.sub (EV.name (v:=.str (wrd hs)) (by rfl)) rfl ⟨_,F.slot_str_getitem.lookup⟩ EV.int (op_itemS (by decide) (by rw [wrd_len,seqIndex_first hH.pos]; exact h0))) EVL.nil) op_find) (EV.name (v:=.mob a) (by rfl)) (EV.name (v:=.str (wrd o)) (by rfl)) (kvs:=E) (by simp) (by unfold sizeLine; w_left) ?_)
       refine EXs.norm (l':=[("told",.mob a),("host",.str (wrd hs)),("others",.lst (others.map fun o=>.str (wrd o))),("domain",.str (wrd (46 :: b))),("climb",.int (0 + (i:Int) * 1))]) (.ev rfl) ?_
       exact EXs.nil (EXs.nil (EXs.nil hQ2))
      ·have e : tellStep hs (46 :: b) E o = E:=by unfold tellStep; rw [hno,if_neg Bool.false_ne_true,if_neg (by simpa using h2)]
       rw [e] at hQ2
       refine EXs.norm (l':=[("told",.mob a),("host",.str (wrd hs)),("others",.lst (others.map fun o=>.str (wrd o))),("domain",.str (wrd (46 :: b))),("climb",.int (0 + (i:Int) * 1))]) (.ev rfl) ?_
       exact EXs.nil (EXs.nil (EXs.nil hQ2))
     ·have hso : (getD E (wrd o)).isSome = true:=by simpa using h
      have e : tellStep hs (46 :: b) E o = E:=by unfold tellStep; rw [if_pos hso]
      rw [e] at hQ2
      refine EXs.norm (l':=[("told",.mob a),("host",.str (wrd hs)),("others",.lst (others.map fun o=>.str (wrd o))),("domain",.str (wrd (46 :: b))),("climb",.int (0 + (i:Int) * 1))]) (.ev rfl) ?_
      exact EXs.nil (EXs.nil hQ2)
    ·have hfull : others.take (others.map fun o=>V.str (wrd o)).length = others:=by rw [List.length_map,List.take_length]
     rw [hfull]
     refine EXs.assign (v:=.str (wrd b)) (EV.eq (ev_sliceS (l:=some 1) (u:=none) (EV.name (v:=.str (wrd (46 :: b))) (by rfl)) EV.int rfl ?_) ?_) (.inl (by rfl)) ?_
     ·have:=pick_from (46 :: b) 1 (by simp)
      rw [show (some (1:Int)) = some ((1:Nat) : Int) from rfl,this,wrd_len]
      have:=hB.small
      unfold sizeLine; simp; w_left
     ·have:=pick_from (46 :: b) 1 (by simp)
      rw [show (some (1:Int)) = some ((1:Nat) : Int) from rfl,this]; rfl
     refine EXs.norm (l':=[("told",.mob a),("host",.str (wrd b)),("others",.lst (others.map fun o=>.str (wrd o)))]) (.ev rfl) ?_
     exact EXs.nil (EXs.nil hQ1)
   ·have he : reachL hs = hs:=wrd_inj (by simpa using h)
    have : climbStep others (hs,D) = (hs,D):=by unfold climbStep; rw [if_pos he]
    rw [this] at hQ1
    refine EXs.done ?_
    refine EXs.norm (l':=[("told",.mob a),("host",.str (wrd hs)),("others",.lst (others.map fun o=>.str (wrd o)))]) (.ev rfl) ?_
    exact EXs.nil hQ1
  ·have hlen : (rngV 0 1 6).length = 6:=by simp [rngV]
   rw [hlen]
   refine EXs.ret (EV.eq (EV.comp (cap:=[("told",.mob a)]) (f:=fGet (climbN others (host,[]) 6).2) (.of ["told"] rfl rfl (by rfl) rfl (.ev rfl)) (.of (EV.name (v:=.lst (others.map fun o=>.str (wrd o))) (by rfl)) ITER.lst) ?_ ?_) (congrArg V.lst (fGet_map _ _))) rfl
   ·intro u hu L'
    obtain ⟨o,ho',rfl⟩:=memm hu
    refine ⟨[("other",.str (wrd o)),("told",.mob a)],.ev rfl,fun ζ ζ=>ASGL.name (by rfl),fun ζ=>EVT.nil,fun v hv ζ=>?_⟩
    w_dflts hv
    exact ev_get1 (EV.name (v:=.mob a) (by rfl)) (by simp) (EVL.ev (by rfl)) (by exact ⟨rfl,rfl,rfl,rfl⟩)
   ·rw [List.length_map]; unfold sizeLine; w_left
end
end Mine.Internal
end
section
namespace Mine.Internal
theorem lower_any {l:List Nat} (h:∀ c ∈ l,c < 128 ∧ lo1 c = c) : Txt.lower (wrd l) = wrd l:=by
 rw [lower_ascii (x:=wrd l) (fun c hc=>by rw [wrd_cps] at hc; exact (h c hc).1)]
 show (⟨(l.toArray).map lo1⟩ : Str) = ⟨l.toArray⟩
 have : l.toArray.map lo1 = l.toArray:=by
  rw [List.map_toArray]
  congr 1
  conv=>rhs; rw [← List.map_id l]
  apply List.map_congr_left
  intro c hc; exact (h c hc).2
 rw [this]
theorem lower_up {l:List Nat} (h:∀ c ∈ l,isCh c) (t:List Nat) (ht:∀ c ∈ t,c < 128 ∧ lo1 c = c) : Txt.lower (wrd (l.map up1 ++ t)) = wrd (l ++ t):=by
 rw [lower_ascii (x:=wrd (l.map up1 ++ t)) (fun c hc=>by
  rw [wrd_cps] at hc
  rcases mema hc with hc | hc
  ·obtain ⟨d,hd,rfl⟩:=memm hc
   rcases h d hd with rfl | ⟨h1,h2⟩
   ·decide
   ·unfold up1; rw [if_pos ⟨h1,h2⟩]; w_left
  ·exact (ht c hc).1)]
 show (⟨((l.map up1 ++ t).toArray).map lo1⟩ : Str) = ⟨(l ++ t).toArray⟩
 have : (l.map up1 ++ t).toArray.map lo1 = (l ++ t).toArray:=by
  rw [List.map_toArray,List.map_append,List.map_map]
  congr 1
  congr 1
  ·conv=>rhs; rw [← List.map_id l]
   apply List.map_congr_left
   intro c hc
   rcases h c hc with rfl | ⟨h1,h2⟩
   ·rfl
   ·show lo1 (up1 c) = c
    unfold up1; rw [if_pos ⟨h1,h2⟩]; unfold lo1; rw [if_pos (by w_left)]; w_left
  ·conv=>rhs; rw [← List.map_id t]
   apply List.map_congr_left
   intro c hc; exact (ht c hc).2
 rw [this]
theorem isCh_low {c:Nat} (h:isCh c) : c < 128 ∧ lo1 c = c:=by
 rcases h with rfl | ⟨h1,h2⟩
 ·exact ⟨by decide,rfl⟩
 ·exact ⟨by w_left,by unfold lo1; rw [if_neg (by w_left)]⟩
structure Whole (host b:List Nat) : Prop where
 hl : HostL host
 short : host.length ≤ 60
 eq : ∃ c,c ≠ 46 ∧ host = c :: 46 :: b
 dom : 46 ∈ b ∨ b = [108,111,99,97,108]
 last : b.getLast? = some 108
 head : b.head? ≠ some 46
theorem Whole.reach {host b:List Nat} (h:Whole host b) : reachL host = 46 :: b:=by
 obtain ⟨c,hc,rfl⟩:=h.eq
 unfold reachL
 have e : (c :: 46 :: b).dropWhile (· != 46) = 46 :: b:=by
  rw [List.dropWhile_cons,if_pos (by simpa using hc)]; rfl
 rw [e]
 dsimp only
 have hl : ¬ ((c :: 46 :: b).head? = some 46 ∨ (c :: 46 :: b).getLast? = some 46):=by
  rintro (h1 | h1)
  ·simp at h1; exact hc h1
  ·have hb:=h.last
   cases b with
   | nil=>simp at hb
   | cons d l=>
    rw [List.getLast?_cons_cons,List.getLast?_cons_cons,hb] at h1
    cases h1
 rw [if_neg hl,if_pos h.dom]
theorem num7 {l:List Nat} (h:∀ c ∈ l,isCh c) : Numb (wrd (l ++ [46,55])) true:=by
 refine .yes l.length (by rw [wrd_size]; simp) (by rw [wrd_get]; simp [List.getD]) (by rw [wrd_get]; simp [List.getD,List.getElem?_append]; decide) (fun s hs ζ=>?_)
 rw [wrd_get]
 by_cases h1 : s + 1 < l.length
 ·have : (l ++ [46,55]).getD (s + 1) 0 = l.getD (s + 1) 0:=by simp [List.getD,List.getElem?_append_left h1]
  rw [this]
  have hm : l.getD (s + 1) 0 ∈ l:=by simp [List.getD,h1]
  rcases h _ hm with e | ⟨e1,e2⟩
  ·rw [e]; rfl
  ·generalize l.getD (s + 1) 0 = c at *
   unfold Sre.isDigit; simp; w_left
 ·have : s + 1 = l.length:=by w_left
  have : (l ++ [46,55]).getD (s + 1) 0 = 46:=by rw [this]; simp [List.getD]
  rw [this]; rfl
section
variable {w:World} {S0:Shared} {k:Nat} {c:Cx} {σ:St}
theorem udm_gen {x y:Str} {a b:List Nat} {na nb r:Bool} (hx:Txt.lower x = wrd a) (hy:Txt.lower y = wrd b) (la:a.length ≤ 1000) (lb:b.length ≤ 1000) (hna:Numb (wrd a) na) (hnb:Numb (wrd b) nb) (hr:udmB (wrd a) (wrd b) na nb = r) : FN w S0 (k + 2) 64 [.str x,.str y] (.bool r):=by
 have:=udm_ok (w:=w) (S0:=S0) (k:=k) (x:=x) (y:=y) (na:=na) (nb:=nb) (by rw [hx]; exact small_ok la) (by rw [hy]; exact small_ok lb) (by rw [hx]; exact hna) (by rw [hy]; exact hnb)
 rw [hx,hy,hr] at this
 exact this
theorem op_isnot {a b:Bool} : OP2 w S0 k (compareOp .IsNot) (.bool a) (.bool b) (.bool (!(a == b))):=fun ms A s x y f g hx hy=>by
 w_dflts hx; w_dflts hy
 exact wpAny_isNot_plain rfl ⟨by cases a <;> cases b <;> exact .bool _,krefl _⟩
theorem x7 : (".7":Str) = wrd [46,55]:=rfl
theorem xx : (".x":Str) = wrd [46,120]:=rfl
set_option maxHeartbeats 4000000 in
theorem holds_ok {host b:List Nat} (h:Whole host b) : FN w S0 (k + 3) 299 [.str (wrd host)] (.bool true):=by
 have hH:=h.hl
 have hch:=hH.ch
 have hsh:=h.short
 have hre:=h.reach
 obtain ⟨c0,hc0,he⟩:=h.eq
 have hbch : ∀ c ∈ b,isCh c:=fun c hc=>hch c (by rw [he]; simp [hc])
 have hbl : b.length ≤ 60:=by rw [he] at hsh; simp at hsh; w_left
 have hdch : ∀ c ∈ (46 :: b),isCh c:=fun c hc=>by
  rcases memc hc with rfl | hc
  ·exact .inl rfl
  ·exact hbch c hc
 have hbne : b ≠ []:=fun e=>by have:=h.last; rw [e] at this; cases this
 have hsuf : (46 :: b) <:+ host:=⟨[c0],by rw [he]; rfl⟩
 have hhd : host.head? ≠ some 46:=by rw [he]; simpa using hc0
 have ch7 : ∀ c ∈ host ++ [46,55],c < 128 ∧ lo1 c = c:=fun c hc=>by
  rcases mema hc with hc | hc
  ·exact isCh_low (hch c hc)
  ·rcases memc hc with rfl | hc
   ·decide
   ·rw [mem1 hc]; decide
 have chx : ∀ c ∈ host ++ [46,120],isCh c:=fun c hc=>by
  rcases mema hc with hc | hc
  ·exact hch c hc
  ·rcases memc hc with rfl | hc
   ·exact .inl rfl
   ·rw [mem1 hc]; exact .inr (by decide)
 have upH : Builtin.Str.tooLong (Txt.upper (wrd host)).length = false:=upper_small hH
 have upD : Builtin.Str.tooLong (Txt.upper (wrd (46 :: b))).length = false:=by
  rw [upper_host hdch]; exact small_ok (by simp; w_left)
 have noH:=Numb.no (noNum_host hch)
 have noD:=Numb.no (noNum_host hdch)
 have noB:=Numb.no (noNum_host hbch)
 have noX:=Numb.no (noNum_host chx)
 have n7 : Numb (wrd (host ++ [46,55])) true:=num7 hch
 have n77 : Numb (wrd [46,55]) true:=num7 (l:=[]) (fun c hc=>by cases hc)
 have u1 : FN w S0 (k + 2) 64 [.str (wrd host),.str (Txt.upper (wrd (46 :: b)))] (.bool true):=udm_gen (lower_host hch) (lowup_host hdch) (by w_left) (by simp; w_left) noH noD (by
  unfold udmB; rw [starts_dot,ends_iff]; simp only [Bool.or_self,Bool.false_eq_true,if_false,List.head?_cons,decide_true,if_true]; exact decide_eq_true hsuf)
 have u2 : FN w S0 (k + 2) 64 [.str (wrd host),.str (Txt.upper (wrd host))] (.bool true):=udm_gen (lower_host hch) (lowup_host hch) (by w_left) (by w_left) noH noH (by
  unfold udmB; rw [starts_dot,decide_eq_false hhd]; simp)
 have u3 : FN w S0 (k + 2) 64 [.str (wrd host),.str (wrd b)] (.bool false):=udm_gen (lower_host hch) (lower_host hbch) (by w_left) (by w_left) noH noB (by
  unfold udmB; rw [starts_dot,decide_eq_false h.head]
  simp only [Bool.or_self,Bool.false_eq_true,if_false]
  refine beq_eq_false_iff_ne.mpr fun e=>?_
  have:=congrArg List.length (wrd_inj e)
  rw [he] at this; simp only [List.length_cons] at this; w_left)
 have u4 : FN w S0 (k + 2) 64 [.str (wrd (host ++ [46,120])),.str (wrd (46 :: b))] (.bool false):=udm_gen (lower_host chx) (lower_host hdch) (by simp; w_left) (by simp; w_left) noX noD (by
  unfold udmB; rw [starts_dot,ends_iff]; simp only [Bool.or_self,Bool.false_eq_true,if_false,List.head?_cons,decide_true,if_true]
  refine decide_eq_false fun w0=>?_
  obtain ⟨t,e⟩:=w0
  have h1:=congrArg List.getLast? e
  have h2 : (t ++ 46 :: b).getLast? = some 108:=by
   rw [List.getLast?_append]
   have : (46 :: b).getLast? = some 108:=by
    cases b with
    | nil=>exact absurd rfl hbne
    | cons d l=>rw [List.getLast?_cons_cons]; exact h.last
   rw [this]; rfl
  rw [h2] at h1
  simp at h1)
 have u5 : FN w S0 (k + 2) 64 [.str (wrd (host ++ [46,55])),.str (wrd [46,55])] (.bool false):=udm_gen (lower_any ch7) (lower_any (by decide)) (by simp; w_left) (by simp) n7 n77 (by
  unfold udmB; simp only [Bool.or_self,if_true]
  refine beq_eq_false_iff_ne.mpr fun e=>?_
  have:=congrArg List.length (wrd_inj e)
  rw [he] at this; simp at this)
 have u6 : FN w S0 (k + 2) 64 [.str (wrd (host ++ [46,55])),.str (wrd (host.map up1 ++ [46,55]))] (.bool true):=udm_gen (lower_any ch7) (lower_up hch [46,55] (by decide)) (by simp; w_left) (by simp; w_left) n7 n7 (by
  unfold udmB; simp)
 refine FN.intro (ns:=["host"]) (K1_of (by rfl) (by rfl)) (by kernel_rfl) (args1 fun ζ=>rfl) (by rfl) (by decide) (by decide) rfl rfl rfl (fun X=>?_)
 ·refine EXs.assign (v:=.str (wrd (46 :: b))) (EV.callv (EV.glob (v:=.ref 71) (by kernel_rfl) (by rfl)) (EVL.ev (by rfl)) (.top (by kernel_rfl)) (hre ▸ reach_host hH)) (.inl (by rfl)) ?_
  refine EXs.assign (v:=.lst [.tup [.str (wrd host),.str (Txt.upper (wrd (46 :: b))),.bool true],.tup [.str (wrd host),.str (Txt.upper (wrd host)),.bool true],.tup [.str (wrd host),.str (wrd b),.bool false],.tup [.str (wrd (host ++ [46,120])),.str (wrd (46 :: b)),.bool false]])
   (EV.list (EVL.cons (EV.tuple (EVL.cons (EV.name (by rfl)) (EVL.cons (EV.meth (EV.name (v:=.str (wrd (46 :: b))) (by rfl)) rfl m_upper EVL.nil (op_upper upD)) (EVL.ev (by rfl)))))
    (EVL.cons (EV.tuple (EVL.cons (EV.name (by rfl)) (EVL.cons (EV.meth (EV.name (v:=.str (wrd host)) (by rfl)) rfl m_upper EVL.nil (op_upper upH)) (EVL.ev (by rfl)))))
    (EVL.cons (EV.tuple (EVL.cons (EV.name (by rfl)) (EVL.cons ?_ (EVL.ev (by rfl)))))
    (EVL.cons (EV.tuple (EVL.cons ?_ (EVL.ev (by rfl)))) EVL.nil))))) (.inl (by rfl)) ?_
  ·have hp:=pick_from (46 :: b) 1 (by simp)
   refine EV.eq (ev_sliceS (l:=some 1) (u:=none) (EV.name (v:=.str (wrd (46 :: b))) (by rfl)) EV.int rfl ?_) (congrArg V.str hp)
   rw [show (some (1:Int)) = some ((1:Nat) : Int) from rfl,hp,wrd_len]; unfold sizeLine; simp; w_left
  ·have:=op_addS (w:=w) (S0:=S0) (k:=k + 2) (a:=wrd host) (b:=".x") (by rw [wrd_len,xx,wrd_len]; unfold sizeLine; simp; w_left)
   rw [xx,wrd_app] at this
   exact EV.bin (EV.name (v:=.str (wrd host)) (by rfl)) EV.str this
  have h7 : OP2 w S0 (k + 2) (binaryOp .Add) (.str (wrd host)) (.str ".7") (.str (wrd (host ++ [46,55]))):=by
   have:=op_addS (w:=w) (S0:=S0) (k:=k + 2) (a:=wrd host) (b:=".7") (by rw [wrd_len,x7,wrd_len]; unfold sizeLine; simp; w_left)
   rwa [x7,wrd_app] at this
  have hu7 : OP2 w S0 (k + 2) (binaryOp .Add) (.str (Txt.upper (wrd host))) (.str ".7") (.str (wrd (host.map up1 ++ [46,55]))):=by
   have:=op_addS (w:=w) (S0:=S0) (k:=k + 2) (a:=Txt.upper (wrd host)) (b:=".7") (by rw [upper_host hch,wrd_len,x7,wrd_len]; unfold sizeLine; simp; w_left)
   rwa [upper_host hch,x7,wrd_app,← upper_host hch] at this
  have hdot : OP2 w S0 (k + 2) (binaryOp .Add) (.str (wrd host)) (.str ".") (.str (wrd (host ++ [46]))):=by
   have:=op_addS (w:=w) (S0:=S0) (k:=k + 2) (a:=wrd host) (b:=".") (by rw [wrd_len,dot_eq,wrd_len]; unfold sizeLine; simp; w_left)
   rwa [dot_eq,wrd_app] at this
  refine EXs.assign (EV.bin (EV.name (by rfl)) (EV.list (vs:=[.tup [.str (wrd (host ++ [46,55])),.str (wrd [46,55]),.bool false],.tup [.str (wrd (host ++ [46,55])),.str (wrd (host.map up1 ++ [46,55])),.bool true]]) (EVL.cons (EV.tuple (EVL.cons (EV.bin (EV.name (by rfl)) EV.str h7) (EVL.ev (by rfl))))
    (EVL.cons (EV.tuple (EVL.cons (EV.bin (EV.name (by rfl)) EV.str h7) (EVL.cons (EV.bin (EV.meth (EV.name (v:=.str (wrd host)) (by rfl)) rfl m_upper EVL.nil (op_upper upH)) EV.str hu7) (EVL.ev (by rfl))))) EVL.nil))) (op_addL (by exact Nat.le_of_ble_eq_true rfl))) (.inl (by rfl)) ?_
  refine EXs.assign (v:=.lst [.str (wrd (host ++ [46])),.str (wrd (host ++ [46,55])),.str (wrd [107,46,108])]) (EV.list (EVL.cons (EV.bin (EV.name (by rfl)) EV.str hdot) (EVL.cons (EV.bin (EV.name (by rfl)) EV.str h7) (EVL.ev (by rfl))))) (.inl (by rfl)) ?_
  have hlit : lightOk [] = true:=by decide +kernel
  have hlv : lightV [] = .tup [.flt 0,.flt 0,.int 0]:=rfl
  have r1 : FN w S0 (k + 2) 71 [.str (wrd (host ++ [46]))] (.str (wrd (host ++ [46]))):=by
   have hc : ∀ c ∈ host ++ [46],isCh c:=fun c hc=>by
    rcases mema hc with hc | hc
    ·exact hch c hc
    ·rw [mem1 hc]; exact .inl rfl
   have:=reach_host (w:=w) (S0:=S0) (k:=k) (l:=host ++ [46]) ⟨hc,by simp,by simp; w_left⟩
   have e : reachL (host ++ [46]) = host ++ [46]:=by
    unfold reachL
    split
    ·rfl
    ·rw [if_pos (.inr (by simp))]
   rwa [e] at this
  have r2 : FN w S0 (k + 2) 71 [.str (wrd (host ++ [46,55]))] (.str (wrd (host ++ [46,55]))):=by
   have:=reach_ok (w:=w) (S0:=S0) (k:=k) (h:=wrd (host ++ [46,55])) (by rw [wrd_size]; simp; w_left) (by rw [wrd_size]; simp) n7 (by
    have : (restOf (wrd (host ++ [46,55]))).length ≤ (wrd (host ++ [46,55])).length:=by
     unfold restOf strPick
     split
     ·exact Nat.le_refl _
     ·show (List.toArray _).size ≤ _
      rw [List.size_toArray]
      exact Nat.le_trans (List.length_filterMap_le _ _) (PyProof.Rows.indices_len_le _ _ _)
    rw [wrd_len] at this
    unfold sizeLine; simp at this; w_left)
   have e : reachS (wrd (host ++ [46,55])) true = wrd (host ++ [46,55]):=by
    unfold reachS
    split
    ·rfl
    ·rfl
   rwa [e] at this
  have r3 : FN w S0 (k + 2) 71 [.str (wrd [107,46,108])] (.str (wrd [107,46,108])):=by
   have:=reach_host (w:=w) (S0:=S0) (k:=k) (l:=[107,46,108]) ⟨fun c hc=>by
    rcases memc hc with rfl | hc
    ·exact .inr (by decide)
    ·rcases memc hc with rfl | hc
     ·exact .inl rfl
     ·rw [mem1 hc]; exact .inr (by decide),by decide,by decide⟩
   exact this
  refine EXs.ite (b:=false) (EVB.or2 (a:=false) ?_ (fun ζ=>?_) (fun h=>by cases h)) (fun h=>by cases h) (fun ζ=>?_)
  ·refine EVB.eq (EVB.cmp (EV.comp (cap:=[]) (f:=fun u=>some u) (.of [] rfl rfl (by rfl) rfl (.ev rfl)) (.of (EV.name (v:=.lst [.str (wrd (host ++ [46])),.str (wrd (host ++ [46,55])),.str (wrd [107,46,108])]) (by rfl)) ITER.lst) ?_ (by exact Nat.le_of_ble_eq_true rfl)) (EV.name (v:=.lst [.str (wrd (host ++ [46])),.str (wrd (host ++ [46,55])),.str (wrd [107,46,108])]) (by rfl)) (op_ne_lst (.cons (.str 0 _ _) (.cons (.str 0 _ _) (.cons (.str 0 _ _) (.nil 0)))))) (by simp)
   intro u hu L'
   obtain ⟨x,hx,rfl⟩ : ∃ x,FN w S0 (k + 2) 71 [.str x] (.str x) ∧ u = .str x:=by
    rcases memc hu with h | hu
    ·exact ⟨_,r1,h⟩
    ·rcases memc hu with h | hu
     ·exact ⟨_,r2,h⟩
     ·exact ⟨_,r3,mem1 hu⟩
   refine ⟨[("name",.str x)],Sub.nil,fun ζ ζ=>ASGL.name (by rfl),fun ζ=>EVT.nil,fun v hv ζ=>?_⟩
   w_dflts hv
   exact EV.callv (EV.glob (v:=.ref 71) (by kernel_rfl) (by rfl)) (EVL.ev (by rfl)) (.top (by kernel_rfl)) hx
  ·refine EVB.eq (EVB.cmp (EV.callv (vs:=[.lst (([] : List Int).map V.int)]) (EV.glob (v:=.ref 270) (by kernel_rfl) (by rfl)) (EVL.cons (EV.list EVL.nil) EVL.nil) (.top (by kernel_rfl)) (hlv ▸ light_ok [] hlit)) (EV.tuple (EVL.ev (by rfl))) (op_ne_tup (.cons (.flt_int 0 _ _) (.cons (.flt_int 0 _ _) (.cons (.int 0 _ _) (.nil 0)))))) (by decide +kernel)
  refine EXs.done ?_
  refine EXs.ret (EV.eq (EV.cmp (EV.comp (cap:=[]) (f:=fun ζ=>none) (.of [] rfl rfl (by rfl) rfl (.ev rfl)) (.of (EV.name (by rfl)) ITER.lst) ?_ (by exact Nat.le_of_ble_eq_true rfl)) (EV.list EVL.nil) (op_eqv (.lst (.nil 0)))) rfl) rfl
  intro u hu L'
  obtain ⟨x,y,r,hx,rfl⟩ : ∃ x y r,FN w S0 (k + 2) 64 [.str x,.str y] (.bool r) ∧ u = .tup [.str x,.str y,.bool r]:=by
   rcases memc hu with h | hu
   ·exact ⟨_,_,_,u1,h⟩
   rcases memc hu with h | hu
   ·exact ⟨_,_,_,u2,h⟩
   rcases memc hu with h | hu
   ·exact ⟨_,_,_,u3,h⟩
   rcases memc hu with h | hu
   ·exact ⟨_,_,_,u4,h⟩
   rcases memc hu with h | hu
   ·exact ⟨_,_,_,u5,h⟩
   exact ⟨_,_,_,u6,mem1 hu⟩
  refine ⟨[("ask",.tup [.str x,.str y,.bool r])],Sub.nil,fun ζ ζ=>ASGL.name (by rfl),fun ζ=>EVT.one (EVB.eq (EVB.cmp (EV.callv (vs:=[.str x,.str y]) (EV.glob (v:=.ref 64) (by kernel_rfl) (by rfl)) (EVL.cons (EV.sub (EV.name (v:=.tup [.str x,.str y,.bool r]) (by rfl)) rfl ⟨_,F.slot_tuple_getitem.lookup⟩ EV.int (op_itemT (by decide) (by decide) rfl)) (EVL.cons (EV.sub (EV.name (v:=.tup [.str x,.str y,.bool r]) (by rfl)) rfl ⟨_,F.slot_tuple_getitem.lookup⟩ EV.int (op_itemT (by decide) (by decide) rfl)) EVL.nil)) (.top (by kernel_rfl)) hx) (EV.sub (EV.name (v:=.tup [.str x,.str y,.bool r]) (by rfl)) rfl ⟨_,F.slot_tuple_getitem.lookup⟩ EV.int (op_itemT (v:=.bool r) (by decide) (by decide) rfl)) op_isnot) (by simp)),fun v hv ζ=>by cases hv⟩
end
end Mine.Internal
end
section
namespace Mine.Internal
noncomputable def pickI (ns:List Int) (p:Int) : List Int:=(sliceRange (sliceBounds (some p) none (some 3) ns.length).1 (sliceBounds (some p) none (some 3) ns.length).2.1 (sliceBounds (some p) none (some 3) ns.length).2.2).filterMap (ns[·]?)
theorem pickI_map (ns:List Int) (p:Int) : pickV (ns.map V.int) (some p) none (some 3) = (pickI ns p).map V.int:=by
 unfold pickV pickI
 rw [List.length_map]
 generalize sliceRange _ _ _ = is
 induction is with
 | nil=>rfl
 | cons i is ih=>
  cases h : ns[i]? with
  | none=>
   have e1 : (ns.map V.int)[i]? = none:=by rw [List.getElem?_map,h]; rfl
   rw [List.filterMap_cons_none e1,List.filterMap_cons_none h,ih]
  | some n=>
   have e1 : (ns.map V.int)[i]? = some (.int n):=by rw [List.getElem?_map,h]; rfl
   rw [List.filterMap_cons_some e1,List.filterMap_cons_some h,List.map_cons,ih]
noncomputable def fCell (ns:List Int) : V → Option V
 | .tup [.int p,.int f]=>some (.int (f + (pickI ns p).sum))
 | _=>none
section
variable {w:World} {S0:Shared} {k:Nat} {c:Cx} {σ:St}
set_option maxHeartbeats 1000000 in
theorem cells_ok (ns:List Int) (hl:ns.length ≤ 63) : FN w S0 (k + 1) 251 [.lst (ns.map V.int),.lst [.int 10572,.int 0,.int 90]] (.lst [.int (10572 + (pickI ns 0).sum),.int (0 + (pickI ns 1).sum),.int (90 + (pickI ns 2).sum)]):=by
 refine FN.intro (ns:=["script","firsts"]) (K1_of (by rfl) (by rfl)) (by kernel_rfl) (args2 fun ζ ζ=>rfl) (by rfl) (by decide) (by decide) rfl rfl rfl (fun X=>?_)
 ·refine EXs.ret (EV.eq (EV.comp (cap:=[("script",.lst (ns.map V.int)),("firsts",.lst [.int 10572,.int 0,.int 90])]) (f:=fCell ns) (vs:=enumV [.int 10572,.int 0,.int 90]) (.of ["script","firsts"] rfl rfl (by rfl) rfl (.ev rfl))
   (.enum (EV.boot (by kernel_rfl) (by rfl) (by rfl)) (EVL.ev (by rfl)) (by rfl) (by rfl)) ?_ (by exact Nat.le_of_ble_eq_true rfl)) rfl) rfl
  ·intro u hu L'
   obtain ⟨p,f,rfl⟩ : ∃ p f,u = .tup [.int p,.int f]:=by
    rcases memc hu with h | hu
    ·exact ⟨_,_,h⟩
    rcases memc hu with h | hu
    ·exact ⟨_,_,h⟩
    exact ⟨_,_,mem1 hu⟩
   refine ⟨[("first",.int f),("place",.int p),("script",.lst (ns.map V.int)),("firsts",.lst [.int 10572,.int 0,.int 90])],.ev rfl,fun ζ ζ=>ASGL.utup (ns:=[("place",_),("first",_)]) rfl (fun p hp=>?_),fun ζ=>EVT.nil,fun v hv ζ=>?_⟩
   ·simp only [List.mem_cons,List.not_mem_nil,or_false] at hp
    rcases hp with rfl | rfl <;> rfl
   ·w_dflts hv
    refine EV.bin (EV.name (v:=.int f) (by rfl)) (EV.callv (EV.boot (v:=.builtin "sum") (by kernel_rfl) (by rfl) (by rfl)) (vs:=[.lst ((pickI ns p).map V.int)]) (EVL.cons ?_ EVL.nil) .builtin op_sum) op_add
    rw [← pickI_map]
    exact ev_sliceL3 (l:=some p) (u:=none) (EV.name (v:=.lst (ns.map V.int)) (by rfl)) (EV.name (v:=.int p) (by rfl)) rfl (EV.callv (EV.boot (v:=.builtin "len") (by kernel_rfl) (by rfl) (by rfl)) (EVL.ev (vs:=[.lst [.int 10572,.int 0,.int 90]]) (by rfl)) .builtin (op_lenL (by decide))) (by decide) (by rw [List.length_map]; unfold sizeLine; w_left)
end
end Mine.Internal
end
section
namespace Mine.Internal
section
variable {w:World} {S0:Shared} {k:Nat} {c:Cx} {σ:St}
theorem EX.while {test:Expr} {body orelse:List Stmt} {pos:Pos} {Q:AF → St → Prop} {I:Nat → St → Prop} (n:Nat) (h0:I n σ)
  (turn:∀ m σ₁,I m σ₁ → ∃ b,EVB c k σ₁ test b ∧ (b = true → EXs c k σ₁ body (LoopQ (fun σ₃=>∃ m',m' < m ∧ I m' σ₃) Q)) ∧ (b = false → EXs c k σ₁ orelse Q)) : EX c k σ (.While test body orelse pos) Q:=by
 intro A s f r
 refine wpAny_While (codeAny_whileLoop (fun m s'=>∃ σ₁,I m σ₁ ∧ R c σ₁ s' ∧ Step c σ s σ₁ s') ?_ n ⟨σ,h0,r,.refl c σ s⟩)
 rintro m s' ⟨σ₁,hI,r₁,st₁⟩
 obtain ⟨b,ht,hy,hn⟩:=turn m σ₁ hI
 refine wpAny_mono (ht A s' f r₁) (fun b' s₂ w0=>?_) fun ζ ζ x=>x.elim
 obtain ⟨hb,k₂⟩:=w0
 subst hb
 have r₂:=r₁.keeps k₂
 have st₂:=st₁.trans (Step.of_keeps k₂)
 cases b' with
 | true=>
  refine wpAny_mono (hy rfl A s₂ f r₂) (fun fl s₃ w0=>?_) fun ζ ζ x=>x.elim
  obtain ⟨af,σ₃,hQ,r₃,hf,st₃⟩:=w0
  have st:=st₂.trans st₃
  cases af with
  | next=>cases fl with
   | next=>obtain ⟨m',h1,h2⟩:=hQ; exact ⟨m',h1,σ₃,h2,r₃,st⟩
   | _=>exact hf.elim
  | cont=>cases fl with
   | cont=>obtain ⟨m',h1,h2⟩:=hQ; exact ⟨m',h1,σ₃,h2,r₃,st⟩
   | _=>exact hf.elim
  | brk=>cases fl with
   | brk=>exact ⟨.next,σ₃,hQ,r₃,trivial,st⟩
   | _=>exact hf.elim
  | ret u=>cases fl with
   | ret y=>exact ⟨.ret u,σ₃,hQ,r₃,hf,st⟩
   | _=>exact hf.elim
 | false=>
  refine wpAny_mono (hn rfl A s₂ f r₂) (fun fl s₃ w0=>?_) fun ζ ζ x=>x.elim
  obtain ⟨af,σ₃,hQ,r₃,hf,st₃⟩:=w0
  exact ⟨af,σ₃,hQ,r₃,hf,st₂.trans st₃⟩
end
end Mine.Internal
end
section
namespace Mine.Internal
noncomputable def apTab : List UInt8:=[65,66,67,68,69,70,71,72,73,74,75,76,77,78,79,80]
noncomputable def val16 (ds:List Nat) : Nat:=ds.foldl (fun a d=>a * 16 + d) 0
noncomputable def apOf (d:Nat) : UInt8:=(65 + d).toUInt8
noncomputable def apB (ds:List Nat) : V:=.byt (ds.map apOf).toArray
theorem val16_snoc (ds:List Nat) (d:Nat) : val16 (ds ++ [d]) = val16 ds * 16 + d:=by unfold val16; simp
theorem val16_pos : ∀ (ds:List Nat) (a:Nat),0 < a → 0 < ds.foldl (fun a d=>a * 16 + d) a
 | [],a,h=>h
 | d :: ds,a,h=>by rw [List.foldl_cons]; exact val16_pos ds _ (by w_left)
theorem ap_pick : ∀ d : Nat,d < 16 → KBy.picked apTab.toArray (some (d:Int)) (some ((d:Int) + 1)) = #[apOf d]:=by decide +kernel
section
variable {w:World} {S0:Shared} {k:Nat} {c:Cx} {σ:St}
theorem op_abs {a:Int} : OPn w S0 k (fun xs=>call (.builtin "abs") xs) [.int a] (.int a.natAbs):=fun ms A s xs f g h=>by
 obtain ⟨x,rfl,hx⟩:=h.one
 w_dflts hx
 refine WPtk (call_abs_int fun u tk ht=>⟨?_,ktoks _ ht⟩)
 have : (a.natAbs:Int) = if a < 0 then -a else a:=ite_p (P:=fun x=>(a.natAbs:Int) = x) (fun h=>Int.ofNat_natAbs_of_nonpos (Int.le_of_lt h)) fun h=>Int.natAbs_of_nonneg (Int.not_lt.mp h)
 rw [this]; exact .int _ _
theorem op_int {a:Int} : OPn w S0 k (fun xs=>call (.type "int") xs) [.int a] (.int a):=fun ms A s xs f g h=>by
 obtain ⟨x,rfl,hx⟩:=h.one
 w_dflts hx
 exact call_int_int ⟨.int _ _,krefl _⟩
theorem op_divmod {a b:Int} (hb:b ≠ 0) (h2:b.natAbs < 1073741824) : OPn w S0 k (fun xs=>call (.builtin "divmod") xs) [.int a,.int b] (.tup [.int (a.fdiv b),.int (a.fmod b)]):=fun ms A s xs f g h=>by
 obtain ⟨x,y,rfl,hx,hy⟩:=h.two
 w_dflts hx; w_dflts hy
 refine divmod_int hb ⟨.tup (Heap.get?_push_size _ rfl) g.fresh (.cons (.int _ _) (.cons (.int _ _) .nil)),kpush _ _⟩ (.inl (PyProof.noPylong_small h2))
theorem op_addB {a b:Array UInt8} (h:a.size + b.size ≤ 16777216) : OP2 w S0 k (binaryOp .Add) (.byt a) (.byt b) (.byt (a ++ b)):=fun ms A s x y f g hx hy=>by
 w_dflts hx; w_dflts hy
 exact WPtk (KBy.add_bytes h fun t' k' ht=>⟨.byt _ _,ktoks _ ht⟩)
theorem ev_sliceB {e:Expr} {lo hi:Option Expr} {p pos:Pos} {l u:Option Int} {b:Array UInt8} (he:EV c k σ e (.byt b)) (hl:EVP c k σ lo l) (hu:EVP c k σ hi u) (hs:(KBy.picked b l u).size ≤ sizeLine)
  (ht:∀ o r,letTemporaryGo e o r = pure ():=by intro _ _; rfl) : EV c k σ (.Subscript e (.Slice lo hi none p) pos) (.byt (KBy.picked b l u)):=by
 intro A s f r
 refine wp_slice he rfl FB.slot_bytes_getitem.lookup hl hu f r (fun x vl vu s₃ k₃ r₃ hx hvl hvu=>?_) ht
 cases hx.inv with | mk t=>
 have k4 : Kp s₃ { s₃ with heap:=s₃.heap.push { cls:=.type "slice",data:=.fields #[vl,vu,.none] } }:=kpush _ _
 refine WPtk (getItem_meets (typeIs_bytes _ _ _) (by decide) FB.slot_bytes_getitem FB.entry_bytes_getitem (FB.args_bytes_getitem_2 _ _) (KBc.meets_slice2 b t _ hvl hvu) ⟨.new _ _ _ _,hs,fun t' k' ht=>⟨.byt _ _,ktrans k₃ (ktrans k4 (ktoks _ ht))⟩⟩)
set_option maxHeartbeats 1000000 in
theorem ap_ok {num:Int} {ds:List Nat} (hd:∀ d ∈ ds,d < 16) (hl:ds.length ≤ 30) (hn:num.natAbs = val16 (1 :: ds)) : FN w S0 (k + 1) 246 [.int num] (apB (1 :: ds)):=by
 refine FN.intro (ns:=["num"]) (K1_of (by rfl) (by rfl)) (by kernel_rfl) (args1 fun ζ=>rfl) (by rfl) (by decide) (by decide) rfl rfl rfl (fun X=>?_)
 ·refine EXs.assign (v:=.byt #[]) EV.byt (.inl (by rfl)) ?_
  refine EXs.assign (v:=.byt apTab.toArray) EV.byt (.inl (by rfl)) ?_
  refine EXs.assign (v:=.int num.natAbs) (EV.callv (EV.boot (v:=.type "int") (by kernel_rfl) (by rfl) (by rfl)) (EVL.cons (EV.callv (EV.boot (v:=.builtin "abs") (by kernel_rfl) (by rfl) (by rfl)) (EVL.ev (by rfl)) .builtin op_abs) EVL.nil) .type op_int) (.inl (by rfl)) ?_
  rw [hn]
  have h16 : ∀ d ∈ 1 :: ds,d < 16:=fun d h=>by
   rcases memc h with rfl | h
   ·decide
   ·exact hd d h
  have hlen : (1 :: ds).length ≤ 31:=by simp; w_left
  have hpos : ∀ j,0 < j → j ≤ (1 :: ds).length → 0 < val16 ((1 :: ds).take j):=fun j h1 h2=>by
   obtain ⟨i,rfl⟩ : ∃ i,j = i + 1:=⟨j - 1,by w_left⟩
   rw [List.take_succ_cons]
   show 0 < (ds.take i).foldl (fun a d=>a * 16 + d) (0 * 16 + 1)
   exact val16_pos _ _ (by decide)
  generalize 1 :: ds = D at *
  refine EXs.mcons (EX.while (I:=fun j σ=>j ≤ D.length ∧ σ.mu = [] ∧ σ.loc.lookup ("num":Str) = some (.int (val16 (D.take j))) ∧ σ.loc.lookup ("val":Str) = some (apB (D.drop j)) ∧ σ.loc.lookup ("AP":Str) = some (.byt apTab.toArray)) D.length ⟨Nat.le_refl _,rfl,by rw [List.take_length]; rfl,by rw [List.drop_length]; rfl,rfl⟩ ?_)
  rintro j σ₁ ⟨hj,hmu,h1,h2,h3⟩
  refine ⟨((val16 (D.take j) : Nat) : Int) != 0,EVB.val (EV.name h1) opt_int,fun hb=>?_,fun hb=>?_⟩
  ·have hj0 : 0 < j:=by
    rcases Nat.eq_zero_or_pos j with rfl | h
    ·simp [val16] at hb
    ·exact h
   obtain ⟨i,rfl⟩ : ∃ i,j = i + 1:=⟨j - 1,pred_succ (by w_left)⟩
   have hlt : i < D.length:=by w_left
   have hD : D.take (i + 1) = D.take i ++ [D[i]]:=by rw [List.take_add_one]; simp [hlt]
   have hdr : D.drop i = D[i] :: D.drop (i + 1):=List.drop_eq_getElem_cons hlt
   have hd16 : D[i] < 16:=h16 _ (List.getElem_mem hlt)
   rw [hD,val16_snoc] at h1
   refine EXs.assignT (σ':=(σ₁.set ("num":Str) (.int (val16 (D.take i)))).set ("mod":Str) (.int D[i])) (EV.callv (EV.boot (v:=.builtin "divmod") (by kernel_rfl) (by rfl) (by rfl)) (EVL.cons (EV.name h1) (EVL.cons EV.int EVL.nil)) .builtin (op_divmod (by decide) (by decide))) ?_ ?_
   ·have e1 : ((val16 (D.take i) * 16 + D[i] : Nat) : Int).fdiv 16 = val16 (D.take i):=by rw [Int.fdiv_eq_ediv_of_nonneg _ (by decide)]; w_left
    have e2 : ((val16 (D.take i) * 16 + D[i] : Nat) : Int).fmod 16 = D[i]:=by rw [Int.fmod_eq_emod_of_nonneg _ (by decide)]; w_left
    rw [e1,e2]
    exact ASG.utup (ns:=[("num",_),("mod",_)]) rfl (fun p hp=>.inl (by
     simp only [List.mem_cons,List.not_mem_nil,or_false] at hp
     rcases hp with rfl | rfl <;> rfl))
   ·have hv : apB (D.drop i) = .byt (#[apOf D[i]] ++ ((D.drop (i + 1)).map apOf).toArray):=by rw [hdr]; unfold apB; rw [List.map_cons]; congr 1; apply Array.toList_inj.mp; rw [Array.toList_append]; rfl
    refine EXs.assign (v:=apB (D.drop i)) ?_ (.inl (by rfl)) (EXs.nil ⟨i,Nat.lt_succ_self _,by w_left,hmu,rfl,rfl,h3⟩)
    rw [hv]
    refine EV.bin (EV.eq (ev_sliceB (l:=some (D[i] : Int)) (u:=some ((D[i] : Int) + 1)) (EV.name (v:=.byt apTab.toArray) h3) (EV.name (v:=.int D[i]) (by rfl)) (EV.bin (EV.name (v:=.int D[i]) (by rfl)) EV.int op_add) (by rw [ap_pick _ hd16]; show 1 ≤ sizeLine; decide)) (congrArg V.byt (ap_pick _ hd16))) (EV.name h2) (op_addB (by simp; w_left))
  ·have hj0 : j = 0:=by
    rcases Nat.eq_zero_or_pos j with h | h
    ·exact h
    ·have:=hpos j h hj
     simp at hb; w_left
   subst hj0
   refine EXs.nil ?_
   rw [List.drop_zero] at h2
   exact EXs.ret (EV.name h2) rfl
end
end Mine.Internal
end
section
namespace Mine.Internal
section
variable {w:World} {S0:Shared} {k:Nat} {c:Cx} {σ:St}
theorem put_plain {A:Around} {s:Shared} {a:Addr} {xs:Array Value} {n:Nat} {k:Int} {t:Tok} {v:Value} {Q:Unit → Shared → Prop} (ho:s.heap.get? a = some { cls:=.type "list",data:=.seq xs n }) (h0:0 ≤ k) (hj:k < xs.size) (hf:k < 2 ^ 63)
  (hQ:∀ h' m,h'.get? a = some { cls:=.type "list",data:=.seq (xs.setIfInBounds k.toNat v) m } → Heap.SameBut a s.heap h' → Q () { s with heap:=h' }) : WP w A (setItem (.ref a) (.int k t) v) Q s:=by
 have hT : s.TypeIs (.ref a) "list":=⟨_,ho,rfl⟩
 unfold setItem
 try with_reducible refine wpAny_holding ?_
 first | refine wpAny_bind (wpAny_pure ?_) | skip
 refine wpAny_bind (wpAny_sequenceKey hT (by decide) ?_)
 refine wpAny_bind (wpAny_callSpecial?_slot (name:=Str.ofString "__setitem__") hT slot_list_setitem (wpAny_call_entry slot_list_setitem hT entry_list_setitem ?_ (args_list_setitem _ _ _)))
 show wpAny _ _ (Builtin.List.listSubscript? (.int k t) >>= _) _ _ s
 refine wpAny_bind (wpAny_listSubscript_int (fitsIndex_of h0 hf) ?_)
 clear hf
 obtain ⟨j,rfl⟩:=Int.eq_ofNat_of_zero_le h0
 have hj : j < xs.size:=by w_left
 have hx : xs[j]? = some xs[j]:=Array.getElem?_eq_getElem hj
 show wpAny _ _ ((seqItemAt a j >>= fun r=>pure (r.map (j,·))) >>= _) _ _ s
 refine wpAny_bind (wpAny_bind (wpAny_seqItemAt ho rfl (wpAny_pure ?_)))
 rw [hx]
 show wpAny _ _ (setSeqItemAt a j v >>= _) _ _ s
 obtain ⟨m,hm⟩ : ∃ m,Obj.mapSeq (·.setIfInBounds j v) { cls:=.type "list",data:=.seq xs n } = ({ cls:=.type "list",data:=.seq (xs.setIfInBounds j v) m } : Obj):=⟨_,rfl⟩
 have fin:=hQ (s.heap.update a (Obj.mapSeq (·.setIfInBounds j v))) m (by rw [Heap.get?_update_self _ ho (by rw [hm]; rfl),hm]; rfl) (Heap.SameBut.update ..)
 refine wpAny_bind (wpAny_setSeqItemAt ho rfl ?_)
 first
  | exact wpAny_bind (wpAny_pure (wpAny_pure ⟨.none,rfl,wpAny_pure fin⟩))
  | exact wpAny_pure ⟨.none,rfl,wpAny_pure fin⟩
theorem ev_itemM {e i:Expr} {pos:Pos} {a:Addr} {vs:List V} {n:Int} {v:V} (he:EV c k σ e (.mob a)) (hm:σ.mu.lookup a = some (.list vs)) (hi:EV c k σ i (.int n)) (h0:0 ≤ n) (h1:n < 2 ^ 63) (hv:vs[n.toNat]? = some v) : EV c k σ (.Subscript e i pos) v:=by
 intro A s f r
 rw [eval_Subscript]
 refine wpAny_bind (WPmono (he A s f r) fun x s₁ ⟨hx,k₁⟩=>wpAny_bind (wpAny_holding (WPmono (hi A s₁ f (r.keeps k₁)) fun y s₂ ⟨hy,k₂⟩=>wpAny_bind (wpAny_standAt (wpAny_bind ?_)))))
 w_dflts hx
 cases hy.inv with | mk t=>
 have r₂:=(r.keeps k₁).keeps k₂
 obtain ⟨xs,m,ge,hr⟩:=r₂.at hm
 have hT : s₂.TypeIs (.ref a) "list":=⟨_,ge,rfl⟩
 obtain ⟨z,hz,hr'⟩:=hr.get hv
 rw [getitemInPython_of_ne hT.not_modules]
 refine wpAny_bind (wpAny_specialOf hT F.slot_list_getitem.lookup (wpAny_pure (wpAny_bind (subscripted_false i (.ref a) (.int n t) ?_))))
 exact wpAny_getItem_list ⟨_,ge,rfl,_,rfl⟩ h0 h1 (by simpa using hz) (wpAny_bind (wpAny_letTemporaryGo (wpAny_pure ⟨hr',ktrans k₁ k₂⟩)))
theorem EX.setItemL {d e ve:Expr} {sp pos:Pos} {j:Nat} {a:Addr} {vs:List V} {v:V} {Q:AF → St → Prop} (hv:EV c k σ ve v) (hd:EV c k σ d (.mob a)) (he:EV c k σ e (.int (j:Int))) (hm:σ.mu.lookup a = some (.list vs)) (hj:j < vs.length) (hf:(j:Int) < 2 ^ 63) (hQ:Q .next ⟨σ.loc,updM σ.mu a (.list (vs.set j v))⟩)
  (hs:swapsWith ve (some (.Subscript d e sp)) pos.line c.env = pure false:=by rfl) : EX c k σ (.Assign [.Subscript d e sp] ve pos) Q:=by
 intro A s f r
 refine wpAny_Assign_Subscript (WPmono (hv A s f r) fun z s₁ ⟨hz,k₁⟩=>WPmono (hd A s₁ f (r.keeps k₁)) fun dv s₂ w0=>?_) hs
 obtain ⟨hdv,k₂⟩:=w0
 have r₂:=(r.keeps k₁).keeps k₂
 refine WPmono (he A s₂ f r₂) fun iv s₃ w0=>?_
 obtain ⟨hiv,k₃⟩:=w0
 have r₃:=r₂.keeps k₃
 cases hdv
 cases hiv.inv with | mk t=>
 have hz':=(hz.keeps k₂).keeps k₃
 obtain ⟨xs,n,ge,hr⟩:=r₃.at hm
 refine put_plain ge (by (first | lia | omega)) (by rw [hr.size]; (first | lia | omega)) hf fun h' m ge' hs'=>?_
 have ch : Chg [a] s₃ { s₃ with heap:=h' }:=chg_same (tk:=s₃.toks) hs' ⟨_,ge'⟩ (Nat.le_refl _)
 have up:=ch.up (ms:=msOf c σ) fun b hb=>by rw [mem1 hb]; exact memL _ (.tail _ (lookup_adr hm))
 obtain ⟨r₄,st₄⟩:=r₃.upd (lookup_adr hm) ch (o:=.list (vs.set j v)) ⟨_,m,ge',by rw [Array.toList_setIfInBounds]; exact (hr.set hz' j).mono up ch.toks⟩
 exact ⟨.next,_,hQ,r₄,trivial,(Step.of_keeps (ktrans k₁ (ktrans k₂ k₃))).trans st₄⟩
end
end Mine.Internal
end
section
namespace Mine.Internal
section
variable {w:World} {S0:Shared} {k:Nat} {c:Cx} {σ:St}
noncomputable def RowAt (h:Heap) (b:Addr) (row:List Int) : Prop:=∃ xs n,h.get? b = some { cls:=.type "list",data:=.seq xs n } ∧ ∀ S ms s,VRs S ms s (row.map .int) xs.toList
noncomputable def NewRow (c:Cx) (k:Nat) (σ:St) (elt:Expr) (row:List Int) : Prop:=∀ A s,Fit k A → R c σ s → WP c.w A (eval elt c.env) (fun x s'=>∃ b,x = .ref b ∧ NewC s s' b ∧ RowAt s'.heap b row ∧ Kp s s') s
inductive TurnR (c:Cx) (k:Nat) (scope:Scope) (cl:List (Str × Addr)) (cap:List (Str × V)) (target:Expr) (elt:Expr) (row:List Int) (u:V) (C:Addr) : Prop
 | mk (l':List (Str × V)) (hs:Sub cap l') (ha:∀ out mu,ASGL (cx3 c scope cl C out) k ⟨cap,mu⟩ target u ⟨l',mu⟩) (he:∀ out mu,NewRow (cx3 c scope cl C out) k ⟨l',mu⟩ elt row) : TurnR c k scope cl cap target elt row u C
theorem ST.emitRow {wl:List Addr} {elt:Expr} {D:Addr} {ys:List V} {row:List Int} {P:St → Prop} (he:NewRow c k σ elt row) (hm:(adr σ.mu).Nodup → σ.mu.lookup D = some (.list ys)) (hsz:ys.length ≤ sizeLine) (hD:D ∈ wl) (hP:∀ B,(B :: adr σ.mu).Nodup → P ⟨σ.loc,updM ((B,.list (row.map .int)) :: σ.mu) D (.list (ys ++ [.mob B]))⟩) :
  ST c k σ wl (do let _ ← call (.builtin "list.append") [.ref D,← eval elt c.env]) P:=by
 intro A s f r
 refine wpAny_bind (WPmono (he A s f r) fun x s₂ h=>?_)
 obtain ⟨B,rfl,nB,hB,k₂⟩:=h
 obtain ⟨xs,n,ge,hx⟩:=hB
 obtain ⟨r₂,st₂⟩:=r.new (o:=.list (row.map .int)) k₂ nB ⟨xs,n,ge,hx _ _ _⟩
 have nd:=(ndc r₂.nd).2
 have h1:=hm (ndc nd).2
 exact wpAny_bind (r₂.append (a:=D) ((lk_tail fun q:D = B=>(ndc nd).1 (q ▸ lookup_adr h1)).trans h1) hsz (.mob B) fun s' r₃ st₃ ch=>wpAny_pure ⟨_,hP B nd,r₃,st₂.trans st₃,(Chg.of_kp k₂).trans (ch.sub fun b hb=>by rw [mem1 hb]; exact hD)⟩)
end
end Mine.Internal
end
section
namespace Mine.Internal
section
variable {w:World} {S0:Shared} {k:Nat} {c:Cx} {σ:St}
theorem R.newsW {wr:List Addr} {ps:List (Addr × MO)} {s s':Shared} (r:R c σ s) (kk:Kp s s') (nd:(wr ++ adr ps).Nodup) (n:∀ a ∈ wr ++ adr ps,NewC s s' a) (hm:∀ p ∈ ps,MR c.w c.S0 (msOf (c.wo (wr ++ c.out)) ⟨σ.loc,ps ++ σ.mu⟩) s' p.1 p.2) :
  R (c.wo (wr ++ c.out)) ⟨σ.loc,ps ++ σ.mu⟩ s' ∧ Step c σ s ⟨σ.loc,ps ++ σ.mu⟩ s':=by
 have hadr : adr (ps ++ σ.mu) = adr ps ++ adr σ.mu:=List.map_append
 have up : Up (msOf c σ) (msOf (c.wo (wr ++ c.out)) ⟨σ.loc,ps ++ σ.mu⟩) s s':=fun b o hb ζ e=>by
  refine ⟨fun q=>?_,kget kk e⟩
  rcases mema q with q | q
  ·rcases memc q with rfl | q
   ·exact hb (memL _ (.head _))
   ·rw [show (ps ++ σ.mu).map (·.1) = adr ps ++ adr σ.mu from hadr] at q
    rcases mema q with q | q
    ·exact (n b (memR _ q)).ne e
    ·exact hb (memL _ (.tail _ q))
  ·rcases mema q with q | q
   ·exact (n b (memL _ q)).ne e
   ·exact hb (memR _ q)
 have r':=r.keeps kk
 have hlt : ∀ a ∈ own c σ,∃ o,s.heap.get? a = some o:=fun a ha=>r.liveMs a (memL _ ha)
 obtain ⟨m,hm',hv⟩:=r.vars
 refine ⟨⟨r'.glob,r.eok,⟨m,hm'.keeps (kall kk),fun x v e=>(hv x v e).keeps (kall kk) fun y hy=>hy.mono up kk.t⟩,fun p hp=>⟨(r.cells p hp).1.imp (fun h=>memR _ h) id,(r'.cells p hp).2⟩,r.apart,fun p hp=>?_,?_,fun b hb q=>?_,fun a ha=>?_,fun b hb=>?_,r.clo⟩,⟨fun b o ζ ζ e=>kget kk e,fun b hb=>?_,fun b o e=>⟨o,kget kk e⟩,fun ζ=>?_,?_,kk.t⟩⟩
 ·rcases mema hp with hp | hp
  ·exact hm p hp
  ·exact (r.mu p hp).mono up kk.t fun o e=>kget kk e
 ·have h1:=r.nd
  show (c.env.locals :: (ps ++ σ.mu).map (·.1)).Nodup
  rw [show (ps ++ σ.mu).map (·.1) = adr ps ++ adr σ.mu from hadr]
  rw [List.nodup_cons] at h1 ⊢
  have h2:=(List.nodup_append.mp nd).2.1
  refine ⟨fun q=>?_,List.nodup_append.mpr ⟨h2,h1.2,fun a ha b hb q=>?_⟩⟩
  ·rcases mema q with q | q
   ·obtain ⟨o,e⟩:=hlt _ (.head _); exact (n _ (memR _ q)).ne e
   ·exact h1.1 q
  ·obtain ⟨o,e⟩:=hlt b (.tail _ hb); exact (n a (memR _ ha)).ne (q ▸ e)
 ·have hb' : b = c.env.locals ∨ b ∈ adr ps ∨ b ∈ adr σ.mu:=by
   rcases memc hb with h | h
   ·exact .inl h
   ·rw [show (ps ++ σ.mu).map (·.1) = adr ps ++ adr σ.mu from hadr] at h
    exact .inr (mema h)
  rcases mema q with q | q
  ·rcases hb' with rfl | h | h
   ·obtain ⟨o,e⟩:=hlt _ (.head _); exact (n _ (memL _ q)).ne e
   ·exact (List.nodup_append.mp nd).2.2 b q b h rfl
   ·obtain ⟨o,e⟩:=hlt b (.tail _ h); exact (n _ (memL _ q)).ne e
  ·rcases hb' with rfl | h | h
   ·exact r.disj _ (.head _) q
   ·obtain ⟨o,e⟩:=r.live _ q; exact (n b (memR _ h)).ne e
   ·exact r.disj _ (.tail _ h) q
 ·rcases mema ha with q | q
  ·exact (n a (memL _ q)).there
  ·exact r'.live a q
 ·rcases memc hb with rfl | h
  ·exact r.lo _ (.head _)
  ·rw [show (ps ++ σ.mu).map (·.1) = adr ps ++ adr σ.mu from hadr] at h
   rcases mema h with h | h
   ·have nb:=n b (memR _ h)
    refine ⟨Option.eq_none_iff_forall_ne_some.mpr fun o e=>?_,nb.hi⟩
    obtain ⟨o',e'⟩:=r.glob.old.there _ _ e; exact nb.ne e'
   ·exact r.lo _ (.tail _ h)
 ·rw [show (ps ++ σ.mu).map (·.1) = adr ps ++ adr σ.mu from hadr] at hb
  rcases mema hb with h | h
  ·exact .inr (n b (memR _ h)).none
  ·exact .inl h
 ·obtain ⟨⟨h',t,rfl,_⟩,_⟩:=kk; rfl
 ·obtain ⟨⟨h',t,rfl,_⟩,_⟩:=kk; rfl
theorem VRs.mobs {S:Shared} {ms:List Addr} {s:Shared} : ∀ (bs:List Addr),VRs S ms s (bs.map .mob) (bs.map .ref)
 | []=>.nil
 | b :: bs=>.cons (.mob b) (VRs.mobs bs)
noncomputable def rowsMu (bs:List Addr) (row:List Int) : List (Addr × MO):=bs.map fun b=>(b,MO.list (row.map .int))
theorem adr_rows (bs:List Addr) (row:List Int) : adr (rowsMu bs row) = bs:=by
 unfold rowsMu adr
 rw [List.map_map]
 exact List.map_id' bs
theorem look_app {X M:List (Addr × MO)} {D:Addr} {o:MO} (h:D ∉ adr X) : (X ++ (D,o) :: M).lookup D = some o:=by
 induction X with
 | nil=>exact lk_head
 | cons p X ih=>
  obtain ⟨b,o₁⟩:=p
  exact (lk_tail fun q:D = b=>h (q ▸ .head _)).trans (ih fun q=>h (.tail _ q))
theorem upd_app {X M:List (Addr × MO)} {D:Addr} {o o':MO} (h:D ∉ adr X) (h2:D ∉ adr M) : updM (X ++ (D,o) :: M) D o' = X ++ (D,o') :: M:=by
 show List.map _ (X ++ (D,o) :: M) = _
 rw [List.map_append]
 show updM X D o' ++ updM ((D,o) :: M) D o' = _
 rw [updM_none h,upd_cons h2]
inductive RowI (mu₀:List (Addr × MO)) (cap:List (Str × V)) (row:List Int) (D:Addr) (i:Nat) (σ':St) : Prop
 | mk (bs:List Addr) (hl:bs.length = i) (hm:σ'.mu = rowsMu bs.reverse row ++ (D,.list (bs.map .mob)) :: mu₀) (hs:Sub cap σ'.loc) : RowI mu₀ cap row D i σ'
theorem adr_rowI (bs:List Addr) (row:List Int) (D:Addr) (o:MO) (mu:List (Addr × MO)) : adr (rowsMu bs row ++ (D,o) :: mu) = bs ++ D :: adr mu:=by
 have : adr (rowsMu bs row ++ (D,o) :: mu) = adr (rowsMu bs row) ++ D :: adr mu:=List.map_append
 rw [this,adr_rows]
theorem EX_assignRows {elt target iter:Expr} {scope:Scope} {pos spos yp:Pos} {y:Str} {cl:List (Str × Addr)} {cap:List (Str × V)} {vs:List V} {row:List Int} {Q:AF → St → Prop}
  (hsw:swapsWith (.ListComp elt [⟨target,iter,[],0⟩] scope pos) (some (.Name y yp)) spos.line c.env = pure true)
  (hc:Cap3 c σ scope Option.none cl cap) (hsrc:SRC c k σ iter target vs) (ht:∀ u ∈ vs,∀ C,TurnR c k scope cl cap target elt row u C) (hsz:vs.length ≤ sizeLine) (hy:Stores c y)
  (hQ:∀ D bs,bs.length = vs.length → (D :: bs).Nodup → (∀ b ∈ D :: bs,b ∉ adr σ.mu) → Q .next (St.set ⟨σ.loc,(D,.list (bs.map .mob)) :: rowsMu bs row ++ σ.mu⟩ y (.mob D)))
  (hs:∀ x,foldedSetIterable iter c.env x = pure x:=by intro _; rfl) : EX c k σ (.Assign [.Name y yp] (.ListComp elt [⟨target,iter,[],0⟩] scope pos) spos) Q:=by
 intro A s ft r
 rw [exec_Assign_Name_used _ _ _ _ hsw]
 refine wpAny_bind (wpAny_standAt (wpAny_bind ?_))
 show WP c.w A (do let _ ← comprehension (.ListComp elt [⟨target,iter,[],0⟩] scope pos) scope c.env _ (newList []) false (eval iter c.env) (some (PySem.assign (.Name y yp) c.env))) _ s
 refine wpAny_bind (WPmono (wpAny_comprehension_free (use:=some (PySem.assign (.Name y yp) c.env)) (Q:=fun ζ s'=>∃ σ',Q .next σ' ∧ R c σ' s' ∧ Step c σ s σ' s') rfl hs hc.clos hc.kind hc.names
  (compG (p:=iter.pos) (I:=RowI σ.mu cap row) (body:=fun D env=>(do let _ ← call (.builtin "list.append") [.ref D,← eval elt env])) hc hsrc (fun J D env=>by rfl) (fun D=>⟨[],rfl,rfl,Sub.refl⟩) ?_ ft r ?_)) fun ζ s' h=>?_)
 ·intro C D K hCD hDn hK i v σ₁ hv hI out
  obtain ⟨l,mu⟩:=σ₁
  obtain ⟨bs,hl,hm,hsub⟩:=hI
  obtain rfl : mu = _:=hm
  obtain ⟨l',hl',ha,he⟩:=ht v (List.mem_of_getElem? hv) C
  have hi : bs.length ≤ vs.length:=by rw [hl]; exact Nat.le_of_lt (List.getElem?_eq_some_iff.mp hv).1
  refine ⟨⟨l',_⟩,true,.of_L (ha out _) hsub (.head _),.nil,fun ζ=>ST.emitRow (he out _) (fun nd=>look_app fun q=>?_) (by rw [List.length_map]; exact Nat.le_trans hi hsz) (.tail _ (.head _)) fun B nd=>⟨bs ++ [B],by rw [List.length_append,hl]; rfl,?_,hl'⟩,fun h=>by cases h⟩
  ·rw [adr_rows] at q
   rw [adr_rowI] at nd
   exact (List.nodup_append.mp nd).2.2 D q D (.head _) rfl
  ·rw [adr_rowI,← List.cons_append] at nd
   rw [List.reverse_append,List.map_append]
   exact upd_app (X:=rowsMu (B :: bs.reverse) row) (fun q=>by rw [adr_rows] at q; exact (List.nodup_append.mp nd).2.2 D q D (.head _) rfl) hDn
 ·intro D C s' m σ' out hI E
  obtain ⟨bs,hl,hm,_⟩:=hI
  rw [hm] at E
  have nd:=E.nd
  rw [adr_rowI] at nd
  obtain ⟨n1,n2⟩:=ndc nd
  obtain ⟨n3,n4,n5⟩:=List.nodup_append.mp n2
  have hadr : adr ((D,MO.list (bs.map .mob)) :: rowsMu bs row) = D :: bs:=congrArg (D :: ·) (adr_rows bs row)
  have hin : ∀ b ∈ D :: bs,b ∈ bs.reverse ++ D :: adr σ.mu:=fun b hb=>(memc hb).elim (fun e=>memR _ (e ▸ .head _)) fun h=>memL _ (List.mem_reverse.mpr h)
  have hnm : ∀ b ∈ D :: bs,b ∉ adr σ.mu:=fun b hb q=>(memc hb).elim (fun e=>(ndc n4).1 (e ▸ q)) fun h=>n5 b (List.mem_reverse.mpr h) b (.tail _ q) rfl
  have hnew : ∀ b ∈ D :: bs,NewC s s' b:=fun b hb=>(E.new b (by rw [adr_rowI]; exact hin b hb)).resolve_left (hnm b hb)
  have hnd : (D :: bs).Nodup:=ndk ⟨fun q=>n5 D (List.mem_reverse.mpr q) D (.head _) rfl,(List.reverse_perm bs).nodup_iff.mp n3⟩
  have up : Up ((C :: adr (rowsMu bs.reverse row ++ (D,.list (bs.map .mob)) :: σ.mu)) ++ out) (msOf (c.wo ([C] ++ c.out)) ⟨σ.loc,(D,.list (bs.map .mob)) :: rowsMu bs row ++ σ.mu⟩) s' s':=fun b o hb ζ e=>⟨fun q=>hb (by
   rw [adr_rowI]
   rcases mema q with q | q
   ·rcases memc q with q | q
    ·exact memR _ (E.ms b (.inl q))
    ·have q' : b ∈ (D :: bs) ++ adr σ.mu:=by rw [← hadr,← show adr (((D,MO.list (bs.map .mob)) :: rowsMu bs row) ++ σ.mu) = _ from List.map_append]; exact q
     refine memL _ (.tail _ ?_)
     rcases mema q' with q | q
     ·exact hin b q
     ·exact memR _ (.tail _ q)
   ·rcases memc q with q | q
    ·exact memL _ (q ▸ .head _)
    ·exact memR _ (E.ms b (.inr q))),e⟩
  obtain ⟨r',st'⟩:=r.newsW (wr:=[C]) (ps:=(D,.list (bs.map .mob)) :: rowsMu bs row) E.kp (by rw [hadr]; exact ndk ⟨fun q=>n1 (hin C q),hnd⟩) (fun a ha=>by
   rcases memc ha with rfl | ha
   ·exact E.nC
   ·rw [hadr] at ha; exact hnew a ha) (fun p hp=>(E.mr p (by
   rcases memc hp with rfl | hp
   ·exact memR _ (.head _)
   ·obtain ⟨b,hb,rfl⟩:=memm hp
    exact memL _ (List.mem_map.mpr ⟨b,List.mem_reverse.mpr hb,rfl⟩))).mono up (Nat.le_refl _) fun ζ e=>e)
  refine wpAny_mono (E.assign r r' (.mob D) st' hy) (fun ζ s'' w0=>?_) fun ζ ζ e=>e.elim
  obtain ⟨m,h1,h2⟩:=w0
  exact ⟨m,h1,fun h' hs'=>⟨_,hQ D bs hl hnd hnm,h2 h' hs'⟩⟩
 ·obtain ⟨σ',h1,h2,h3⟩:=h
  exact wpAny_pure (wpAny_pure ⟨.next,σ',h1,h2,trivial,h3⟩)
theorem VRs.intsAny {S:Shared} {ms:List Addr} {s:Shared} {row:List Int} {xs:List Value} (h:VRs S ms s (row.map .int) xs) (S':Shared) (ms':List Addr) (s':Shared) : VRs S' ms' s' (row.map .int) xs:=by
 induction row generalizing xs with
 | nil=>cases h; exact .nil
 | cons n row ih=>cases h with | cons h r=>cases h.inv with | mk t=>exact .cons (.int _ _) (ih r)
theorem NewRow.mk {es:List Expr} {row:List Int} {pos:Pos} (he:EVL c k σ es (row.map .int)) (hz:row.length ≤ sizeLine:=by exact Nat.le_of_ble_eq_true rfl) : NewRow c k σ (.List es pos) row:=by
 intro A s f r
 refine List_ (WPmono (he pos A s f r) fun xs s₁ w0=>?_)
 obtain ⟨hx,k₁⟩:=w0
 have r₁:=r.keeps k₁
 have k₂:=kpush (s:=s₁) { cls:=.type "list",data:=.seq xs.toArray } s₁.toks
 have n:=new_of (s':={ s₁ with heap:=s₁.heap.push { cls:=.type "list",data:=.seq xs.toArray } }) r₁.glob k₁ (Nat.le_refl _) ⟨_,Heap.get?_push_size _ rfl⟩
 refine wpAny_newObj_type ⟨s₁.heap.objs.size,rfl,n,⟨_,_,Heap.get?_push_size _ rfl,fun S' ms' s'=>hx.intsAny S' ms' s'⟩,ktrans k₁ k₂⟩ ?_
 show xs.toArray.size ≤ sizeLine
 rw [List.size_toArray,hx.length,List.length_map]; exact hz
end
end Mine.Internal
end
section
namespace Mine.Internal
noncomputable def zipMu (bs:List Addr) (T:List (List Int)) : List (Addr × MO):=List.zipWith (fun b r=>(b,MO.list (r.map V.int))) bs T
theorem rows_zip (row:List Int) : ∀ bs : List Addr,rowsMu bs row = zipMu bs (List.replicate bs.length row)
 | []=>rfl
 | b :: bs=>by
  show (b,_) :: rowsMu bs row = _
  rw [rows_zip row bs]; rfl
theorem adr_zip {bs:List Addr} {T:List (List Int)} (h:bs.length = T.length) : adr (zipMu bs T) = bs:=by
 induction bs generalizing T with
 | nil=>rfl
 | cons b bs ih=>cases T with
  | nil=>cases h
  | cons r T=>exact congrArg (b :: ·) (ih (Nat.succ.inj h))
theorem zipM_lookup : ∀ {bs:List Addr} {T:List (List Int)} {q:Nat} {b:Addr} {r:List Int},bs.Nodup → bs[q]? = some b → T[q]? = some r → (zipMu bs T).lookup b = some (.list (r.map .int))
 | b :: bs,r :: T,0,_,_,_,h1,h2=>by
  cases h1; cases h2
  show List.lookup b ((b,_) :: _) = _
  rw [List.lookup_cons,beq_self_eq_true]
 | a :: bs,t :: T,q + 1,b,r,nd,h1,h2=>by
  have hne : (b == a) = false:=by
   refine beq_eq_false_iff_ne.mpr fun e=>(ndc nd).1 ?_
   subst e
   exact List.mem_of_getElem? (by simpa using h1)
  show List.lookup b ((a,_) :: zipMu bs T) = _
  rw [List.lookup_cons,hne]
  exact zipM_lookup (ndc nd).2 (by simpa using h1) (by simpa using h2)
theorem zip_upd : ∀ {bs:List Addr} {T:List (List Int)} {q:Nat} {b:Addr} {r:List Int},bs.length = T.length → bs.Nodup → bs[q]? = some b → updM (zipMu bs T) b (.list (r.map .int)) = zipMu bs (T.set q r)
 | b :: bs,t :: T,0,_,r,hl,nd,h1=>by
  cases h1
  show (if b = b then (b,_) else (b,_)) :: updM (zipMu bs T) b _ = _
  rw [if_pos rfl,updM_none (by rw [adr_zip (by simpa using hl)]; exact (ndc nd).1)]; rfl
 | a :: bs,t :: T,q + 1,b,r,hl,nd,h1=>by
  have h1' : bs[q]? = some b:=by simpa using h1
  have hne : a ≠ b:=fun e=>(ndc nd).1 (e ▸ List.mem_of_getElem? h1')
  show (if a = b then _ else (a,_)) :: updM (zipMu bs T) b _ = _
  rw [if_neg hne,zip_upd (by simpa using hl) (ndc nd).2 h1']; rfl
section
variable {w:World} {S0:Shared} {k:Nat} {c:Cx} {σ:St} {rest:List Stmt} {Q:AF → St → Prop}
theorem zip_rows {S:Shared} {ms:List Addr} {s:Shared} {w:World} : ∀ {bs:List Addr} {T:List (List Int)},bs.length = T.length → (∀ p ∈ zipMu bs T,MR w S ms s p.1 p.2) → ∀ ms',(∀ b ∈ bs,b ∉ ms') → VRs S ms' s (T.map fun r=>.lst (r.map .int)) (bs.map .ref)
 | [],[],_,_,_,_=>.nil
 | b :: bs,r :: T,hl,h,ms',hm=>by
  obtain ⟨xs,n,e,hr⟩:=h _ (.head _)
  exact .cons (.lst e (hm b (.head _)) (hr.intsAny _ _ _)) (zip_rows (by simpa using hl) (fun p hp=>h p (.tail _ hp)) ms' fun b hb=>hm b (.tail _ hb))
theorem VRs.ofMobs {S:Shared} {ms:List Addr} {s:Shared} {bs:List Addr} {xs:List Value} (h:VRs S ms s (bs.map .mob) xs) : xs = bs.map .ref:=by
 induction bs generalizing xs with
 | nil=>cases h; rfl
 | cons b bs ih=>cases h with | cons h r=>cases h.inv; exact congrArg _ (ih r)
theorem R.freezeTab {s:Shared} {D:Addr} {bs:List Addr} {T:List (List Int)} {loc':List (Str × V)} (r:R c σ s) (hm:σ.mu = (D,.list (bs.map .mob)) :: zipMu bs T) (hlen:bs.length = T.length)
  (hl:∀ x v,loc'.lookup x = some v → σ.loc.lookup x = some v ∨ (σ.loc.lookup x = some (.mob D) ∧ v = .lst (T.map fun r=>.lst (r.map .int)))) : R c ⟨loc',[]⟩ s:=by
 have hadr : adr σ.mu = D :: bs:=by rw [hm]; show D :: adr (zipMu bs T) = _; rw [adr_zip hlen]
 have hsub : ∀ b ∈ msOf c ⟨loc',[]⟩,b ∈ msOf c σ:=fun b q=>by
  rcases mema q with q | q
  ·rcases memc q with q | q
   ·exact memL _ (q ▸ .head _)
   ·w_dflts q
  ·exact memR _ q
 have up : Up (msOf c σ) (msOf c ⟨loc',[]⟩) s s:=fun b o hb ζ e=>⟨fun q=>hb (hsub b q),e⟩
 have hout : ∀ b ∈ D :: bs,b ∉ msOf c ⟨loc',[]⟩:=fun b hb q=>by
  have hb' : b ∈ adr σ.mu:=by rw [hadr]; exact hb
  rcases mema q with q | q
  ·rcases memc q with q | q
   ·exact (ndc r.nd).1 (q ▸ hb')
   ·w_dflts q
  ·exact r.disj b (.tail _ hb') q
 obtain ⟨m,hm',hv⟩:=r.vars
 refine ⟨r.glob,r.eok,⟨m,hm',fun x v e=>?_⟩,r.cells,r.apart,fun p hp=>(by cases hp),?_,fun b hb q=>?_,r.live,fun b hb=>?_,r.clo⟩
 ·rcases hl x v e with h | ⟨h,rfl⟩
  ·exact (hv x v h).keeps (fun ζ ζ e=>e) fun y hy=>hy.mono up (Nat.le_refl _)
  ·refine (hv x _ h).keeps (fun ζ ζ e=>e) fun y hy=>?_
   w_dflts hy
   obtain ⟨xs,n,ge,hr⟩:=r.mu (D,.list (bs.map .mob)) (by rw [hm]; exact .head _)
   refine .lst ge (hout D (.head _)) ?_
   rw [hr.ofMobs]
   exact zip_rows hlen (fun p hp=>r.mu p (by rw [hm]; exact .tail _ hp)) _ fun b hb=>hout b (.tail _ hb)
 ·exact ndk ⟨fun q=>(by w_dflts q),.nil⟩
 ·rcases memc hb with rfl | hb
  ·exact r.disj _ (.head _) q
  ·cases hb
 ·rcases memc hb with rfl | hb
  ·exact r.lo _ (.head _)
  ·cases hb
theorem EXs.freezeTab {D:Addr} {bs:List Addr} {T:List (List Int)} {l':List (Str × V)} (hm:σ.mu = (D,.list (bs.map .mob)) :: zipMu bs T) (hlen:bs.length = T.length)
  (hl:∀ x v,l'.lookup x = some v → σ.loc.lookup x = some v ∨ (σ.loc.lookup x = some (.mob D) ∧ v = .lst (T.map fun r=>.lst (r.map .int)))) (h:EXs c k ⟨l',[]⟩ rest Q) : EXs c k σ rest Q:=fun A s f r=>
 WPmono (h A s f (r.freezeTab hm hlen hl)) fun fl s' ⟨af,σ',hQ,r',hf,st⟩=>⟨af,σ',hQ,r',hf,Step.weak (σ:=σ) (σ':=⟨l',[]⟩) (fun b hb=>by cases hb) st⟩
end
end Mine.Internal
end
section
namespace Mine.Internal
noncomputable def figP (first:Int) (p:Nat) : Int:=(first.fdiv (12 ^ (p - 1))).fmod 12
noncomputable def ent (T:List (List Int)) (i j:Nat) : Int:=(T.getD i []).getD j 0
noncomputable def putT (T:List (List Int)) (i j:Nat) (v:Int) : List (List Int):=T.set i ((T.getD i []).set j v)
noncomputable def rowIx (f:Int) (p:Nat) : Nat:=((f.fdiv 3).fmod p).toNat
noncomputable def tieOf (f:Int) (p o:Nat) (T:List (List Int)) : Int:=if ent T (rowIx f p) o = 3 then f.fmod 3 else ent T (rowIx f p) o
noncomputable def cellStep (first:Int) (p:Nat) (st:List (List Int) × Int) (o:Nat) : List (List Int) × Int:=
 let v:=(tieOf (figP first p) p o st.1 + st.2).fmod 3
 (putT (putT st.1 p o v) o p v,st.2.fdiv 3)
noncomputable def rowStep (first:Int) (st:List (List Int) × Int) (p:Nat) : List (List Int) × Int:=(List.range p).foldl (cellStep first p) st
noncomputable def tab0 : List (List Int):=List.replicate 5 [3,3,3,3,3]
noncomputable def tableS (first second:Int) (n:Nat) : List (List Int) × Int:=(List.range n).foldl (fun st i=>rowStep first st (i + 1)) (tab0,second)
noncomputable def tableF (first second:Int) : List (List Int):=(tableS first second 4).1
structure Shp (T:List (List Int)) : Prop where
 rows : T.length = 5
 cols : ∀ r ∈ T,r.length = 5
theorem Shp.get {T:List (List Int)} (h:Shp T) {i:Nat} (hi:i < 5) : T[i]? = some (T.getD i []) ∧ (T.getD i []).length = 5:=by
 have hi' : i < T.length:=by rw [h.rows]; exact hi
 have e : T[i]? = some T[i]:=List.getElem?_eq_getElem hi'
 have e2 : T.getD i [] = T[i]:=by simp [List.getD,e]
 rw [e2]
 exact ⟨e,h.cols _ (List.getElem_mem hi')⟩
theorem Shp.ent {T:List (List Int)} (h:Shp T) {i j:Nat} (hi:i < 5) (hj:j < 5) : (T.getD i [])[j]? = some (ent T i j):=by
 have hj' : j < (T.getD i []).length:=by rw [(h.get hi).2]; exact hj
 unfold Mine.Internal.ent
 generalize T.getD i [] = r at *
 simp [List.getD,List.getElem?_eq_getElem hj']
theorem Shp.put {T:List (List Int)} (h:Shp T) {i j:Nat} (hi:i < 5) (v:Int) : Shp (putT T i j v):=by
 refine ⟨by unfold putT; rw [List.length_set]; exact h.rows,fun r hr=>?_⟩
 rcases List.mem_or_eq_of_mem_set hr with hr | rfl
 ·exact h.cols r hr
 ·rw [List.length_set]; exact (h.get hi).2
theorem Shp.tab0 : Shp tab0:=⟨rfl,fun r hr=>by rw [List.eq_of_mem_replicate hr]; rfl⟩
section
variable {w:World} {S0:Shared} {k:Nat} {c:Cx} {σ:St} {rest:List Stmt} {Q:AF → St → Prop}
theorem mobs_get {bs:List Addr} {q:Nat} {b:Addr} (h:bs[q]? = some b) : (bs.map V.mob)[q]? = some (.mob b):=by rw [List.getElem?_map,h]; rfl
theorem ints_get {r:List Int} {q:Nat} {b:Int} (h:r[q]? = some b) : (r.map V.int)[q]? = some (.int b):=by rw [List.getElem?_map,h]; rfl
theorem tabD_lookup {D:Addr} {vs:List V} {mu:List (Addr × MO)} : ((D,MO.list vs) :: mu).lookup D = some (.list vs):=by rw [List.lookup_cons,beq_self_eq_true]
theorem tabB_lookup {D:Addr} {vs:List V} {bs:List Addr} {T:List (List Int)} {q:Nat} {b:Addr} {r:List Int} (nd:(D :: bs).Nodup) (h1:bs[q]? = some b) (h2:T[q]? = some r) : ((D,MO.list vs) :: zipMu bs T).lookup b = some (.list (r.map .int)):=by
 have hne : (b == D) = false:=by
  refine beq_eq_false_iff_ne.mpr fun e=>(ndc nd).1 ?_
  subst e
  exact List.mem_of_getElem? h1
 rw [List.lookup_cons,hne]
 exact zipM_lookup (ndc nd).2 h1 h2
theorem tab_upd {D:Addr} {vs:List V} {bs:List Addr} {T:List (List Int)} {q:Nat} {b:Addr} {r:List Int} (nd:(D :: bs).Nodup) (hl:bs.length = T.length) (h1:bs[q]? = some b) : updM ((D,MO.list vs) :: zipMu bs T) b (.list (r.map .int)) = (D,MO.list vs) :: zipMu bs (T.set q r):=by
 have hne : D ≠ b:=fun e=>(ndc nd).1 (e ▸ List.mem_of_getElem? h1)
 show (if D = b then _ else (D,_)) :: updM (zipMu bs T) b _ = _
 rw [if_neg hne,zip_upd hl (ndc nd).2 h1]
theorem ev_cell {t i j:Expr} {p1 p2:Pos} {D:Addr} {bs:List Addr} {T:List (List Int)} {a b:Int} (hm:σ.mu = (D,.list (bs.map .mob)) :: zipMu bs T) (nd:(D :: bs).Nodup) (hl:bs.length = 5) (hT:Shp T) (ht:EV c k σ t (.mob D)) (hi:EV c k σ i (.int a)) (hj:EV c k σ j (.int b)) (ha:0 ≤ a) (ha5:a < 5) (hb:0 ≤ b) (hb5:b < 5) :
  EV c k σ (.Subscript (.Subscript t i p1) j p2) (.int (ent T a.toNat b.toNat)):=by
 have hq : a.toNat < bs.length:=by rw [hl]; exact toNat_lt ha ha5
 have e1 : bs[a.toNat]? = some bs[a.toNat]:=List.getElem?_eq_getElem hq
 refine ev_itemM (a:=bs[a.toNat]) (vs:=(T.getD a.toNat []).map .int) (ev_itemM (vs:=bs.map .mob) ht (by rw [hm]; exact tabD_lookup) hi ha (by w_left) (mobs_get e1)) ?_ hj hb (by w_left) (ints_get (hT.ent (by w_left) (by w_left)))
 rw [hm]; exact tabB_lookup nd e1 (hT.get (by w_left)).1
theorem ex_cell {t i j ve:Expr} {p1 p2 pos:Pos} {D:Addr} {bs:List Addr} {T:List (List Int)} {a b:Nat} {v:Int} (hm:σ.mu = (D,.list (bs.map .mob)) :: zipMu bs T) (nd:(D :: bs).Nodup) (hl:bs.length = 5) (hT:Shp T) (hv:EV c k σ ve (.int v)) (ht:EV c k σ t (.mob D)) (hi:EV c k σ i (.int a)) (hj:EV c k σ j (.int b)) (ha5:a < 5) (hb5:b < 5)
  (hQ:Q .next ⟨σ.loc,(D,.list (bs.map .mob)) :: zipMu bs (putT T a b v)⟩) (hs:swapsWith ve (some (.Subscript (.Subscript t i p1) j p2)) pos.line c.env = pure false:=by rfl) : EX c k σ (.Assign [.Subscript (.Subscript t i p1) j p2] ve pos) Q:=by
 have hq : a < bs.length:=by w_left
 have e1 : bs[a]? = some bs[a]:=List.getElem?_eq_getElem hq
 refine EX.setItemL (a:=bs[a]) (j:=b) (vs:=(T.getD a []).map .int) (v:=.int v) hv (ev_itemM (n:=a) (vs:=bs.map .mob) ht (by rw [hm]; exact tabD_lookup) hi (by (first | lia | omega)) (by (first | lia | omega)) (mobs_get (by simp [e1]))) hj ?_ ?_ (by (first | lia | omega)) ?_ hs
 ·rw [hm]; exact tabB_lookup nd e1 (hT.get (by w_left)).1
 ·rw [List.length_map,(hT.get (by w_left)).2]; exact hb5
 ·rw [hm,← List.map_set,tab_upd nd (by rw [hl,hT.rows]) e1]
  exact hQ
theorem EXs_iteJ {test:Expr} {body orelse:List Stmt} {pos:Pos} {b:Bool} {σ':St} (h:EVB c k σ test b) (ht:b = true → EXs c k σ body fun af σ₁=>af = .next ∧ σ₁.mu = σ'.mu ∧ Sub σ'.loc σ₁.loc) (he:b = false → EXs c k σ orelse fun af σ₁=>af = .next ∧ σ₁.mu = σ'.mu ∧ Sub σ'.loc σ₁.loc) (hr:EXs c k σ' rest Q) : EXs c k σ (.If test body orelse pos :: rest) Q:=by
 have go : ∀ (af:AF) (σ₁:St),(af = .next ∧ σ₁.mu = σ'.mu ∧ Sub σ'.loc σ₁.loc) → Seq c k rest Q af σ₁:=fun af σ₁ ⟨h1,h2,h3⟩=>by
  subst h1
  obtain ⟨l,mu⟩:=σ'
  simp only at h2 h3
  subst h2
  exact EXs.norm h3 hr
 exact EXs.ite h (fun hb A s f r=>WPmono (ht hb A s f r) fun fl s' ⟨af,σ₁,hQ,h1,h2,h3⟩=>⟨af,σ₁,go af σ₁ hQ,h1,h2,h3⟩) (fun hb A s f r=>WPmono (he hb A s f r) fun fl s' ⟨af,σ₁,hQ,h1,h2,h3⟩=>⟨af,σ₁,go af σ₁ hQ,h1,h2,h3⟩)
theorem pow12 {i:Nat} (h:i < 4) : (12:Int) ^ i ≠ 0 ∧ ((12:Int) ^ i).natAbs < 1073741824:=
 (show ∀ i:Nat,i < 4 → (12:Int) ^ i ≠ 0 ∧ ((12:Int) ^ i).natAbs < 1073741824 by decide +kernel) i h
theorem size5 {i:Nat} (h:i ≤ 5) : Builtin.Range.rangeSize 0 (i:Int) 1 = (i:Int) ∧ Builtin.Range.small 0 (i:Int) 1 = true:=
 (show ∀ i:Nat,i < 6 → Builtin.Range.rangeSize 0 (i:Int) 1 = (i:Int) ∧ Builtin.Range.small 0 (i:Int) 1 = true by decide +kernel) i (Nat.lt_succ_of_le h)
theorem rngV_len (a c:Int) (n:Nat) : (rngV a c n).length = n:=by simp [rngV]
theorem rowIx_lt (f:Int) {p:Nat} (hp:0 < p) : rowIx f p < p ∧ (f.fdiv 3).fmod p = (rowIx f p:Int):=by
 unfold rowIx
 have h1:=Int.fmod_nonneg_of_pos (f.fdiv 3) (b:=(p:Int)) (by w_left)
 have h2:=Int.fmod_lt_of_pos (f.fdiv 3) (b:=(p:Int)) (by w_left)
 exact ⟨toNat_lt h1 h2,toNat_eq h1⟩
theorem Shp.step {st:List (List Int) × Int} (h:Shp st.1) (first:Int) {p o:Nat} (hp:p < 5) (ho:o < 5) : Shp (cellStep first p st o).1:=(h.put hp _).put ho _
theorem Shp.fold {first:Int} {p:Nat} (hp:p < 5) : ∀ {l:List Nat} {st:List (List Int) × Int},(∀ o ∈ l,o < 5) → Shp st.1 → Shp (l.foldl (cellStep first p) st).1
 | [],_,_,h=>h
 | o :: l,_,hl,h=>Shp.fold (l:=l) hp (fun x hx=>hl x (.tail _ hx)) (h.step first hp (hl o (.head _)))
theorem Shp.rowStep {first:Int} {p:Nat} {st:List (List Int) × Int} (hp:p < 5) (h:Shp st.1) : Shp (rowStep first st p).1:=Shp.fold hp (fun o ho=>by have:=List.mem_range.mp ho; w_left) h
theorem tableS_succ (first second:Int) (n:Nat) : tableS first second (n + 1) = rowStep first (tableS first second n) (n + 1):=by
 unfold tableS; rw [List.range_succ,List.foldl_append]; rfl
theorem Shp.tableS {first second:Int} : ∀ {n:Nat},n ≤ 4 → Shp (tableS first second n).1
 | 0,_=>.tab0
 | n + 1,h=>by rw [tableS_succ]; exact Shp.rowStep (by w_left) (Shp.tableS (by w_left))
theorem range_turn {a:Int} {n i:Nat} {v:V} (hv:(rngV a 1 n)[i]? = some v) : i < n ∧ v = .int (a + i):=by
 have hi : i < n:=by
  rw [List.getElem?_eq_some_iff] at hv; obtain ⟨h,_⟩:=hv; simpa [rngV] using h
 have:=rngV_get (a:=a) (c:=1) (n:=n) (i:=i) (by simpa [rngV] using hi)
 rw [this] at hv; w_dflts hv
 exact ⟨hi,by rw [Int.mul_one]⟩
set_option maxHeartbeats 4000000 in
theorem table_ok (first second:Int) : FN w S0 (k + 2) 256 [.int first,.int second] (tabV (tableF first second)):=by
 refine FN.intro (ns:=["first","second"]) (K1_of (by rfl) (by rfl)) (by kernel_rfl) (args2 fun ζ ζ=>rfl) (by rfl) (by decide) (by decide) rfl rfl rfl (fun X=>?_)
 ·refine .cons (EX_assignRows (cap:=[]) (row:=[3,3,3,3,3]) (by rfl) (.of [] rfl rfl (by rfl) rfl (.ev rfl)) (.range (vs:=[.int 5]) (n:=5) (EV.boot (by kernel_rfl) (by rfl) (by rfl)) (EVL.ev (by rfl)) (fun ms s A xs Q h hQ=>range1 h hQ) (by decide) (by decide +kernel) (fun ζ ζ=>rfl) (by rfl) (by rfl)) ?_ (by exact Nat.le_of_ble_eq_true rfl) (.inl (by rfl)) fun D bs hbl hnd ζ=>?_)
  ·intro u hu L'
   exact ⟨[("point",u)],Sub.nil,fun ζ ζ=>ASGL.name (by rfl),fun ζ ζ=>NewRow.mk (EVL.ev (by rfl))⟩
  ·have hb5 : bs.length = 5:=hbl
   show EXs _ _ _ _ _
   rw [rows_zip,hb5]
   show EXs _ _ (St.set ⟨_,(D,MO.list (bs.map V.mob)) :: (zipMu bs tab0 ++ [])⟩ _ _) _ _
   rw [List.append_nil]
   refine EXs.norm (l':=[("table",.mob D),("first",.int first),("second",.int second)]) (.ev rfl) ?_
   refine EXs.forS (fun i=>⟨[("table",.mob D),("first",.int first),("second",.int (tableS first second i).2)],(D,.list (bs.map .mob)) :: zipMu bs (tableS first second i).1⟩)
    (.range (vs:=[.int 1,.int 5]) (n:=4) (EV.boot (by kernel_rfl) (by rfl) (by rfl)) (EVL.ev (by rfl)) (fun ms s A xs Q h hQ=>range2 h hQ) (by decide) (by decide +kernel) (fun ζ ζ=>rfl) (by rfl) (by rfl)) rfl ?_ ?_
   ·intro i v hv out₁ Q1 hQ1
    obtain ⟨hi,rfl⟩:=range_turn hv
    have ei : (1 + (i:Int)) = ((i + 1:Nat) : Int):=by w_left
    rw [ei]
    rw [tableS_succ] at hQ1
    have hS:=Shp.tableS (first:=first) (second:=second) (n:=i) (by w_left)
    generalize Mine.Internal.tableS first second i = st at *
    refine ⟨_,ASG.name (.inl (by rfl)),?_⟩
    show EXs _ _ _ _ _
    refine EXs.assign (v:=.int (figP first (i + 1))) ?_ (.inl (by rfl)) ?_
    ·refine EV.bin (EV.bin (EV.name (v:=.int first) (by rfl)) (EV.bin (v:=.int (12 ^ i)) EV.int (EV.bin (EV.name (v:=.int ((i + 1:Nat) : Int)) (by rfl)) EV.int op_sub) ?_) ?_) EV.int (op_mod (by decide))
     ·have e3 : ((i + 1:Nat) : Int) - 1 = (i:Int):=by w_left
      rw [e3]
      refine op_pow (by w_left) ?_
      have : Builtin.Int.intBits 12 = 4:=by decide +kernel
      rw [this]; w_left
     ·exact op_fd (pow12 hi).1 (pow12 hi).2
    refine EXs.norm (l':=[("figure",.int (figP first (i + 1))),("point",.int ((i + 1:Nat) : Int)),("table",.mob D),("first",.int first),("second",.int st.2)]) (.ev rfl) ?_
    refine EXs.forS (fun j=>⟨[("figure",.int (figP first (i + 1))),("point",.int ((i + 1:Nat) : Int)),("table",.mob D),("first",.int first),("second",.int (((List.range j).foldl (cellStep first (i + 1)) st).2))],(D,.list (bs.map .mob)) :: zipMu bs ((List.range j).foldl (cellStep first (i + 1)) st).1⟩)
     (.range (vs:=[.int ((i + 1:Nat) : Int)]) (n:=i + 1) (EV.boot (by kernel_rfl) (by rfl) (by rfl)) (EVL.ev (by rfl)) (fun ms s A xs Q h hQ=>range1 h hQ) ?_ ?_ (fun ζ ζ=>rfl) (by rfl) (by rfl)) rfl ?_ ?_
    ·exact (size5 (by w_left)).1
    ·exact (size5 (by w_left)).2
    ·intro j v hv out₂ Q2 hQ2
     obtain ⟨hj,rfl⟩:=range_turn hv
     rw [Int.zero_add]
     have hS2 : Shp ((List.range j).foldl (cellStep first (i + 1)) st).1:=Shp.fold (by w_left) (fun o ho=>by have:=List.mem_range.mp ho; w_left) hS
     have e2 : (List.range (j + 1)).foldl (cellStep first (i + 1)) st = cellStep first (i + 1) ((List.range j).foldl (cellStep first (i + 1)) st) j:=by rw [List.range_succ,List.foldl_append]; rfl
     rw [e2] at hQ2
     clear e2
     generalize (List.range j).foldl (cellStep first (i + 1)) st = st₂ at *
     obtain ⟨T,sec⟩:=st₂
     dsimp only at hS2 hQ2
     dsimp only
     refine ⟨_,ASG.name (.inl (by rfl)),?_⟩
     show EXs _ _ _ _ _
     generalize hf : figP first (i + 1) = f at *
     obtain ⟨hq,hq2⟩:=rowIx_lt f (p:=i + 1) (by w_left)
     have hq2':=hq2
     refine EXs.assign (v:=.int (ent T (rowIx f (i + 1)) j)) ?_ (.inl (by rfl)) ?_
     ·refine EV.eq (ev_cell (a:=(f.fdiv 3).fmod ((i + 1:Nat) : Int)) (b:=(j:Int)) rfl hnd hb5 hS2 (EV.name (by rfl)) (EV.bin (EV.bin (EV.name (v:=.int f) (by rfl)) EV.int (op_fd (by decide) (by decide))) (EV.name (v:=.int ((i + 1:Nat) : Int)) (by rfl)) (op_mod (by w_left))) (EV.name (by rfl)) ?_ ?_ (by w_left) (by w_left)) ?_
      ·rw [hq2]; exact Int.natCast_nonneg _
      ·rw [hq2]; exact Int.ofNat_lt.mpr (Nat.lt_of_lt_of_le hq (Nat.succ_le_succ (Nat.le_of_lt hi)))
      ·rfl
     refine EXs_iteJ (σ':=⟨[("tie",.int (tieOf f (i + 1) j T)),("other",.int (j:Int)),("figure",.int f),("point",.int ((i + 1:Nat) : Int)),("table",.mob D),("first",.int first),("second",.int sec)],(D,.list (bs.map .mob)) :: zipMu bs T⟩) (b:=ent T (rowIx f (i + 1)) j == 3) (EVB.cmp (EV.name (v:=.int (ent T (rowIx f (i + 1)) j)) (by rfl)) EV.int op_eq) (fun h=>?_) (fun h=>?_) ?_
     ·refine EXs.assign (v:=.int (f.fmod 3)) (EV.bin (EV.name (v:=.int f) (by rfl)) EV.int (op_mod (by decide))) (.inl (by rfl)) (EXs.nil ⟨rfl,rfl,?_⟩)
      have : tieOf f (i + 1) j T = f.fmod 3:=by unfold tieOf; rw [if_pos (by simpa using h)]
      rw [this]
      exact .cons rfl (.ev rfl)
     ·refine EXs.nil ⟨rfl,rfl,?_⟩
      have : tieOf f (i + 1) j T = ent T (rowIx f (i + 1)) j:=by unfold tieOf; rw [if_neg (by simpa using h)]
      rw [this]
      exact .cons rfl (.ev rfl)
     ·generalize ht : tieOf f (i + 1) j T = t
      have hcs : cellStep first (i + 1) (T,sec) j = (putT (putT T (i + 1) j ((t + sec).fmod 3)) j (i + 1) ((t + sec).fmod 3),sec.fdiv 3):=by
       unfold cellStep; rw [hf,← ht]
      rw [hcs] at hQ2
      refine .cons (ex_cell (a:=i + 1) (b:=j) (v:=(t + sec).fmod 3) rfl hnd hb5 hS2 (EV.bin (EV.bin (EV.name (v:=.int t) (by rfl)) (EV.name (v:=.int sec) (by rfl)) op_add) EV.int (op_mod (by decide))) (EV.name (by rfl)) (EV.name (by rfl)) (EV.name (by rfl)) (by w_left) (by w_left) ?_)
      refine .cons (ex_cell (a:=j) (b:=i + 1) (v:=(t + sec).fmod 3) rfl hnd hb5 (hS2.put (by w_left) _) (EV.bin (EV.bin (EV.name (v:=.int t) (by rfl)) (EV.name (v:=.int sec) (by rfl)) op_add) EV.int (op_mod (by decide))) (EV.name (by rfl)) (EV.name (by rfl)) (EV.name (by rfl)) (by w_left) (by w_left) ?_)
      refine EXs.assign (v:=.int (sec.fdiv 3)) (EV.bin (EV.name (v:=.int sec) (by rfl)) EV.int (op_fd (by decide) (by decide))) (.inl (by rfl)) ?_
      refine EXs.norm (l':=[("figure",.int f),("point",.int ((i + 1:Nat) : Int)),("table",.mob D),("first",.int first),("second",.int (sec.fdiv 3))]) (.ev rfl) (EXs.nil hQ2)
    ·rw [rngV_len]
     exact EXs.norm (l':=[("table",.mob D),("first",.int first),("second",.int ((List.range (i + 1)).foldl (cellStep first (i + 1)) st).2)]) (.ev rfl) (EXs.nil hQ1)
   ·refine EXs.freezeTab (l':=[("table",tabV (tableF first second))]) rfl (by rw [hb5]; exact (Shp.tableS (by decide)).rows.symm) ?_ (EXs.ret (EV.name (v:=tabV (tableF first second)) (by rfl)) rfl)
    intro x v e
    rcases lookup_set e with ⟨rfl,rfl⟩ | ⟨_,e⟩
    ·exact .inr ⟨rfl,rfl⟩
    ·cases e
end
end Mine.Internal
end
section
namespace Mine.Internal
noncomputable def MO.clsOf : MO → Option (Addr × Addr)
 | .acc d _=>some (235,d)
 | .inst c d=>some (c,d)
 | _=>none
section
variable {w:World} {S0:Shared} {k:Nat} {c:Cx} {σ:St}
theorem lookIn_pairs {name:Str} {es:List DictEntry} {kvs:List (Str × Value)} (H:Pairs (PySem.strKind P0 w) es kvs) : (es.find? (·.key.isStr name)).map (·.val) = valueAt kvs name ∧ es.any (·.refKey) = false:=by
 induction H with
 | nil=>exact ⟨rfl,rfl⟩
 | @cons e kv _ _ h hv r ih=>
  obtain ⟨t,ht⟩:=Value.isStrOf_shape h
  obtain ⟨h1,h2⟩:=ih
  refine ⟨?_,?_⟩
  ·unfold valueAt at h1 ⊢
   rw [List.find?_cons,List.find?_cons]
   have : e.key.isStr name = decide (kv.1 = name):=by
    rw [ht]
    show (kv.1 == name) = _
    by_cases q : kv.1 = name
    ·rw [q]; simp
    ·simp [q]
   rw [this]
   cases decide (kv.1 = name)
   ·exact h1
   ·show some e.val = some kv.2
    rw [hv]
  ·rw [List.any_cons,h2,Bool.or_false]
   unfold DictEntry.refKey; rw [ht]
theorem lookIn_dict {h:Heap} {d:Addr} {kvs:List (Str × Value)} (D:h.DictOf (PySem.strKind P0 w) d kvs) : ∃ od,h.get? d = some od ∧ ∀ name,lookIn name od = some (valueAt kvs name):=by
 obtain ⟨o,es,ep,e,hx,hd,hk,hp,hn⟩:=D
 refine ⟨o,e,fun name=>?_⟩
 obtain ⟨h1,h2⟩:=lookIn_pairs (name:=name) hp
 unfold lookIn
 rw [hd]
 dsimp only
 cases hf : es.toList.find? (·.key.isStr name) with
 | none=>rw [hf] at h1; rw [← h1,h2]; rfl
 | some en=>rw [hf] at h1; rw [← h1]; rfl
structure Inst (w:World) (S0:Shared) (ms:List Addr) (s:Shared) (a C d:Addr) (kvs:List (Str × V)) (ox od:Obj) : Prop where
 at_ : InstAt s.heap a ox C (some od)
 dict : ox.dict = some d
 atd : s.heap.get? d = some od
 get : ∀ name v,getD kvs name = some v → ∃ y,lookIn name od = some (some y) ∧ VR S0 ms s v y
 miss : ∀ name,getD kvs name = none → lookIn name od = some none
theorem R.inst {s:Shared} {a C d:Addr} {o:MO} {kvs:List (Str × V)} (r:R c σ s) (h:σ.mu.lookup a = some o) (hc:o.clsOf = some (C,d)) (hd:σ.mu.lookup d = some (.dict kvs)) : ∃ ox od,Inst c.w c.S0 (msOf c σ) s a C d kvs ox od:=by
 obtain ⟨kvals,D,hV⟩:=r.at hd
 obtain ⟨od,e,hl⟩:=lookIn_dict D
 have hg : ∀ name v,getD kvs name = some v → ∃ y,lookIn name od = some (some y) ∧ VR c.S0 (msOf c σ) s v y:=fun name v q=>by
  obtain ⟨y,h1,h2⟩:=(hV.get (x:=name)).1 v q
  exact ⟨y,by rw [hl,h1],h2⟩
 have hm : ∀ name,getD kvs name = none → lookIn name od = some none:=fun name q=>by rw [hl,(hV.get (x:=name)).2 q]
 cases o with
 | acc d' vs=>
  cases hc
  obtain ⟨xs,n,g,_⟩:=r.at h
  exact ⟨_,od,⟨g,rfl,rfl,e⟩,rfl,e,hg,hm⟩
 | inst C' d'=>
  cases hc
  exact ⟨_,od,⟨r.at h,rfl,rfl,e⟩,rfl,e,hg,hm⟩
 | list vs=>cases hc
 | dict vs=>cases hc
noncomputable def V.made : V → Bool
 | .val _=>false
 | _=>true
theorem VR.handed {S:Shared} {ms:List Addr} {s:Shared} {v:V} {y:Value} (h:VR S ms s v y) (hv:v.made = true) : handedIn y = true:=by
 cases h <;> first | rfl | w_dflts hv
theorem ev_attr {e:Expr} {name:Str} {pos:Pos} {a C d:Addr} {o:MO} {kvs:List (Str × V)} {v:V} (he:EV c k σ e (.mob a)) (h:σ.mu.lookup a = some o) (hc:o.clsOf = some (C,d)) (hd:σ.mu.lookup d = some (.dict kvs)) (hv:getD kvs name = some v) (hm:v.made = true)
  (hga:findIn (K1 c.w) (.ref C) "__getattribute__" = some (some (.builtin "object.__getattribute__"))) (hn:findIn (K1 c.w) (.ref C) name = some none) (hh:(clsIn (K1 c.w) C).any (·.hasDict) = true)
  (hx:eval (.Attribute e name pos) c.env = (do
   let o ← eval e c.env
   standAt pos.atName
   let r ← holding [o] (getAttr o name true)
   letTemporaryGo e o r
   pure r):=by rfl) : EV c k σ (.Attribute e name pos) v:=by
 intro A s f r
 refine Attribute_any_ (WPmono (he A s f r) fun x s₁ w0=>?_) hx
 obtain ⟨hx,k₁⟩:=w0
 w_dflts hx
 have r₁:=r.keeps k₁
 obtain ⟨ox,od,I⟩:=r₁.inst h hc hd
 obtain ⟨y,hy,hr⟩:=I.get name v hv
 obtain ⟨cd,hcd,hD⟩:=any_some hh
 refine get_value r₁.glob.X1 I.at_ hga ?_ (hr.handed hm) ⟨hr.keeps (ktoks _),ktrans k₁ (ktoks _)⟩
 unfold findObj W.ownOf
 rw [hcd,Option.bind_some,hn,Option.bind_some,Option.bind_some,Option.bind_some]
 simp only [hD,if_true,hy,Option.bind_some]
noncomputable abbrev msC (c:Cx) : List Addr:=c.env.locals :: c.out
theorem mem_msC {c:Cx} {mu:List (Addr × MO)} {loc:List (Str × V)} {a:Addr} : a ∈ adr mu ++ msC c ↔ a ∈ msOf c ⟨loc,mu⟩:=by
 show a ∈ adr mu ++ (c.env.locals :: c.out) ↔ a ∈ (c.env.locals :: adr mu) ++ c.out
 simp only [List.mem_append,List.mem_cons]
 constructor
 ·rintro (h | h | h)
  ·exact .inl (.inr h)
  ·exact .inl (.inl h)
  ·exact .inr h
 ·rintro ((h | h) | h)
  ·exact .inr (.inl h)
  ·exact .inl h
  ·exact .inr (.inr h)
theorem R.gm {s:Shared} (r:R c σ s) : GM c.w c.S0 (msC c) σ.mu s:=by
 have up : Up (msOf c σ) (adr σ.mu ++ msC c) s s:=fun b o hb ζ e=>⟨fun q=>hb (mem_msC.mp q),e⟩
 refine ⟨r.glob,fun a ha=>?_,fun p hp=>(r.mu p hp).mono up (Nat.le_refl _) fun o e=>e,(ndc r.nd).2,fun a ha q=>?_,fun a ha=>r.lo a (.tail _ ha)⟩
 ·rcases memc ha with rfl | h
  ·exact r.liveMs _ (memL _ (.head _))
  ·exact r.live a h
 ·rcases memc q with rfl | h
  ·exact (ndc r.nd).1 ha
  ·exact r.disj a (.tail _ ha) h
noncomputable def Sane (c:Cx) : Prop:=(!c.gen || c.env.cells.all fun p=>c.env.kindOf p.1 == some .cell || (p.2 != 197 && p.2 != 204)) = true
theorem Sane.gk {s:Shared} (h:Sane c) (r:R c σ s) {p:Str × Addr} (hp:p ∈ c.env.cells) (o:Obj) : Gk c.gen p.2 o:=fun hg q=>by
 unfold Sane at h
 rw [hg,Bool.not_true,Bool.false_or,List.all_eq_true] at h
 have:=h p hp
 rw [Bool.or_eq_true] at this
 rcases this with h1 | h1
 ·exact (r.clo p hp (by simpa using h1)).gk true o rfl q
 ·simp only [Bool.and_eq_true,bne_iff_ne,ne_eq] at h1
  rcases q with q | q
  ·exact absurd q h1.1
  ·exact absurd q h1.2
theorem R.after (hs:Sane c) {s s':Shared} {mu':List (Addr × MO)} (r:R c σ s) (g:GM c.w c.S0 (msC c) mu' s') (st:StepM c.gen σ.mu s mu' s') : R c ⟨σ.loc,mu'⟩ s' ∧ Step c σ s ⟨σ.loc,mu'⟩ s':=by
 have hlo:=r.lo
 have nl : c.env.locals ∉ adr σ.mu:=(ndc r.nd).1
 have fr : ∀ b o,s.heap.get? b = some o → b ∈ adr mu' → b ∈ adr σ.mu:=fun b o e h=>by
  rcases st.fresh b h with h | h
  ·exact h
  ·rw [e] at h; cases h
 have up : Up (msOf c σ) (msOf c ⟨σ.loc,mu'⟩) s s':=fun b o hb hc e=>by
  refine ⟨fun q=>hb ?_,st.kept b o (fun q=>hb (memL _ (.tail _ q))) (fun ζ ζ=>hc) e⟩
  rcases mema q with q | q
  ·rcases memc q with q | q
   ·exact memL _ (q ▸ .head _)
   ·exact memL _ (.tail _ (fr b o e q))
  ·exact memR _ q
 have lok : ∀ b,Lo c.S0 b → ∀ o,b ∉ adr σ.mu → s.heap.get? b = some o → s'.heap.get? b = some o:=fun b hb o hn e=>st.kept b o hn (hb.gk _ o) e
 obtain ⟨m,hm,hv⟩:=r.vars
 have hcn : ∀ p ∈ c.env.cells,p.2 ∉ adr σ.mu:=fun p hp q=>by
  rcases (r.cells p hp).1 with h | ⟨_,o,h⟩
  ·exact r.disj _ (.tail _ q) h
  ·have:=(r.lo _ (.tail _ q)).1; rw [h] at this; cases this
 have hcc : ∀ p ∈ c.env.cells,∀ v,s.heap.IsCell p.2 v → s'.heap.IsCell p.2 v:=fun p hp v ⟨o,e1,e2⟩=>⟨o,st.kept _ o (hcn p hp) (hs.gk r hp o) e1,e2⟩
 refine ⟨⟨g.glob,r.eok,⟨m,hm.at' fun o e=>lok _ (r.lo _ (.head _)) o nl e,fun x v e=>?_⟩,fun p hp=>⟨(r.cells p hp).1,?_⟩,r.apart,fun p hp=>(g.muok p hp).mono (fun b o hb ζ e=>⟨fun q=>hb (mem_msC.mpr q),e⟩) (Nat.le_refl _) fun o e=>e,?_,fun a ha q=>?_,fun a ha=>?_,fun a ha=>?_,r.clo⟩,?_⟩
 ·rcases hv x v e with ⟨hk,y,h1,hr⟩ | ⟨hk,b,y,hb,hc,hr⟩
  ·exact .inl ⟨hk,y,h1,hr.mono up st.toks⟩
  ·exact .inr ⟨hk,b,y,hb,hcc _ (mem_of_lookup hb) _ hc,hr.mono up st.toks⟩
 ·obtain ⟨v,h⟩:=(r.cells p hp).2
  exact ⟨v,hcc p hp v h⟩
 ·exact ndk ⟨fun q=>g.disj _ q (.head _),g.nd⟩
 ·rcases memc ha with rfl | ha
  ·exact r.disj _ (.head _) q
  ·exact g.disj a ha (.tail _ q)
 ·exact g.live a (.tail _ ha)
 ·rcases memc ha with rfl | ha
  ·exact r.lo _ (.head _)
  ·exact g.lo a ha
 ·exact ⟨fun b o hb hg e=>st.kept b o (fun q=>hb (memL _ (.tail _ q))) hg e,st.fresh,st.there,st.gens,st.drawn,st.toks⟩
theorem EM.methI {o:Expr} {name:Str} {apos pos:Pos} {es:List Expr} {a C d f:Addr} {ob:MO} {kvs:List (Str × V)} {vs:List V} {Q:V → St → Prop} {P:V → List (Addr × MO) → Prop} (ho:EV c k σ o (.mob a)) (h:σ.mu.lookup a = some ob) (hc:ob.clsOf = some (C,d)) (hd:σ.mu.lookup d = some (.dict kvs)) (hn:getD kvs name = Option.none)
  (ha:EVL c k σ es vs) (hF:FNM c.w c.S0 k c.gen (fun xs=>call (.ref f) xs) (.mob a :: vs) σ.mu P) (hQ:∀ v mu',P v mu' → Q v ⟨σ.loc,mu'⟩)
  (hga:findIn (K1 c.w) (.ref C) "__getattribute__" = some (some (.builtin "object.__getattribute__"))) (hk:findIn (K1 c.w) (.ref C) "__getattr__" = some Option.none) (hf:findIn (K1 c.w) (.ref C) name = some (some (.ref f))) (ht:typeIn (K1 c.w) (.ref f) = some (.type "function")) (hcal:keepIn (K1 c.w) (.ref f) = true)
  (hs:Sane c:=by rfl)
  (he:∃ pl,eval (.Call (.Attribute o name apos) es [] pos) c.env = (do
   let ov ← eval o c.env
   standAt apos.atName
   let (f,first) ← holding [ov] (getMethod ov name pl)
   callWith pos f first (backTo pos (starEach es c.env)) []):=by exact ⟨_,rfl⟩) (hp:(starEach es c.env).any (·.1) = false:=by rfl) : EM c k σ (.Call (.Attribute o name apos) es [] pos) Q:=by
 intro A s ft r
 obtain ⟨pl,he⟩:=he
 refine MethodCall_ (WPmono (ho A s ft r) fun x s₁ w0=>?_) he
 obtain ⟨hx,k₁⟩:=w0
 w_dflts hx
 have r₁:=r.keeps k₁
 obtain ⟨ox,od,I⟩:=r₁.inst h hc hd
 refine method_fn r₁.glob.X1 I.at_ hga hk hf ht ?_ ?_
 ·show (lookIn name od).map (·.isSome) = some false
  rw [I.miss name hn]; rfl
 refine callWith_of (P:=fun h=>∃ s',s'.heap = h ∧ Glob c.w c.S0 s') (by rw [plainArgs hp]; rfl) (fun h ⟨s',e,g⟩=>e ▸ Callee.top hcal s' g) ?_
 refine wp_evalArgs (plainArgs hp) (WPmono (ha pos A s₁ ft r₁) fun xs s₂ w0=>?_)
 obtain ⟨hxs,k₂⟩:=w0
 have r₂:=r₁.keeps k₂
 refine ⟨⟨s₂,rfl,r₂.glob⟩,?_⟩
 have hxs' : VRs c.S0 (adr σ.mu ++ msC c) s₂ (.mob a :: vs) (.ref a :: xs):=.cons (.mob a) (hxs.mono (fun b o hb ζ e=>⟨fun q=>hb (mem_msC.mp q),e⟩) (Nat.le_refl _))
 refine WPmono (hF (msC c) A s₂ _ ft r₂.gm hxs') fun z s₃ w0=>?_
 obtain ⟨v,mu',hP,g,hz,st⟩:=w0
 obtain ⟨r₃,st₃⟩:=r₂.after hs g st
 exact ⟨v,_,hQ v mu' hP,r₃,hz.mono (fun b o hb ζ e=>⟨fun q=>hb (mem_msC.mpr q),e⟩) (Nat.le_refl _),(Step.of_keeps (ktrans k₁ k₂)).trans st₃⟩
end
end Mine.Internal
end
section
namespace Mine.Internal
section
variable {w:World} {S0:Shared} {k:Nat} {c:Cx} {σ:St}
theorem isStr_is {x:Str} {v:Value} : v.isStr x = Value.isStrOf x v:=by cases v <;> rfl
theorem put_pairs {s:Shared} {d:Addr} {kvs:List (Str × Value)} {x:Str} {t:Tok} {v:Value} {od:Obj} (D:s.heap.DictOf (PySem.strKind P0 w) d kvs) (e:s.heap.get? d = some od) :
  (s.heap.update d (Obj.putName x (PySem.hashStr w x) (.str x t) v)).DictOf (PySem.strKind P0 w) d (stored kvs x v) ∧ ∃ es n,od.data = .dict es n ∧ es.size = kvs.length ∧ es.toList.any (·.refKey) = false ∧ ∃ es' n',(Obj.putName x (PySem.hashStr w x) (.str x t) v od).data = .dict es' n' ∧ es'.size ≤ kvs.length + 1:=by
 obtain ⟨o,es,ep,ho,hc,hd,hk,hp,hn⟩:=D
 rw [e] at ho; cases ho
 have hkey : (PySem.strKind P0 w).is x (.str x t) = true:=by simp [PySem.strKind,Value.isStrOf]
 have hlen : es.size = kvs.length:=by rw [← hp.length]; simp
 obtain ⟨oc,odi,oda,osl⟩:=od
 dsimp only at hd
 subst hd
 have hfun : (fun en:DictEntry=>en.key.isStr x) = fun en=>(PySem.strKind P0 w).is x en.key:=by funext en; exact isStr_is
 have hidx : (es.findIdx? fun e=>(PySem.strKind P0 w).is x e.key) = kvs.findIdx? fun kv=>decide (kv.1 = x):=by
  rw [← hp.findIdx x]; obtain ⟨l⟩:=es; simp
 have hput : Obj.putName x (PySem.hashStr w x) (.str x t) v ⟨oc,odi,.dict es ep,osl⟩ = match es.findIdx? (fun en=>(PySem.strKind P0 w).is x en.key) with
  | some i=>⟨oc,odi,.dict (es.modify i fun e=>{ e with val:=v }) ep,osl⟩
  | none=>⟨oc,odi,.dict (es.push ⟨PySem.hashStr w x,.str x t,v⟩) (ep + 1),osl⟩:=by
  rw [Obj.putName_eq,← hfun]; rfl
 cases hi : es.findIdx? fun e=>(PySem.strKind P0 w).is x e.key with
 | some i=>
  rw [hi] at hput
  refine ⟨⟨⟨oc,odi,.dict (es.modify i fun e=>{ e with val:=v }) ep,osl⟩,es.modify i fun e=>{ e with val:=v },ep,by rw [Heap.get?_update_self _ e (by rw [hput]; rfl),hput],hc,rfl,hk.modify _ _,?_,?_⟩,es,ep,rfl,hlen,(lookIn_pairs (name:=x) hp).2,_,_,by rw [hput],by simp [hlen]⟩
  ·rw [stored,if_pos (any_of_findIdx_some (hidx ▸ hi))]
   have hl : (es.toList.findIdx? fun e=>(PySem.strKind P0 w).is x e.key) = some i:=by rw [← hi]; obtain ⟨l⟩:=es; simp
   have:=hp.modify hn hl v
   obtain ⟨l⟩:=es
   simpa using this
  ·rw [stored,if_pos (any_of_findIdx_some (hidx ▸ hi)),keys_map_store]; exact hn
 | none=>
  rw [hi] at hput
  have hnot : x ∉ kvs.map (·.1):=not_mem_of_findIdx_none (hidx ▸ hi)
  have hany : ¬ (kvs.any fun kv=>decide (kv.1 = x)) = true:=by
   rw [List.any_eq_true]; rintro ⟨kv,hkv,he⟩
   exact hnot (List.mem_map.mpr ⟨kv,hkv,of_decide_eq_true he⟩)
  refine ⟨⟨⟨oc,odi,.dict (es.push ⟨PySem.hashStr w x,.str x t,v⟩) (ep + 1),osl⟩,es.push ⟨PySem.hashStr w x,.str x t,v⟩,ep + 1,by rw [Heap.get?_update_self _ e (by rw [hput]; rfl),hput],hc,rfl,hk.push hkey _,?_,?_⟩,es,ep,rfl,hlen,(lookIn_pairs (name:=x) hp).2,_,_,by rw [hput],by simp [hlen]⟩
  ·rw [stored,if_neg hany]
   have:=hp.append hkey (PySem.hashStr w x) v
   obtain ⟨l⟩:=es
   simpa using this
  ·rw [stored,if_neg hany,List.map_append,List.nodup_append]
   refine ⟨hn,by simp,?_⟩
   intro a ha b hb
   simp only [List.map_cons,List.map_nil,List.mem_singleton] at hb
   subst hb
   exact fun e=>hnot (e ▸ ha)
open PySem.Builtin PySem.Builtin.ObjectAttr in
structure Takes (K:Frag) (C:Addr) (cd:ClassData) : Prop where
 cls : clsIn K C = some cd
 ne : cd.mro.isEmpty = false
 top : cd.mro.contains (.type "object") = true
 refuse : ∀ self,refuseLoop self "__setattr__" cd.mro = pure ()
 set : findIn K (.ref C) "__setattr__" = some (some (.builtin "object.__setattr__"))
 dict : cd.hasDict = true
open PySem.Builtin PySem.Builtin.ObjectAttr in
theorem osa_openG {A:Around} {R:Result → Shared → Prop} {s:Shared} {K:Frag} {C x:Addr} {ox:Obj} {od:Option Obj} {name:Str} {tk:Tok} {v:Value} {cd:ClassData} (X:K.In s.heap) (I:InstAt s.heap x ox C od) (T:Takes K C cd) (ht:takerIn K C name = some Option.none)
  (h:∀ b,wpAny (model P0 w) A.in1 (Builtin.ObjectAttr.storeInOwnDict (.ref x) (.ref C) (.str name tk) name v b)
   (fun fin s'=>match fin with | .done f=>R (.ok f) s' | .again c'=>c'.quiet = true ∧ codeAny (model P0 w) A c' R s') (fun e s'=>R (.error e) s') s) :
  codeAny (model P0 w) A (.call (.builtin "object.__setattr__") ⟨[.ref x,.str name tk,v],[]⟩) R s:=by
 have SF:=PySem.F.store_object
 have hc:=T.cls
 have sub : Looks (model P0 w) s.heap (isInstance (.ref x) (.type "object")) true:=I.type.andThen (looks_mroIn X (by unfold mroIn; rw [hc,Option.bind_some,if_neg (by rw [T.ne]; decide),T.top]))
 refine codeAny_call_builtin SF.slot.plain SF.entry (@check_slot (model P0 w) _ _ s "object.__setattr__" "object" "__setattr__" (.ref x) [.str name tk,v] [] _ SF.kind SF.split sub (SF.args (.ref x) (.str name tk) v) ?_)
 obtain ⟨attr,ha,hr⟩:=Option.bind_eq_some_iff.mp ht
 have hm : Looks (model P0 w) s.heap (mroOf (.ref C)) cd.mro:=(looks_clsIn X hc).andThen .now
 have L3 : Looks (model P0 w) s.heap (storeTaker? attr) Option.none:=by
  cases attr with
  | none=>cases hr; exact .now
  | some a=>
   obtain ⟨b,hb,hb2⟩:=Option.map_eq_some_iff.mp hr
   refine (looks_takesIn X hb).andThen ?_
   cases b <;> first | exact .now | cases hb2
 rw [osa_eq,refuse_eq]
 refine wpAny_bind (wpAny_bind (I.type.here (wpAny_bind (hm.here ?_))))
 rw [T.refuse]
 refine wpAny_pure (wpAny_bind (I.type.here (wpAny_bind ((looks_findIn X ha).here (wpAny_bind (L3.here ?_))))))
 exact h _
open PySem.Builtin PySem.Builtin.ObjectAttr in
theorem wp_setAttr {A:Around} {s:Shared} {a C d:Addr} {o:MO} {kvs:List (Str × V)} {name:Str} {v:V} {y:Value} {cd:ClassData} (r:R c σ s) (hy:VR c.S0 (msOf c σ) s v y) (h:σ.mu.lookup a = some o) (hc:o.clsOf = some (C,d)) (hd:σ.mu.lookup d = some (.dict kvs)) (hl:kvs.length ≤ 900)
  (T:Takes (K1 c.w) C cd) (ht:takerIn (K1 c.w) C name = some Option.none) : WP c.w A (setAttr (.ref a) name y) (fun ζ s'=>R c ⟨σ.loc,updM σ.mu d (.dict (putD kvs name v))⟩ s' ∧ Step c σ s ⟨σ.loc,updM σ.mu d (.dict (putD kvs name v))⟩ s') s:=by
 obtain ⟨ox,od,I⟩:=r.inst h hc hd
 obtain ⟨kvals,D,hV⟩:=r.at hd
 refine set_plain r.glob.X1 I.at_ T.set ?_
 have k1 : Kp s { s with toks:=s.toks + 1 }:=ktoks _
 have k2 : Kp s { s with toks:=s.toks + 2 }:=ktoks _
 refine osa_openG (s:={ s with toks:=s.toks + 1 }) r.glob.X1 I.at_ T ht fun b=>?_
 obtain ⟨D',es,n,hes,hsz,href,es',n',hes',hsz'⟩:=put_pairs (s:=s) (x:=name) (t:=s.toks + 1) (v:=y) D I.atd
 have hx:=I.at_.at_
 have hcl:=I.at_.cls
 have hdx:=I.dict
 obtain ⟨oc,odi,oda,osl⟩:=ox
 dsimp only at hcl hdx
 subst hcl hdx
 refine wpAny_bind (wpAny_pure (wpAny_bind (wpAny_bind (wpAny_loadPart (s:={ s with toks:=s.toks + 1 }) hx (wpAny_bind (Looks.here (s:={ s with toks:=s.toks + 1 }) (looks_clsIn r.glob.X1 T.cls) ?_))))))
 rw [T.dict]
 refine wpAny_pure (a:=some d) (wpAny_bind (wpAny_pure (wpAny_bind ?_)))
 unfold nsSet
 refine wpAny_bind (wpAny_bind (wpAny_askSetting (wpAny_pure (wpAny_bind (wpAny_mkText (wpAny_bind (wpAny_loadPart I.atd ?_)))))))
 rw [hes]
 dsimp only
 have cc : aRefKeyMayBeTheName name es = false:=by
  rw [aRefKeyMayBeTheName_at,← Array.any_toList,← Array.any_toList,href,Bool.and_false]
 rw [cc]
 refine wpAny_updatePart (s:={ s with toks:=s.toks + 2 }) I.atd ?_
 have D'' : (s.heap.update d (Obj.putName name (PySem.hashStr c.w name) (.str name (s.toks + 1)) y)).get? d = some (Obj.putName name (PySem.hashStr c.w name) (.str name (s.toks + 1)) y od):=by
  exact Heap.get?_update_self _ I.atd (Obj.isFreed_of_dict hes')
 refine wpAny_bind (wpAny_lookBehind D'' (by rw [hes']; exact pastItsLine_dict (by have:=hV.len; rw [sizeLine_eq]; w_left)) ?_)
 refine wpAny_pure ?_
 have sb : Heap.SameBut d s.heap (s.heap.update d (Obj.putName name (PySem.hashStr c.w name) (.str name (s.toks + 1)) y)):=Heap.SameBut.update ..
 have ch : Chg [d] s { s with heap:=s.heap.update d (Obj.putName name (PySem.hashStr c.w name) (.str name (s.toks + 1)) y),toks:=s.toks + 2 }:=chg_same sb ⟨_,D''⟩ (by w_left)
 have up:=ch.up (ms:=msOf c σ) fun b hb=>by rw [mem1 hb]; exact memL _ (.tail _ (lookup_adr hd))
 exact r.upd (lookup_adr hd) ch (o:=.dict (putD kvs name v)) ⟨_,D',(hV.put hy).mono up ch.toks⟩
theorem EX.setAttr {e ve:Expr} {name:Str} {pos' pos:Pos} {a C d:Addr} {o:MO} {kvs:List (Str × V)} {v:V} {cd:ClassData} {Q:AF → St → Prop} (hv:EV c k σ ve v) (he:EV c k σ e (.mob a)) (h:σ.mu.lookup a = some o) (hc:o.clsOf = some (C,d)) (hd:σ.mu.lookup d = some (.dict kvs)) (hl:kvs.length ≤ 900)
  (T:Takes (K1 c.w) C cd) (ht:takerIn (K1 c.w) C name = some Option.none) (hQ:Q .next ⟨σ.loc,updM σ.mu d (.dict (putD kvs name v))⟩)
  (hs:swapsWith ve (some (.Attribute e name pos')) pos.line c.env = pure false:=by rfl) : EX c k σ (.Assign [.Attribute e name pos'] ve pos) Q:=by
 intro A s f r
 refine plainObj_wpAny_Assign_Attribute (WPmono (hv A s f r) fun y s₁ w1=>WPmono (he A s₁ f (r.keeps w1.2)) fun x s₂ w2=>?_) hs
 have hx:=w2.1
 w_dflts hx
 exact WPmono (wp_setAttr ((r.keeps w1.2).keeps w2.2) (w1.1.keeps w2.2) h hc hd hl T ht) fun ζ s₃ w3=>⟨.next,_,hQ,w3.1,trivial,(Step.of_keeps (ktrans w1.2 w2.2)).trans w3.2⟩
inductive SetA (c:Cx) (k:Nat) (e:Expr) (name:Str) (Q:AF → St → Prop) (v:V) (σ₁:St) : Prop
 | mk (a C d:Addr) (o:MO) (kvs:List (Str × V)) (cd:ClassData) (he:EV c k σ₁ e (.mob a)) (h:σ₁.mu.lookup a = some o) (hc:o.clsOf = some (C,d)) (hd:σ₁.mu.lookup d = some (.dict kvs)) (hl:kvs.length ≤ 900) (T:Takes (K1 c.w) C cd) (ht:takerIn (K1 c.w) C name = some Option.none) (hQ:Q .next ⟨σ₁.loc,updM σ₁.mu d (.dict (putD kvs name v))⟩) : SetA c k e name Q v σ₁
theorem EX.setAttrM {e ve:Expr} {name:Str} {pos' pos:Pos} {Q:AF → St → Prop} (hv:EM c k σ ve (SetA c k e name Q))
  (hs:swapsWith ve (some (.Attribute e name pos')) pos.line c.env = pure false:=by rfl) : EX c k σ (.Assign [.Attribute e name pos'] ve pos) Q:=by
 intro A s f r
 refine plainObj_wpAny_Assign_Attribute (WPmono (hv A s f r) fun y s₁ w0=>?_) hs
 cases w0 with | mk v σ₁ hA r₁ hy st₁=>
 cases hA with | mk a C d o kvs cd he h hc hd hl T ht hQ=>
 refine WPmono (he A s₁ f r₁) fun x s₂ w0=>?_
 have hx:=w0.1
 w_dflts hx
 refine WPmono (wp_setAttr (r₁.keeps w0.2) (hy.keeps w0.2) h hc hd hl T ht) fun ζ s₃ w1=>?_
 exact ⟨.next,_,hQ,w1.1,trivial,st₁.trans ((Step.of_keeps w0.2).trans w1.2)⟩
end
end Mine.Internal
end
section
namespace Mine.Internal
theorem refuse_list (self:Value) : refuseLoop self "__setattr__" [.type "list",.type "object"] = pure ():=by
 kernel_rfl
section
variable {w:World}
theorem cls151 : (clsIn (K1 w) 151).map (fun cd=>(onlyObject cd.mro,cd.hasDict)) = some (true,true):=by kernel_rfl
theorem cls235 : (clsIn (K1 w) 235).map (fun cd=>(cd.mro == [.ref 235,.type "list",.type "object"],cd.hasDict)) = some (true,true):=by kernel_rfl
theorem set151 : findIn (K1 w) (.ref 151) "__setattr__" = some (some (.builtin "object.__setattr__")):=by kernel_rfl
theorem set235 : findIn (K1 w) (.ref 235) "__setattr__" = some (some (.builtin "object.__setattr__")):=by kernel_rfl
theorem new151 : makesIn (K1 w) 151 = true:=by kernel_rfl
theorem init151 : findIn (K1 w) (.ref 151) "__init__" = some (some (.ref 92)):=by kernel_rfl
theorem init235 : findIn (K1 w) (.ref 235) "__init__" = some (some (.ref 172)):=by kernel_rfl
end
end Mine.Internal
end
section
namespace Mine.Internal
noncomputable def makesL (K:Frag) (C:Addr) : Bool:=match K.lookup C with
 | some ⟨_,_,.cls cd,sl⟩=>!cd.abstract && !cd.hasDel && (sl.toList[4]?).join == some (.builtin "list.__new__") && !cd.mro.isEmpty && cd.mro.contains (.ref C) && cd.mro.contains (.type "list") && cd.hasDict &&
   specialIn K (.ref C) "__call__" == some (some (.builtin "type.__call__")) && instIn K (.ref C) (.type "type") == some true
 | _=>false
theorem makes235 (w:World) : makesL (K1 w) 235 = true:=by kernel_rfl
structure MakesL (M:Model) (h:Heap) (C:Addr) : Prop where
 obj : ∃ oc od cd sl,h.get? C = some ⟨oc,od,.cls cd,sl⟩ ∧ cd.abstract = false ∧ cd.hasDel = false ∧ cd.mro.isEmpty = false ∧ cd.hasDict = true
 made : Looks M h (Bind.madeBy (.ref C)) (some "list.__new__")
 base : Looks M h (Bind.staticBase (.ref C)) (.ref C)
 self : Looks M h (isSubtype (.ref C) (.ref C)) true
 top : Looks M h (isSubtype (.ref C) (.type "list")) true
 call : Looks M h (specialOf (.ref C) "__call__") (some (.builtin "type.__call__"))
 typ : Looks M h (isInstance (.ref C) (.type "type")) true
theorem makesL_of {K:Frag} {M:Model} {h:Heap} (X:K.In h) {C:Addr} (e:makesL K C = true) : MakesL M h C:=by
 unfold makesL at e
 split at e
 ·rename_i oc od cd sl ho
  simp only [Bool.and_eq_true,Bool.not_eq_true',beq_iff_eq] at e
  obtain ⟨⟨⟨⟨⟨⟨⟨⟨e1,e2⟩,e3⟩,e4⟩,e5⟩,e6⟩,e9⟩,e7⟩,e8⟩:=e
  have hc : clsIn K C = some cd:=by unfold clsIn; rw [ho]
  have hm : Looks M h (mroOf (.ref C)) cd.mro:=(looks_clsIn X hc).andThen .now
  obtain ⟨c,l,hl⟩ : ∃ c l,cd.mro = c :: l:=by cases q : cd.mro with | nil=>rw [q] at e4; cases e4 | cons c l=>exact ⟨c,l,rfl⟩
  have made : Looks M h (Bind.madeBy (.ref C)) (some "list.__new__"):=by
   intro A Q E s k q
   unfold Bind.madeBy
   refine wpAny_bind (hm A _ E s k ?_)
   rw [hl,List.forIn_cons]
   refine wpAny_bind (wpAny_bind (wpAny_bind (wpAny_bind (wpAny_loadPart (k _ _ (X _ _ ho)) (wpAny_pure ?_)))))
   dsimp only
   rw [← Array.getElem?_toList,e3]
   exact wpAny_pure (wpAny_pure (wpAny_pure q))
  refine ⟨⟨oc,od,cd,sl,X _ _ ho,e1,e2,e4,e9⟩,made,?_,looks_mroIn X ?_,looks_mroIn X ?_,looks_specialIn X e7,looks_instIn X e8⟩
  ·intro A Q E s k q
   unfold Bind.staticBase
   refine wpAny_bind (hm A _ E s k ?_)
   rw [hl,List.forIn_cons]
   exact wpAny_bind (wpAny_bind (wpAny_bind (made A _ E s k (wpAny_pure (wpAny_pure (wpAny_pure q))))))
  ·unfold mroIn; rw [hc,Option.bind_some,if_neg (by rw [e4]; decide),e5]
  ·unfold mroIn; rw [hc,Option.bind_some,if_neg (by rw [e4]; decide),e6]
 ·cases e
noncomputable abbrev listInst (C dx:Addr) : Obj:={ cls:=.ref C,dict:=some dx,data:=.seq #[] }
section
open PySem.Builtin PySem.Builtin.ObjectAttr
variable {w:World} {A:Around} {C:Addr} {R:Result → Shared → Prop} {h:Heap} {g:Array GenState} {d:Drawn} {t:Nat} {os:OsState}
theorem ln_kind : builtinKind "list.__new__" = some .builtinFn:=by decide +kernel
theorem ln_split : splitId "list.__new__" = some ("list","__new__"):=by decide +kernel
theorem ln_row : Manifest.signature? "list.__new__" = some ⟨.any,"list","list",.cls,[⟨"args",.varPos,false⟩,⟨"kwargs",.varKw,false⟩]⟩:=by kernel_rfl
theorem wp_neg {M:Model} {α:Type} {c:Prop} [Decidable c] {x y:Sem α} {Q:α → Shared → Prop} {E:Value → Shared → Prop} {s:Shared} (h:¬ c) (H:wpAny M A y Q E s) : wpAny M A (if c then x else y) Q E s:=by rw [if_neg h]; exact H
theorem new_L {rest:List Value} (Y:MakesL (model P0 w) h C)
  (hq:R (.ok (.ret (.ref (h.objs.size + 1)))) ⟨(h.push emptyDict).push (listInst C h.objs.size),g,d,t,os⟩) :
  codeAny (model P0 w) A (.call (.builtin "list.__new__") ⟨.ref C :: rest,[]⟩) R ⟨h,g,d,t,os⟩:=by
 obtain ⟨⟨oc,od,cd,sl,hC,e1,e2,e4,e9⟩,made,base,self,top,call,typ⟩:=Y
 refine codeAny_call_builtin_code (Code.quiet_builtin _ (by decide +kernel)) ?_
 unfold checkBuiltinCall
 rw [ln_kind,ln_split,ln_row]
 dsimp only
 have args : Bind.checkArgs "list.__new__" ⟨.any,"list","list",.cls,[⟨"args",.varPos,false⟩,⟨"kwargs",.varKw,false⟩]⟩ ⟨.ref C :: rest,[]⟩ = pure ():=by kernel_rfl
 rw [args]
 repeat (first | refine wp_neg (by decide) ?_ | lk)
 refine codeAny_builtin_stack F.entry_list_new rfl fun p st=>?_
 have hown:=owner_list_new
 simp only [hown]
 repeat lk
 refine nd_load (Heap.get?_push_of_some _ (Heap.get?_push_of_some _ hC)) (wpAny_pure (wpAny_pure ?_))
 rw [e2]
 refine wpAny_pure (wpAny_pure ?_)
 show R _ _
 rw [Heap.size_push]
 exact hq
theorem make_L {rest:List Value} {init:Value} (Y:MakesL (model P0 w) h C) (hi:Looks (model P0 w) h (typeLookup (.ref C) "__init__") (some init))
  (hb:∀ self,Looks (model P0 w) h (bindSpecial init self) (init,[self]))
  (hq:codeAny (model P0 w) (A.under (.builtin "type.__call__" ⟨.ref C :: rest,[]⟩)) (.call init ⟨.ref (h.objs.size + 1) :: rest,[]⟩) (InitBack (h.objs.size + 1) R) ⟨(h.push emptyDict).push (listInst C h.objs.size),g,d,t,os⟩) :
  codeAny (model P0 w) A (.call (.ref C) ⟨rest,[]⟩) R ⟨h,g,d,t,os⟩:=by
 have Y':=Y
 obtain ⟨⟨oc,od,cd,sl,hC,e1,e2,e4,e9⟩,made,base,self,top,call,typ⟩:=Y
 refine codeAny_of_tree ?_
 show wpAny _ _ (callAny (.ref C) _) _ _ _
 refine nd_load hC ?_
 show wpAny _ _ (callAny.viaDunder (.ref C) _) _ _ _
 unfold callAny.viaDunder
 refine wpAny_bind (call.at ?_)
 dsimp only
 rw [tc_bind]
 refine wpAny_bind (wpAny_pure (wpAny_bind (wpAny_pure ?_)))
 refine wpAny_pure (a:=Fin.again (.call (.builtin "type.__call__") ⟨.ref C :: rest,[]⟩)) (And.intro rfl ?_)
 refine codeAny_call_builtin_at (Code.quiet_builtin _ (by decide +kernel)) entry_typeCall (check_slot tc_kind tc_split typ (tc_args _ _ _) ?_)
 unfold Builtin.«type.__call__»
 have hm : Looks (model P0 w) h (mroOf (.ref C)) cd.mro:=((Looks.ld (part:=none) hC).andThen .now).andThen .now
 repeat (first | simp only [e4,Bool.false_eq_true,if_false] | with_reducible refine wpAny_call ?_ | lk)
 refine new_L Y' ?_
 have k : ∀ b o,h.get? b = some o → ((h.push emptyDict).push (listInst C h.objs.size)).get? b = some o:=fun b o e=>Heap.get?_push_of_some _ (Heap.get?_push_of_some _ e)
 have hx : ((h.push emptyDict).push (listInst C h.objs.size)).get? (h.objs.size + 1) = some (listInst C h.objs.size):=by heap_get
 have t1 : Looks (model P0 w) ((h.push emptyDict).push (listInst C h.objs.size)) (typeOf (.ref (h.objs.size + 1))) (.ref C):=(Looks.ld hx).andThen .now
 have s1:=self.keeps k
 have i1:=hi.keeps k
 have b1:=(hb (.ref (h.objs.size + 1))).keeps k
 unfold isInstance callSpecial? specialOf
 repeat (first | with_reducible refine wpAny_call ?_ | lk)
 refine codeAny_mono hq fun r s' z=>?_
 rcases r with e | (v | _ | _ | _) <;> first | exact z | exact z.elim | skip
 obtain ⟨rfl,z⟩:=z
 exact wpAny_pure (wpAny_pure z)
end
end Mine.Internal
end
section
namespace Mine.Internal
theorem Fit.make {k:Nat} {A:Around} {C:Addr} {rest:List Value} (f:Fit (k + 2) A) : Fit (k + 1) (A.under (.builtin "type.__call__" ⟨.ref C :: rest,[]⟩)):=by
 have h1 : (Code.builtin "type.__call__" ⟨.ref C :: rest,[]⟩).weight ≤ 1:=by
  first | exact Nat.le_refl _ | exact Nat.zero_le _ | exact Nat.le_of_eq rfl
 have h2 : (Code.builtin "type.__call__" ⟨.ref C :: rest,[]⟩).cUnits ≤ 10:=by
  exact Nat.le_of_ble_eq_true rfl
 have:=f.dp
 have:=f.un
 exact ⟨f.hh,by show A.depth + _ + _ ≤ 1000; w_left,by show A.units + _ + _ ≤ 9800; w_left⟩
section
variable {w:World} {S0:Shared} {k:Nat}
theorem VR.isNone {S:Shared} {ms:List Addr} {s:Shared} {z:Value} (h:VR S ms s .none z) : z = Value.none:=by cases h; rfl
theorem n1 (n:Nat) : ¬ (n + 1 < n):=by w_left
theorem n0 (n:Nat) : ¬ (n < n):=by w_left
theorem GM.make {ms:List Addr} {mu:List (Addr × MO)} {s:Shared} {ob:Obj} {o:MO} (g:GM w S0 ms mu s)
  (hm:∀ ms' s',s'.heap.get? (s.heap.objs.size + 1) = some ob → MR w S0 ms' s' (s.heap.objs.size + 1) o) (hf:ob.isFreed = false) :
  GM w S0 ms ((s.heap.objs.size + 1,o) :: (s.heap.objs.size,.dict []) :: mu) { s with heap:=(s.heap.push emptyDict).push ob }:=by
 have k1 : Kp s { s with heap:=(s.heap.push emptyDict).push ob }:=⟨⟨_,s.toks,rfl,fun b o e=>Heap.get?_push_of_some _ (Heap.get?_push_of_some _ e)⟩,Nat.le_refl _⟩
 have big : ∀ b o',s.heap.get? b = some o' → b < s.heap.objs.size:=fun b o' e=>Heap.lt_size e
 have bigM : ∀ b ∈ adr mu,b < s.heap.objs.size:=fun b hb=>by
  obtain ⟨p,hp,rfl⟩:=memm hb
  obtain ⟨o',e⟩:=(g.muok p hp).live; exact big _ _ e
 have bigL : ∀ b ∈ ms,b < s.heap.objs.size:=fun b hb=>by obtain ⟨o',e⟩:=g.live b hb; exact big _ _ e
 have e1 : ((s.heap.push emptyDict).push ob).get? (s.heap.objs.size + 1) = some ob:=by
  have:=Heap.get?_push_size (s.heap.push emptyDict) hf
  rwa [Heap.size_push] at this
 have e2 : ((s.heap.push emptyDict).push ob).get? s.heap.objs.size = some emptyDict:=Heap.get?_push_of_some _ (Heap.get?_push_size _ rfl)
 refine ⟨g.glob.keeps k1,g.live.keeps (kall k1),fun p hp=>?_,?_,fun b hb=>?_,fun b hb=>?_⟩
 ·rcases memc hp with rfl | hp
  ·exact hm _ _ e1
  ·rcases memc hp with rfl | hp
   ·exact ⟨[],(Heap.DictOf.new s.heap).push _,.nil⟩
   ·refine (g.muok p hp).mono (fun b o' hb ζ e=>⟨fun q=>?_,kget k1 e⟩) (Nat.le_refl _) fun o' e=>kget k1 e
    have hlt:=big _ _ e
    rcases mema q with q | q
    ·rcases memc q with q | q
     ·rw [show b = s.heap.objs.size + 1 from q] at hlt; exact n1 _ hlt
     ·rcases memc q with q | q
      ·rw [show b = s.heap.objs.size from q] at hlt; exact n0 _ hlt
      ·exact hb (memL _ q)
    ·exact hb (memR _ q)
 ·refine ndk ⟨fun q=>?_,ndk ⟨fun q=>?_,g.nd⟩⟩
  ·rcases memc q with q | q
   ·exact Nat.succ_ne_self _ q
   ·exact n1 _ (bigM _ q)
  ·exact n0 _ (bigM _ q)
 ·intro q
  have hlt:=bigL _ q
  rcases memc hb with hb | hb
  ·rw [show b = s.heap.objs.size + 1 from hb] at hlt; exact n1 _ hlt
  ·rcases memc hb with hb | hb
   ·rw [show b = s.heap.objs.size from hb] at hlt; exact n0 _ hlt
   ·exact g.disj b hb q
 ·rcases memc hb with hb | hb
  ·rw [show b = s.heap.objs.size + 1 from hb]; exact g.glob.lo (Nat.le_succ _)
  ·rcases memc hb with hb | hb
   ·rw [show b = s.heap.objs.size from hb]; exact g.glob.lo (Nat.le_refl _)
   ·exact g.lo b hb
theorem StepM.make {gen:Bool} {mu mu':List (Addr × MO)} {s s':Shared} {ob:Obj} {o:MO} {ms:List Addr} (g:GM w S0 ms mu s) (st:StepM gen ((s.heap.objs.size + 1,o) :: (s.heap.objs.size,.dict []) :: mu) { s with heap:=(s.heap.push emptyDict).push ob } mu' s') : StepM gen mu s mu' s':=by
 have k1 : Kp s { s with heap:=(s.heap.push emptyDict).push ob }:=⟨⟨_,s.toks,rfl,fun b o e=>Heap.get?_push_of_some _ (Heap.get?_push_of_some _ e)⟩,Nat.le_refl _⟩
 have nn : ∀ b,¬ (b < s.heap.objs.size) → s.heap.get? b = Option.none:=fun b h=>by
  cases e : s.heap.get? b with
  | none=>rfl
  | some o'=>exact absurd (Heap.lt_size e) h
 refine ⟨fun b o' hb hg e=>st.kept b o' (fun q=>?_) hg (kget k1 e),fun b hb=>?_,fun b o' e=>st.there b o' (kget k1 e),fun h=>st.gens h,st.drawn,st.toks⟩
 ·have hlt:=Heap.lt_size e
  rcases memc q with q | q
  ·rw [show b = s.heap.objs.size + 1 from q] at hlt; exact n1 _ hlt
  ·rcases memc q with q | q
   ·rw [show b = s.heap.objs.size from q] at hlt; exact n0 _ hlt
   ·exact hb q
 ·rcases st.fresh b hb with h | h
  ·rcases memc h with q | q
   ·rw [show b = s.heap.objs.size + 1 from q]; exact .inr (nn _ (n1 _))
   ·rcases memc q with q | q
    ·rw [show b = s.heap.objs.size from q]; exact .inr (nn _ (n0 _))
    ·exact .inl q
  ·refine .inr ?_
   cases e : s.heap.get? b with
   | none=>rfl
   | some o'=>rw [kget k1 e] at h; cases h
noncomputable def Made (w:World) (C f:Addr) (ob:Addr → Obj) : Prop:=∀ (A:Around) (R:Result → Shared → Prop) (s:Shared) (rest:List Value),(K1 w).In s.heap →
 codeAny (model P0 w) (A.under (.builtin "type.__call__" ⟨.ref C :: rest,[]⟩)) (.call (.ref f) ⟨.ref (s.heap.objs.size + 1) :: rest,[]⟩) (InitBack (s.heap.objs.size + 1) R) { s with heap:=(s.heap.push emptyDict).push (ob s.heap.objs.size) } →
 codeAny (model P0 w) A (.call (.ref C) ⟨rest,[]⟩) R s
theorem made151 : Made w 151 92 (instObj 151):=fun A R s rest X h=>by
 obtain ⟨hh,g,d,t,os⟩:=s
 exact make_core (makes_of X new151) (looks_findIn X init151) (fun self=>bind_fn X self (by kernel_rfl)) (.inl rfl) h
theorem made235 : Made w 235 172 (listInst 235):=fun A R s rest X h=>by
 obtain ⟨hh,g,d,t,os⟩:=s
 exact make_L (makesL_of X (makes235 w)) (looks_findIn X init235) (fun self=>bind_fn X self (by kernel_rfl)) h
theorem FNM.make {C:Addr} {ob:Addr → Obj} {mo:Addr → MO} {gen:Bool} {f:Addr} {name qual:Str} {params:Arguments} {body:List Stmt} {scope:Scope} {dV kV doc pm cdv ct oc:Value} {an od:Option Addr} {osl:Array (Option Value)} {ns:List Str} {vs us:List V} {mu:List (Addr × MO)} {Q:V → List (Addr × MO) → Prop}
  (hmk:Made w C f ob) (hfr:∀ d,(ob d).isFreed = false) (hmo:∀ a d ms s,s.heap.get? a = some (ob d) → MR w S0 ms s a (mo d))
  (hK:(K1 w).lookup f = some ⟨oc,od,.func (fnOf name qual params body scope dV kV doc pm an cdv ct),osl⟩) (hcd:codeIn (K1 w) cdv qual = true)
  (hbind:∀ a ms s xs,Glob w S0 s → VRs S0 ms s (.mob a :: vs) xs → ∃ ys,VRs S0 ms s (.mob a :: us) ys ∧ BindsTo s (fnOf name qual params body scope dV kV doc pm an cdv ct) ⟨xs,[]⟩ (ns.zip ys))
  (hkind:(ns.all fun y=>scope.names.lookup y == some .local || scope.names.lookup y == some .cell) = true) (hns:ns.Nodup) (hnd:((cellsFrom 0 scope.names []).map (·.1)).Nodup)
  (hco:scope.isCoroutine = false) (hgen:scope.isGenerator = false) (hk:scope.kind = .function)
  (body_ok:∀ a d,a ∉ adr mu → d ∉ adr mu → a ≠ d → ∀ X : FX,EXs (cF ⟨qual,scope,f,cdv⟩ gen w S0 X) k ⟨ns.zip (.mob a :: us),(a,mo d) :: (d,.dict []) :: mu⟩ body (BackM fun v mu'=>v = .none ∧ Q (.mob a) mu')) : FNM w S0 (k + 2) gen (fun xs=>call (.ref C) xs) vs mu Q:=by
 intro ms A s xs ft g hx
 have k1 : Kp s { s with heap:=(s.heap.push emptyDict).push (ob s.heap.objs.size) }:=⟨⟨_,s.toks,rfl,fun b o e=>Heap.get?_push_of_some _ (Heap.get?_push_of_some _ e)⟩,Nat.le_refl _⟩
 have g1:=g.make (ob:=ob s.heap.objs.size) (o:=mo s.heap.objs.size) (fun ms' s' e=>hmo _ _ _ _ e) (hfr _)
 have bigM : ∀ b ∈ adr mu,b < s.heap.objs.size:=fun b hb=>by
  obtain ⟨p,hp,rfl⟩:=memm hb
  obtain ⟨o',e⟩:=(g.muok p hp).live; exact Heap.lt_size e
 have na : s.heap.objs.size + 1 ∉ adr mu:=fun q=>n1 _ (bigM _ q)
 have nd : s.heap.objs.size ∉ adr mu:=fun q=>n0 _ (bigM _ q)
 have hx1 : VRs S0 (adr ((s.heap.objs.size + 1,mo s.heap.objs.size) :: (s.heap.objs.size,MO.dict []) :: mu) ++ ms) { s with heap:=(s.heap.push emptyDict).push (ob s.heap.objs.size) } (.mob (s.heap.objs.size + 1) :: vs) (.ref (s.heap.objs.size + 1) :: xs):=by
  refine .cons (.mob _) (hx.mono (fun b o hb ζ e=>⟨fun q=>?_,kget k1 e⟩) (Nat.le_refl _))
  have hlt:=Heap.lt_size e
  rcases mema q with q | q
  ·rcases memc q with q | q
   ·rw [show b = s.heap.objs.size + 1 from q] at hlt; exact n1 _ hlt
   ·rcases memc q with q | q
    ·rw [show b = s.heap.objs.size from q] at hlt; exact n0 _ hlt
    ·exact hb (memL _ q)
  ·exact hb (memR _ q)
 obtain ⟨ys,hys,hb⟩:=hbind _ _ _ _ g1.glob hx1
 refine wpAny_call (hmk _ _ _ _ g.glob.X1 ?_)
 refine enter_call (gen:=gen) hK hcd hb hkind hns hnd hco hgen hk ft.make g1 hys (fun L out=>body_ok _ _ na nd (Nat.succ_ne_self _) ⟨L,out⟩) ?_
 intro fl s' c σ' af hQ r hms hg hf st hw hS
 subst hw hS
 obtain ⟨v,mu',⟨rfl,hQ'⟩,gm,hz,st'⟩:=backM hms hQ r hf st g1.live
 exact ⟨VR.isNone hz,.mob _,mu',hQ',gm,.mob _,StepM.make g st'⟩
end
end Mine.Internal
end
section
namespace Mine.Internal
theorem takes151 (w:World) : ∃ cd,Takes (K1 w) 151 cd:=by
 have h:=cls151 (w:=w)
 obtain ⟨cd,h1,h2⟩:=Option.map_eq_some_iff.mp h
 have h3 : onlyObject cd.mro = true:=congrArg Prod.fst h2
 have h4 : cd.hasDict = true:=congrArg Prod.snd h2
 exact ⟨cd,h1,by cases q : cd.mro with | nil=>rw [q] at h3; cases h3 | cons _ _=>rfl,only_has h3,fun self=>refuse_only self h3,set151,h4⟩
theorem takes235 (w:World) : ∃ cd,Takes (K1 w) 235 cd:=by
 have h:=cls235 (w:=w)
 obtain ⟨cd,h1,h2⟩:=Option.map_eq_some_iff.mp h
 have h3 : cd.mro = [.ref 235,.type "list",.type "object"]:=by
  have:=congrArg Prod.fst h2
  exact eq_of_beq this
 have h4 : cd.hasDict = true:=congrArg Prod.snd h2
 exact ⟨cd,h1,by rw [h3]; rfl,by rw [h3]; decide,fun self=>by rw [h3,refuseLoop_ref]; exact refuse_list self,set235,h4⟩
end Mine.Internal
end
section
namespace Mine.Internal
noncomputable abbrev WPA (w:World) (A:Around) (C:Code) {α:Type} (t:Sem α) (Q:α → Shared → Prop) (s:Shared) : Prop:=PySem.wpAt (model P0 w) A C t Q (fun ζ ζ=>False) s
section
variable {w:World} {S0:Shared} {k:Nat} {c:Cx} {σ:St} {B:List Stmt}
theorem WPAmono {A:Around} {C:Code} {α:Type} {t:Sem α} {Q Q':α → Shared → Prop} {s:Shared} (h:WPA w A C t Q s) (hq:∀ a s',Q a s' → Q' a s') : WPA w A C t Q' s:=ks_wpAt_mono h hq fun ζ ζ x=>x
noncomputable def EMA (c:Cx) (k:Nat) (σ:St) (B:List Stmt) (e:Expr) (Q:V → St → Prop) : Prop:=∀ A s,Fit k A → R c σ s → WPA c.w A (.func B c.env) (eval e c.env) (EmP c σ s Q) s
noncomputable def EXA (c:Cx) (k:Nat) (σ:St) (B:List Stmt) (st:Stmt) (Q:AF → St → Prop) : Prop:=∀ A s,Fit k A → R c σ s → WPA c.w A (.func B c.env) (exec st c.env) (ExP c σ s Q) s
noncomputable def EXsA (c:Cx) (k:Nat) (σ:St) (B:List Stmt) (st:List Stmt) (Q:AF → St → Prop) : Prop:=∀ A s,Fit k A → R c σ s → WPA c.w A (.func B c.env) (execs st c.env) (ExP c σ s Q) s
theorem EXA.of {st:Stmt} {Q:AF → St → Prop} (h:EX c k σ st Q) : EXA c k σ B st Q:=fun A s f r=>wpAt_of_wpAny (h A s f r)
theorem EXsA.of {st:List Stmt} {Q:AF → St → Prop} (h:EXs c k σ st Q) : EXsA c k σ B st Q:=fun A s f r=>wpAt_of_wpAny (h A s f r)
theorem EXsA.cons {st:Stmt} {rest:List Stmt} {Q:AF → St → Prop} (h:EXA c k σ B st fun af σ'=>match af with | .next=>EXsA c k σ' B rest Q | af=>Q af σ') : EXsA c k σ B (st :: rest) Q:=by
 intro A s f r
 refine ks_wpAt_execs_cons (WPAmono (h A s f r) fun fl s₁ w0=>?_)
 obtain ⟨af,σ₁,hQ,r₁,hf,st₁⟩:=w0
 cases af with
 | next=>
  cases fl with
  | next=>exact WPAmono (hQ A s₁ f r₁) fun fl₂ s₂ ⟨af₂,σ₂,hQ₂,r₂,hf₂,st₂⟩=>⟨af₂,σ₂,hQ₂,r₂,hf₂,st₁.trans st₂⟩
  | _=>exact hf.elim
 | brk=>
  cases fl with
  | brk=>exact ⟨_,_,hQ,r₁,hf,st₁⟩
  | _=>exact hf.elim
 | cont=>
  cases fl with
  | cont=>exact ⟨_,_,hQ,r₁,hf,st₁⟩
  | _=>exact hf.elim
 | ret v=>
  cases fl with
  | ret x=>exact ⟨_,_,hQ,r₁,hf,st₁⟩
  | _=>exact hf.elim
theorem EXA.ret {e:Expr} {pos:Pos} {Q:AF → St → Prop} (h:EMA c k σ B e fun v σ'=>Q (.ret v) σ') : EXA c k σ B (.Return (some e) pos) Q:=fun A s f r=>
 ks_wpAt_Return_some (WPAmono (h A s f r) fun x s₁ ⟨v,σ₁,hQ,r₁,hx,st₁⟩=>⟨.ret v,σ₁,hQ,r₁,hx,st₁⟩)
theorem EXA.expr {e:Expr} {pos:Pos} {Q:AF → St → Prop} (h:EMA c k σ B e fun ζ σ'=>Q .next σ') (hi:interactive c.env = false) (hs:swapsWith e none pos.line c.env = pure false) : EXA c k σ B (.Expr e pos) Q:=fun A s f r=>
 ks_wpAt_Expr_any (WPAmono (h A s f r) fun x s₁ ⟨v,σ₁,hQ,r₁,hx,st₁⟩=>⟨.next,σ₁,hQ,r₁,trivial,st₁⟩) hi hs
end
end Mine.Internal
end
section
namespace Mine.Internal
section
variable {w:World} {S0:Shared} {k:Nat}
theorem enter_coreA {A:Around} {s s₁:Shared} {ms:List Addr} {mu:List (Addr × MO)} {gen:Bool} {env:Env} {oc:List Addr} {loc:List (Str × V)} {m:Str → Option Value} {body:List Stmt} {Q:AF → St → Prop} {R':Result → Shared → Prop}
  (g:GM w S0 ms mu s) (kk:Kp s s₁) (eok:EnvOk env) (hloc:env.locals = s.heap.objs.size) (hns:s₁.heap.Ns env.locals m)
  (hv:∀ x v,loc.lookup x = some v → VarAt env s₁.heap m x (VR S0 (adr mu ++ ms) s v))
  (hcl:∀ p ∈ env.cells,((p.2 ∈ oc) ∨ (env.kindOf p.1 ≠ some .cell ∧ ∃ o,S0.heap.get? p.2 = some o)) ∧ ∃ v,s₁.heap.IsCell p.2 v)
  (hoc:∀ a ∈ oc,s.heap.objs.size < a ∧ ∃ o,s₁.heap.get? a = some o) (hap:env.cells.Pairwise fun x y=>x.2 ≠ y.2) (ft:Fit k A)
  (body_ok:EXsA ⟨w,S0,env,oc ++ ms,gen⟩ k ⟨loc,mu⟩ body body Q)
  (hR:∀ fl s' σ' af,Q af σ' → R ⟨w,S0,env,oc ++ ms,gen⟩ σ' s' → FR S0 (msOf ⟨w,S0,env,oc ++ ms,gen⟩ σ') s' af fl → StepM gen mu s σ'.mu s' → R' (.ok (.ret (match fl with | .ret v=>v | _=>.none))) s') :
  WPA w A (.func body env) (execs body env) (fun fl s'=>R' (.ok (.ret (match fl with | .ret v=>v | _=>.none))) s') s₁:=by
 have glob₁:=g.glob.keeps kk
 have lt_mu : ∀ a ∈ adr mu,a < s.heap.objs.size:=fun a ha=>by
  obtain ⟨p,hp,rfl⟩:=memm ha; exact (g.muok p hp).live'
 have lt_ms : ∀ a ∈ ms,a < s.heap.objs.size:=fun a ha=>let ⟨_,e⟩:=g.live a ha; Heap.lt_size e
 have up : Up (adr mu ++ ms) (msOf ⟨w,S0,env,oc ++ ms,gen⟩ ⟨loc,mu⟩) s s₁:=fun b o hb ζ e=>by
  refine ⟨fun q=>?_,kget kk e⟩
  have hlt:=Heap.lt_size e
  rcases mema q with q | q
  ·rcases memc q with rfl | q
   ·rw [hloc] at hlt; exact Nat.lt_irrefl _ hlt
   ·exact hb (memL _ q)
  ·rcases mema q with q | q
   ·exact Nat.lt_irrefl _ (Nat.lt_trans (hoc b q).1 hlt)
   ·exact hb (memR _ q)
 have r₁ : R ⟨w,S0,env,oc ++ ms,gen⟩ ⟨loc,mu⟩ s₁:=by
  refine ⟨glob₁,eok,⟨m,hns,fun x v e=>(hv x v e).keeps (fun ζ ζ e=>e) fun y hy=>hy.mono up kk.t⟩,fun p hp=>?_,hap,fun p hp=>?_,?_,fun a ha=>?_,fun a ha=>?_,fun a ha=>?_,fun p hp hk=>?_⟩
  ·obtain ⟨h1,h2⟩:=hcl p hp
   exact ⟨h1.imp (fun h=>memL _ h) id,h2⟩
  ·exact (g.muok p hp).mono up kk.t fun o e=>kget kk e
  ·refine ndk ⟨fun q=>?_,g.nd⟩
   have:=lt_mu _ q
   rw [hloc] at this; exact Nat.lt_irrefl _ this
  ·intro q
   rcases memc ha with rfl | ha
   ·rcases mema q with q | q
    ·have:=(hoc _ q).1; rw [hloc] at this; exact Nat.lt_irrefl _ this
    ·have:=lt_ms _ q; rw [hloc] at this; exact Nat.lt_irrefl _ this
   ·rcases mema q with q | q
    ·exact Nat.lt_irrefl _ (Nat.lt_trans (hoc _ q).1 (lt_mu _ ha))
    ·exact g.disj _ ha q
  ·rcases mema ha with q | q
   ·exact (hoc _ q).2
   ·obtain ⟨o,e⟩:=g.live a q; exact ⟨o,kget kk e⟩
  ·rcases memc ha with rfl | q
   ·exact g.glob.lo (Nat.le_of_eq hloc.symm)
   ·exact g.lo _ q
  ·obtain ⟨h1,h2⟩:=hcl p hp
   rcases h1 with h | ⟨h,_⟩
   ·exact g.glob.lo (Nat.le_of_lt (hoc _ h).1)
   ·exact absurd hk h
 refine ks_wpAt_mono (body_ok A s₁ ft r₁) (fun fl s' w0=>?_) fun ζ ζ x=>x.elim
 obtain ⟨af,σ',hQ,r',hf,st⟩:=w0
 refine hR fl s' σ' af hQ r' hf ⟨fun b o hb hg e=>st.kept b o (fun q=>?_) hg (kget kk e),fun a ha=>?_,fun b o e=>st.there b o (kget kk e),fun hg=>?_,?_,Nat.le_trans kk.t st.toks⟩
 ·have hlt:=Heap.lt_size e
  rcases mema q with q | q
  ·rcases memc q with rfl | q
   ·exact Nat.lt_irrefl _ (hloc ▸ hlt)
   ·exact hb q
  ·obtain ⟨p,hp,rfl,hk⟩:=of_mem_ownC q
   rcases (hcl p hp).1 with h | ⟨h,_⟩
   ·exact Nat.lt_irrefl _ (Nat.lt_trans (hoc _ h).1 hlt)
   ·exact h hk
 ·rcases st.fresh a ha with h | h
  ·exact .inl h
  ·right
   cases e : s.heap.get? a with
   | none=>rfl
   | some o=>rw [kget kk e] at h; cases h
 ·obtain ⟨⟨h₁,tk,rfl,_⟩,_⟩:=kk; exact st.gens hg
 ·obtain ⟨⟨h₁,tk,rfl,_⟩,_⟩:=kk; exact st.drawn
theorem K1_S0 {s:Shared} (g:Glob w S0 s) {a:Addr} {o:Obj} (e:(K1 w).lookup a = some o) : S0.heap.get? a = some o:=by
 have hm:=mem_of_lookupA e
 obtain ⟨hm,hc⟩:=List.mem_filter.mp hm
 exact g.base.X a o (nodup_of_lookups (K0_keys w.params) hm)
theorem zip_keys : ∀ (ns:List Str) (ys:List Value),((ns.zip ys).map (·.1)).Sublist ns
 | [],_=>by simp
 | n :: ns,[]=>by simp
 | n :: ns,y :: ys=>by
  rw [List.zip_cons_cons,List.map_cons]
  exact (zip_keys ns ys).cons_cons n
theorem lookup_nodup {β:Type} : ∀ {l:List (Str × β)} {x:Str} {z:β},(l.map (·.1)).Nodup → (x,z) ∈ l → l.lookup x = some z
 | q :: l,x,z,hn,hp=>by
  rw [List.map_cons,List.nodup_cons] at hn
  rcases memc hp with h | h
  ·cases h; rw [List.lookup_cons,beq_self_eq_true]
  ·have hne : x ≠ q.1:=fun e=>hn.1 (e ▸ List.mem_map_of_mem h)
   rw [List.lookup_cons,beq_eq_false_iff_ne.mpr hne]
   exact lookup_nodup hn.2 h
theorem mem_of_lookupS {β:Type} : ∀ {l:List (Str × β)} {x:Str} {z:β},l.lookup x = some z → (x,z) ∈ l
 | q :: l,x,z,h=>by
  rw [List.lookup_cons] at h
  by_cases e : (x == q.1) = true
  ·rw [e] at h; cases h; rw [beq_iff_eq.mp e]; exact .head _
  ·rw [show (x == q.1) = false from by simpa using e] at h; exact .tail _ (mem_of_lookupS h)
theorem nodup_rev_lookup {ns:List Str} {ys:List Value} {x:Str} {z:Value} (hns:ns.Nodup) (h:(ns.zip ys).lookup x = some z) : (ns.zip ys).reverse.lookup x = some z:=by
 have hm : (x,z) ∈ (ns.zip ys):=mem_of_lookupS h
 have hn : ((ns.zip ys).reverse.map (·.1)).Nodup:=by
  rw [List.map_reverse]
  exact (List.reverse_perm _).nodup_iff.mpr (List.Sublist.nodup (zip_keys ns ys) hns)
 exact lookup_nodup hn (List.mem_reverse.mpr hm)
theorem enter_callA {A:Around} {s:Shared} {ms:List Addr} {mu:List (Addr × MO)} {gen:Bool} {f:Addr} {fd:FuncData} {body:List Stmt} {oc:Value} {od:Option Addr} {osl:Array (Option Value)} {ns:List Str} {vs:List V} {xs ys:List Value} {Q:AF → St → Prop} {R':Result → Shared → Prop}
  (hK:(K1 w).lookup f = some ⟨oc,od,.func fd,osl⟩) (hcd:codeIn (K1 w) fd.code fd.qualname = true) (hbind:BindsTo s fd ⟨ys,[]⟩ (ns.zip xs))
  (hbody:fd.body = .stmts body) (hg:fd.globals = mainGlobals) (hb:fd.builtins = builtinsNs)
  (hkind:(ns.all fun y=>fd.scope.names.lookup y == some .local) = true) (hns:ns.Nodup) (hcell:∀ x ∈ fd.scope.names,x.2 ≠ .cell)
  (hcl:∀ p ∈ fd.closure,fd.scope.names.lookup p.1 ≠ some .cell ∧ ∃ oc od v os,(K1 w).lookup p.2 = some ⟨oc,od,.cell v,os⟩) (hap:fd.closure.Pairwise fun x y=>x.2 ≠ y.2)
  (hco:fd.scope.isCoroutine = false) (hgen:fd.scope.isGenerator = false) (hk:fd.scope.kind = .function)
  (ft:Fit (k + 1) A) (g:GM w S0 ms mu s) (hx:VRs S0 (adr mu ++ ms) s vs xs)
  (body_ok:∀ L out,EXsA ⟨w,S0,callEnv fd L f,out,gen⟩ k ⟨ns.zip vs,mu⟩ body body Q)
  (hR:∀ fl s' c σ' af,Q af σ' → R c σ' s' → (∀ a ∈ ms,a ∈ c.out) → c.gen = gen → FR c.S0 (msOf c σ') s' af fl → StepM gen mu s σ'.mu s' → c.w = w → c.S0 = S0 → R' (.ok (.ret (match fl with | .ret v=>v | _=>.none))) s') :
  codeAny (model P0 w) A (.call (.ref f) ⟨ys,[]⟩) R' s:=by
 refine ks_codeAny_call_defAt ft.room (g.glob.X1 _ _ hK) rfl g.glob.limit (codeRec_of g.glob.X1 hcd) hbody hbind hcell (fun x hx=>?_) (fun h₀ hn hkeep=>?_) hco hgen hk
 ·have:=List.all_eq_true.mp hkind x.1 (List.of_mem_zip hx).1
  simpa using this
 ·have kk : Kp s { s with heap:=h₀,toks:=s.toks + (ns.zip xs).length }:=⟨⟨h₀,_,rfl,hkeep⟩,Nat.le_add_right _ _⟩
  have ok:=enter_coreA (A:=A.deeper (callEnv fd s.heap.objs.size f)) (env:=callEnv fd s.heap.objs.size f) (oc:=[]) (loc:=ns.zip vs) (R':=R') g kk ⟨hk,hg,hb⟩ rfl hn (fun y v hv=>?_) (fun p hp=>?_) (fun a ha=>by cases ha) hap ft.deeper
   (body_ok s.heap.objs.size ([] ++ ms)) (fun fl s' σ' af hQ r hf st=>hR fl s' _ σ' af hQ r (fun a ha=>memR _ ha) rfl hf st rfl rfl)
  ·exact ks_wpAt_mono ok (fun ζ ζ h=>h) fun ζ ζ h=>h.elim
  ·obtain ⟨z,hz,hr⟩:=zip_lookup hx hv
   have hm:=lookup_mem hz
   have hkk:=List.all_eq_true.mp hkind y hm
   exact .inl ⟨beq_iff_eq.mp hkk,z,nodup_rev_lookup hns hz,hr⟩
  ·obtain ⟨h1,oc,od,v,os,e⟩:=hcl p hp
   have e0:=g.glob.X1 _ _ e
   exact ⟨.inr ⟨h1,_,K1_S0 g.glob e⟩,v,_,hkeep _ _ e0,rfl⟩
end
end Mine.Internal
end
section
namespace Mine.Internal
section
variable {w:World} {S0:Shared} {k:Nat} {c:Cx} {σ:St} {B:List Stmt}
noncomputable abbrev supObj (a:Addr) : Obj:={ cls:=.type "super",dict:=none,data:=.fields #[.ref 235,.ref a,.ref 235],slots:=#[] }
structure SupIn (c:Cx) (σ:St) (a:Addr) (y:Str) : Prop where
 ks : c.env.kindOf "super" = some .globalImplicit
 kc : c.env.kindOf "__class__" = some .free
 cell : c.env.cells.lookup ("__class__":Str) = some 159
 fn : ∃ f oc od osl fd ar,c.env.func = some f ∧ (K1 c.w).lookup f = some ⟨oc,od,.func fd,osl⟩ ∧ (fd.params.posonlyargs ++ fd.params.args).head? = some ar ∧ ar.arg = y
 code : ∃ cc oc od vs osl file tf,c.env.code = .ref cc ∧ (K1 c.w).lookup cc = some ⟨oc,od,.fields vs,osl⟩ ∧ vs[2]? = some (.str file tf) ∧ (P0.main.file == file) = true
 self : σ.loc.lookup y = some (.mob a)
 ky : c.env.kindOf y = some .local
theorem cell159 (w:World) : ∃ oc od osl,(K1 w).lookup 159 = some ⟨oc,od,.cell (some (.ref 235)),osl⟩:=⟨_,_,_,K1_of (by rfl) (by rfl)⟩
theorem sup_base {A:Around} {s:Shared} {a d:Addr} {o:MO} {kvs:List (Str × V)} {y attr:Str} {p0 p1:Pos} {whole:Sem Value} (u:SupIn c σ a y) (r:R c σ s) (h:σ.mu.lookup a = some o) (hc:o.clsOf = some (235,d)) (hd:σ.mu.lookup d = some (.dict kvs)) (hat:(attr == ("__class__":Str)) = false) :
  WPA c.w A (.func B c.env) (attributeBase (.Call (.Name "super" p0) [] [] p1) attr c.env whole) (fun x s'=>∃ q,x = .ref q ∧ s'.heap.get? q = some (supObj a) ∧ Kp s s') s:=by
 obtain ⟨f,oc,od,osl,fd,ar,e1,e2,e3,rfl⟩:=u.fn
 obtain ⟨cc,oc',od',vs,osl',file,tf,e4,e5,e6,e7⟩:=u.code
 obtain ⟨c1,c2,c3,hcell⟩:=cell159 c.w
 obtain ⟨ox,odx,I⟩:=r.inst h hc hd
 obtain ⟨m,hm,hv⟩:=r.vars
 obtain ⟨mg,mb,N⟩:=r.glob.names
 have X:=r.glob.X1
 obtain ⟨cd,hcd⟩ : ∃ cd,clsIn (K1 c.w) 235 = some cd:=by obtain ⟨cd,T⟩:=takes235 c.w; exact ⟨cd,T.cls⟩
 obtain ⟨oD,hD1,hD2⟩ : ∃ oD,s.heap.get? 235 = some oD ∧ oD.data = .cls cd:=by
  unfold clsIn at hcd
  split at hcd
  ·rename_i c d cd' sl ho
   cases hcd
   exact ⟨_,X _ _ ho,rfl⟩
  ·cases hcd
 obtain ⟨hh,g,dr,t,os⟩:=s
 refine ks_wpAt_super_base u.ks u.kc hat e1 (X _ _ e2) rfl e3 e4 (X _ _ e5) rfl e6 e7 (by kernel_rfl) ?_
 refine ks_loadName_global r.eok.kind u.ks (loadGlobal_builtin (mg:=mg) (mb:=mb) (by rw [r.eok.globals]; exact N.g) (mg_none_of X N.g (by kernel_rfl)) (by rw [r.eok.builtins]; exact N.b) ((N.builtins _ (by decide)).trans (by kernel_rfl:bootBuiltins "super" = some (.type "super"))) ⟨rfl,?_⟩)
 refine wpAny_loadName_free r.eok.kind u.kc u.cell ⟨_,X _ _ hcell,rfl⟩ ?_
 rcases hv _ _ u.self with ⟨hk,y',hy,hr⟩ | ⟨hk,_⟩
 ·cases hr
  refine wpAny_loadName_local r.eok.kind u.ky hm hy ?_
  refine ks_wpAny_isType_cls hD1 hD2 ⟨rfl,?_⟩
  refine ks_wpAny_call_super hD1 hD2 I.at_.at_ I.at_.cls (fun cx e=>?_) (looks_mroIn X (by kernel_rfl)) (fun h' e kk=>?_)
  ·have:=I.at_.no
   unfold notCls at this
   rw [e] at this
   exact Bool.noConfusion this
  ·exact ⟨_,rfl,e,⟨⟨h',t,rfl,kk⟩,Nat.le_refl _⟩⟩
 ·rw [u.ky] at hk; rcases hk with hk | hk <;> cases hk
end
end Mine.Internal
end
section
namespace Mine.Internal
theorem slot_mdget : Slot "method_descriptor" "__get__" "method_descriptor.__get__":=.of (owner:="method_descriptor") (n:="__get__") (by rw [typeLookup_type,builtinLookup_eq_fast]; kernel_rfl) (by decide +kernel) (by decide +kernel) (by decide +kernel)
 (by first | exact .inl (by decide +kernel) | exact .inr (by decide +kernel)) (by rw [isSubtype_type]; kernel_rfl)
theorem slot_wdget : Slot "wrapper_descriptor" "__get__" "wrapper_descriptor.__get__":=.of (owner:="wrapper_descriptor") (n:="__get__") (by rw [typeLookup_type,builtinLookup_eq_fast]; kernel_rfl) (by decide +kernel) (by decide +kernel) (by decide +kernel)
 (by first | exact .inl (by decide +kernel) | exact .inr (by decide +kernel)) (by rw [isSubtype_type]; kernel_rfl)
theorem entry_mdget : entryFor table "method_descriptor.__get__" = some Builtin.«method_descriptor.__get__»:=entryFor_of_tree (by kernel_rfl)
theorem entry_wdget : entryFor table "wrapper_descriptor.__get__" = some Builtin.«wrapper_descriptor.__get__»:=entryFor_of_tree (by kernel_rfl)
theorem args_mdget (a b c:Value) : argsOk "method_descriptor.__get__" ⟨[a,b,c],[]⟩:=by unfold argsOk; kernel_rfl
theorem args_wdget (a b c:Value) : argsOk "wrapper_descriptor.__get__" ⟨[a,b,c],[]⟩:=by unfold argsOk; kernel_rfl
theorem ty_pop : typeOf (.builtin "list.pop") = pure (.type "method_descriptor"):=by kernel_rfl
theorem ty_len : typeOf (.builtin "list.__len__") = pure (.type "wrapper_descriptor"):=by kernel_rfl
theorem ty_init : typeOf (.builtin "list.__init__") = pure (.type "wrapper_descriptor"):=by kernel_rfl
end Mine.Internal
end
section
namespace Mine.Internal
theorem owner_pop : ".".intercalate ("list.pop".cutAt '.').dropLast = "list":=by kernel_rfl
theorem owner_len : ".".intercalate ("list.__len__".cutAt '.').dropLast = "list":=by kernel_rfl
theorem owner_init : ".".intercalate ("list.__init__".cutAt '.').dropLast = "list":=by kernel_rfl
theorem told_pop : Manifest.toldItsClass.contains "list.pop" = false:=by kernel_rfl
noncomputable abbrev boundB (id:String) (x:Addr) : Obj:={ cls:=.type "builtin_function_or_method",data:=.fields #[.builtin id,.ref x] }
noncomputable abbrev boundW (id:String) (x:Addr) : Obj:={ cls:=.type "method-wrapper",data:=.fields #[.builtin id,.ref x] }
section
variable {w:World} {A:Around} {E:Value → Shared → Prop} {h:Heap} {g:Array GenState} {d:Drawn} {t:Nat} {os:OsState} {Q:Fin → Shared → Prop}
theorem run_mdget {id:String} {x:Addr} (ho:".".intercalate (id.cutAt '.').dropLast = "list") (htold:Manifest.toldItsClass.contains id = false) (hi:Looks (model P0 w) h (isInstance (.ref x) (.type "list")) true)
  (hq:Q (.done (.ret (.ref h.objs.size))) ⟨h.push (boundB id x),g,d,t,os⟩) :
  wpAny (model P0 w) A (Builtin.«method_descriptor.__get__» ⟨[.builtin id,.ref x,.ref 235],[]⟩) Q E ⟨h,g,d,t,os⟩:=by
 unfold Builtin.«method_descriptor.__get__»
 refine wpAny_bind (wpAny_of_eq (a:=(.builtin id,some (.ref x),some (.ref 235))) (by first | rfl | kernel_rfl) ?_)
 dsimp only
 rw [if_neg (by rw [htold]; decide)]
 refine wpAny_bind (wpAny_bind (wpAny_of_eq (a:=(Str.ofString ((id.cutAt '.').getLastD ""),.type (".".intercalate (id.cutAt '.').dropLast))) rfl ?_))
 dsimp only
 rw [ho]
 refine wpAny_bind (hi.at ?_)
 refine wpAny_pure ?_
 exact wpAny_bind (wpAny_newObj_type (wpAny_pure hq))
theorem run_wdget {id:String} {x:Addr} (ho:".".intercalate (id.cutAt '.').dropLast = "list") (hi:Looks (model P0 w) h (isInstance (.ref x) (.type "list")) true)
  (hq:Q (.done (.ret (.ref h.objs.size))) ⟨h.push (boundW id x),g,d,t,os⟩) :
  wpAny (model P0 w) A (Builtin.«wrapper_descriptor.__get__» ⟨[.builtin id,.ref x,.ref 235],[]⟩) Q E ⟨h,g,d,t,os⟩:=by
 unfold Builtin.«wrapper_descriptor.__get__»
 refine wpAny_bind (wpAny_of_eq (a:=(.builtin id,some (.ref x),some (.ref 235))) (by first | rfl | kernel_rfl) ?_)
 refine wpAny_bind (wpAny_bind (wpAny_of_eq (a:=(Str.ofString ((id.cutAt '.').getLastD ""),.type (".".intercalate (id.cutAt '.').dropLast))) rfl ?_))
 dsimp only
 rw [ho]
 refine wpAny_bind (hi.at ?_)
 refine wpAny_pure ?_
 exact wpAny_bind (wpAny_newObj_type (wpAny_pure hq))
end
end Mine.Internal
end
section
namespace Mine.Internal
section
variable {w:World}
theorem along_pop : alongIn (K1 w) "pop" [.type "list",.type "object"] = some (some (.builtin "list.pop")):=by kernel_rfl
theorem along_len : alongIn (K1 w) "__len__" [.type "list",.type "object"] = some (some (.builtin "list.__len__")):=by kernel_rfl
theorem along_init : alongIn (K1 w) "__init__" [.type "list",.type "object"] = some (some (.builtin "list.__init__")):=by kernel_rfl
theorem mro235 : (clsIn (K1 w) 235).map (·.mro) = some [.ref 235,.type "list",.type "object"]:=by
 have h:=cls235 (w:=w)
 obtain ⟨cd,h1,h2⟩:=Option.map_eq_some_iff.mp h
 have:=congrArg Prod.fst h2
 rw [h1]; exact congrArg some (eq_of_beq this)
theorem look_mro235 {M:Model} {h:Heap} (X:(K1 w).In h) : Looks M h (mroOf (.ref 235)) [.ref 235,.type "list",.type "object"]:=by
 obtain ⟨cd,h1,h2⟩:=Option.map_eq_some_iff.mp (mro235 (w:=w))
 rw [← h2]
 exact (looks_clsIn X h1).andThen .now
theorem opaque235 {h:Heap} (X:(K1 w).In h) : Looks (model P0 w) h (opaqueClassAbove (.ref 235)) none:=looks_opaque X (by kernel_rfl)
end
section
variable {w:World} {A:Around} {E:Value → Shared → Prop} {h:Heap} {g:Array GenState} {d:Drawn} {t:Nat} {os:OsState}
theorem super_gaB {so x:Addr} {id gid T:String} {name:Str} {tk:Tok} {Q:Fin → Shared → Prop}
  (hso:h.get? so = some (supObj x)) (X:(K1 w).In h)
  (hf:alongIn (K1 w) name [.type "list",.type "object"] = some (some (.builtin id))) (hty:typeOf (.builtin id) = pure (.type T)) (slot:Slot T "__get__" gid) (hxC:x ≠ 235) (hn:(name == ("__class__":Str)) = false)
  (hq:wpAny (model P0 w) A (call (.builtin gid) [.builtin id,.ref x,.ref 235]) (fun v=>Q (.done (.ret v))) E ⟨h,g,d,t,os⟩) :
  wpAny (model P0 w) A (Builtin.«super.__getattribute__» ⟨[.ref so,.str name tk],[]⟩) Q E ⟨h,g,d,t,os⟩:=by
 have hlk:=slot.lookup
 have hne : (Value.ref x == Value.ref 235) = false:=by simp [hxC]
 have hdt : ({ cls:=.type "super",dict:=none,data:=.fields #[.ref 235,.ref x,.ref 235],slots:=#[] } : Obj).data = .fields #[.ref 235,.ref x,.ref 235]:=rfl
 have f0 : (#[.ref 235,.ref x,.ref 235] : Array Value)[0]? = some (.ref 235):=rfl
 have f1 : (#[.ref 235,.ref x,.ref 235] : Array Value)[1]? = some (.ref x):=rfl
 have f2 : (#[.ref 235,.ref x,.ref 235] : Array Value)[2]? = some (.ref 235):=rfl
 have hl : (([.ref 235,.type "list",.type "object"] : List Value).dropWhile (· != .ref 235)).drop 1 = [.type "list",.type "object"]:=by decide
 have hq' : wpAny (model P0 w) A (call (.builtin gid) [.builtin id,.ref x,.ref 235]) (fun v s'=>Q (.done (.ret v)) s') E ⟨h,g,d,t,os⟩:=hq
 unfold Builtin.«super.__getattribute__»
 repeat (first
  | (with_reducible refine wpAny_field hso hdt f0 ?_) | (with_reducible refine wpAny_field hso hdt f1 ?_) | (with_reducible refine wpAny_field hso hdt f2 ?_)
  | (with_reducible refine ks_wpAny_notOpaque (opaque235 X) ?_)
  | (with_reducible refine Looks.at (look_mro235 X) ?_; rw [hl])
  | (refine ks_forIn_along X (fun ζ ζ=>rfl) rfl ?_ hf)
  | (rw [hty])
  | (rw [hlk])
  | (with_reducible refine wpAny_mono hq (fun v s' hv=>?_) fun ζ ζ z=>z)
  | (with_reducible refine ⟨_,rfl,?_⟩)
  | (simp only [hn,hne,Bool.or_false,Bool.false_eq_true,if_false])
  | wp_step
  | dsimp only)
 all_goals (try exact hv)
theorem getMethod_superB {so x:Addr} {id gid T:String} {name:Str} {pl:Sem Bool} {Q:Value × List Value → Shared → Prop}
  (hso:h.get? so = some (supObj x)) (X:(K1 w).In h)
  (hf:alongIn (K1 w) name [.type "list",.type "object"] = some (some (.builtin id))) (hty:typeOf (.builtin id) = pure (.type T)) (slot:Slot T "__get__" gid) (hxC:x ≠ 235) (hn:(name == ("__class__":Str)) = false)
  (hq:∀ A',wpAny (model P0 w) A' (call (.builtin gid) [.builtin id,.ref x,.ref 235]) (fun v s'=>∃ q,v = .ref q ∧ Q (v,[]) s') (fun ζ ζ=>False) ⟨h,g,d,t + 1,os⟩) :
  wpAny (model P0 w) A (getMethod (.ref so) name pl) Q E ⟨h,g,d,t,os⟩:=by
 have hlk:=F.ks_slot_super_ga.lookup
 have hcan:=F.ks_canon_super_ga
 have hT : ∀ t',(⟨h,g,d,t',os⟩ : Shared).TypeIs (.ref so) "super":=fun ζ=>⟨_,hso,rfl⟩
 unfold getMethod
 refine wpAny_bind (wpAny_specialOf (hT _) hlk ?_)
 show wpAny _ _ (if (Manifest.canonical "super.__getattribute__" != "object.__getattribute__") = true then _ else _) _ _ _
 rw [if_pos hcan]
 unfold getAttr getAttrBy
 refine wpAny_bind (wpAny_bind (wpAny_mkText (wpAny_holding (wpAny_bind (wpAny_typeOf (hT _) (wpAny_bind (wpAny_of_eq hlk ?_)))))))
 show wpAny _ _ (getAttrByItsOwn (.ref so) (.str name t) (.type "super") (.builtin "super.__getattribute__") true false) _ _ _
 unfold getAttrByItsOwn hookBefore callGetattribute boundAndCalled
 refine wpAny_bind (wpAny_of_eq (show (if onTheHeap (.type "super") then typeLookup (.type "super") "__getattr__" else pure none) = pure none from rfl) ?_)
 refine wpAny_bind (wpAny_attempt (wpAny_holding ?_))
 show wpAny _ _ (bindSpecial (.builtin "super.__getattribute__") (.ref so) >>= _) _ _ _
 refine wpAny_bind (wpAny_of_eq (F.ks_slot_super_ga.bind _) ?_)
 refine wpAny_mono (Q:=fun v s'=>∃ q,v = .ref q ∧ Q (v,[]) s') (E:=fun ζ ζ=>False)
  (wpAny_call_entry F.ks_slot_super_ga (hT _) F.ks_entry_super_ga (super_gaB hso X hf hty slot hxC hn (WPmono (hq _) fun v s' hv=>⟨_,rfl,hv⟩)) (F.ks_gaArgs_super _ _)) (fun v s' hv=>?_) fun ζ ζ z=>z.elim
 obtain ⟨q,rfl,hv⟩:=hv
 exact wpAny_pure (wpAny_pure hv)
end
end Mine.Internal
end
section
namespace Mine.Internal
noncomputable abbrev accOb (d:Addr) (items:Array Value) (n:Nat) : Obj:=⟨.ref 235,some d,.seq items n,#[]⟩
theorem mapSeq_acc (f:Array Value → Array Value) (d:Addr) (items:Array Value) (n:Nat) : ∃ n',Obj.mapSeq f (accOb d items n) = accOb d (f items) n':=⟨_,rfl⟩
section
open PySem.Builtin PySem.Builtin.List
variable {w:World} {A:Around} {E:Value → Shared → Prop} {h:Heap} {g:Array GenState} {d:Drawn} {t:Nat} {os:OsState} {Q:Fin → Shared → Prop}
theorem run_pop {x dx:Addr} {items:Array Value} {n:Nat} {y:Value} (hl:h.get? x = some (accOb dx items n)) (hy:items[items.size - 1]? = some y) (hsz:items.size ≤ sizeLine)
  (hq:Q (.done (.ret y)) ⟨h.update x (Obj.mapSeq fun xs=>xs.eraseIdxIfInBounds (items.size - 1)),g,d,t,os⟩) :
  wpAny (model P0 w) A (Builtin.«list.pop» ⟨[.ref x],[]⟩) Q E ⟨h,g,d,t,os⟩:=by
 have hpos : 0 < items.size:=by
  rcases Nat.eq_zero_or_pos items.size with h0 | h0
  ·simp [h0] at hy
  ·exact h0
 have hne : ¬ items.isEmpty = true:=by
  intro he; have : items.size = 0:=by simpa using he
  w_left
 have hk : seqIndex? (-1) items.size = some (items.size - 1):=by
  rw [seqIndex_neg (by w_left) (by w_left)]; exact congrArg some (neg1_nat _)
 have hz' : (items.eraseIdxIfInBounds (items.size - 1)).size ≤ sizeLine + 1:=by rw [← Array.length_toList]; simp only [Array.toList_eraseIdxIfInBounds]; exact Nat.le_trans (List.length_eraseIdx_le _ _) (by rw [Array.length_toList]; w_left)
 unfold Builtin.«list.pop»
 refine wpAny_bind (wpAny_of_eq (a:=(.ref x,[])) (by kernel_rfl) ?_)
 refine wpAny_bind (wpAny_pure ?_)
 dsimp only
 refine wpAny_ite_false (by decide) ?_
 refine wpAny_bind (wpAny_listItems hl rfl ?_)
 rw [if_neg hne]
 simp only [hk,hy,Option.bind_some,Option.map_some]
 refine wpAny_bind (wpAny_updateSeq hl rfl ?_ hsz hz')
 exact wpAny_pure hq
theorem run_len {x dx:Addr} {items:Array Value} {n:Nat} (hl:h.get? x = some (accOb dx items n))
  (hq:∀ u,Q (.done (.ret (.int items.size u))) ⟨h,g,d,t + 1,os⟩) :
  wpAny (model P0 w) A (Builtin.«list.__len__» ⟨[.ref x],[]⟩) Q E ⟨h,g,d,t,os⟩:=by
 unfold Builtin.«list.__len__»
 refine wpAny_bind (wpAny_of_eq (a:=(.ref x,[])) (by kernel_rfl) ?_)
 dsimp only
 unfold seqSize
 refine wpAny_bind (wpAny_bind (wpAny_loadPart hl (wpAny_pure ?_)))
 exact wpAny_bind (wpAny_mkInt (wpAny_pure (hq _)))
theorem run_init {x dx:Addr} {items:Array Value} {n:Nat} (hl:h.get? x = some (accOb dx items n)) (hsz:items.size ≤ sizeLine)
  (hq:Q (.done (.ret .none)) ⟨h.update x (Obj.mapSeq fun ζ=>#[]),g,d,t,os⟩) :
  wpAny (model P0 w) A (Builtin.«list.__init__» ⟨[.ref x],[]⟩) Q E ⟨h,g,d,t,os⟩:=by
 unfold Builtin.«list.__init__»
 dsimp only
 rw [if_neg (by decide),if_neg (by decide)]
 refine wpAny_bind (wpAny_listItems hl rfl ?_)
 refine wpAny_bind (wpAny_updateSeq hl rfl ?_ hsz (by simp))
 exact wpAny_bind (wpAny_letGo (wpAny_pure hq))
end
end Mine.Internal
end
section
namespace Mine.Internal
section
variable {w:World} {A:Around} {E:Value → Shared → Prop} {h:Heap} {g:Array GenState} {d:Drawn} {t:Nat} {os:OsState}
theorem looks_acc_type {x dx:Addr} {items:Array Value} {n:Nat} (hl:h.get? x = some (accOb dx items n)) : Looks (model P0 w) h (typeOf (.ref x)) (.ref 235):=(Looks.ld hl).andThen .now
theorem looks_235list (X:(K1 w).In h) : Looks (model P0 w) h (isSubtype (.ref 235) (.type "list")) true:=looks_mroIn X (by kernel_rfl)
theorem looks_235mod (X:(K1 w).In h) : Looks (model P0 w) h (isSubtype (.ref 235) (.type "module")) false:=looks_mroIn X (by kernel_rfl)
theorem inst_list {x dx:Addr} {items:Array Value} {n:Nat} (X:(K1 w).In h) (hl:h.get? x = some (accOb dx items n)) : Looks (model P0 w) h (isInstance (.ref x) (.type "list")) true:=by
 unfold isInstance
 exact (looks_acc_type hl).andThen (looks_235list X)
theorem inst_mod {x dx:Addr} {items:Array Value} {n:Nat} (X:(K1 w).In h) (hl:h.get? x = some (accOb dx items n)) : Looks (model P0 w) h (isInstance (.ref x) (.type "module")) false:=by
 unfold isInstance
 exact (looks_acc_type hl).andThen (looks_235mod X)
theorem kind_pop : builtinKind "list.pop" = some .method:=by decide +kernel
theorem kind_len : builtinKind "list.__len__" = some .slot:=by decide +kernel
theorem row_pop : Manifest.signature? "list.pop" = some ⟨.positional,"list.pop","pop",.self,[⟨"index",.posOnly,false⟩]⟩:=by kernel_rfl
theorem notvar_pop : Manifest.varargsMethods.contains "list.pop" = false:=by decide +kernel
theorem name235 : (clsIn (K1 w) 235).map (fun cd=>cd.qualname.toString) = some "_Accumulator":=by kernel_rfl
theorem bargs_pop (x:Value) : Bind.checkArgs "list.pop" ⟨.positional,toString "_Accumulator" ++ toString "." ++ toString (Bind.lastOf "list.pop"),"pop",.self,[⟨"index",.posOnly,false⟩]⟩ ⟨[x],[]⟩ = pure ():=by kernel_rfl
theorem bcheck_len (x:Value) : checkBoundCall "list.__len__" ⟨[x],[]⟩ = pure ():=by kernel_rfl
theorem bcheck_init (x:Value) : checkBoundCall "list.__init__" ⟨[x],[]⟩ = pure ():=by kernel_rfl
theorem type_of235 (X:(K1 w).In h) : Looks (model P0 w) h (typeOf (.ref 235)) (.type "type"):=looks_typeIn X (by kernel_rfl)
theorem bcheck_pop {x dx:Addr} {items:Array Value} {n:Nat} {Q:Unit → Shared → Prop} (X:(K1 w).In h) (hl:h.get? x = some (accOb dx items n)) (hq:Q () ⟨h,g,d,t,os⟩) :
  wpAny (model P0 w) A (checkBoundCall "list.pop" ⟨[.ref x],[]⟩) Q E ⟨h,g,d,t,os⟩:=by
 obtain ⟨cd,hcd⟩ : ∃ cd,clsIn (K1 w) 235 = some cd:=by obtain ⟨cd,T⟩:=takes235 w; exact ⟨cd,T.cls⟩
 obtain ⟨oc,od,sl,hC⟩ : ∃ oc od sl,h.get? 235 = some ⟨oc,od,.cls cd,sl⟩:=by
  unfold clsIn at hcd
  split at hcd
  ·rename_i c d cd' sl ho
   cases hcd
   exact ⟨_,_,_,X _ _ ho⟩
  ·cases hcd
 unfold checkBoundCall
 rw [row_pop,kind_pop]
 dsimp only
 refine wpAny_ite_false (by decide) ?_
 refine wpAny_bind ((inst_mod X hl).at ?_)
 rw [if_neg (by rw [notvar_pop]; decide)]
 refine wpAny_bind (ks_wpAny_isType_inst hl (fun ζ e=>by cases e) ?_)
 refine wpAny_ite_false (by decide) ?_
 refine wpAny_bind ((looks_acc_type hl).at ?_)
 dsimp only
 unfold classData
 refine wpAny_bind (wpAny_bind (wpAny_load hC (wpAny_pure ?_)))
 refine wpAny_bind ((type_of235 X).at ?_)
 refine wpAny_ite_true (by decide) ?_
 have hn : cd.qualname.toString = "_Accumulator":=by
  have:=name235 (w:=w)
  rw [hcd] at this; exact Option.some.inj this
 rw [hn,bargs_pop]
 exact wpAny_pure hq
theorem call_bound {T id:String} {b x:Addr} {Q:Value → Shared → Prop} (hT:T = "builtin_function_or_method" ∨ T = "method-wrapper") (hb:h.get? b = some { cls:=.type T,data:=.fields #[.builtin id,.ref x] })
  (hc:∀ (A:Around) (Q':Unit → Shared → Prop) (E:Value → Shared → Prop),Q' () ⟨h,g,d,t,os⟩ → wpAny (model P0 w) A (checkBoundCall id ⟨[.ref x],[]⟩) Q' E ⟨h,g,d,t,os⟩)
  {B:Builtin} (hpl:(Code.builtin id ⟨[.ref x],[]⟩).quiet = true) (hent:entryFor table id = some B) (hrun:∀ A,wpAny (model P0 w) A (B ⟨[.ref x],[]⟩) (fun fin s'=>∃ v,fin = .done (.ret v) ∧ Q v s') (fun ζ ζ=>False) ⟨h,g,d,t,os⟩) :
  wpAny (model P0 w) A (call (.ref b) []) Q E ⟨h,g,d,t,os⟩:=by
 refine wpAny_call (codeAny_of_tree ?_)
 show wpAny _ _ (callAny (.ref b) _) _ _ _
 unfold callAny
 refine wpAny_bind (wpAny_load hb ?_)
 dsimp only
 rw [if_pos (by rcases hT with rfl | rfl <;> decide)]
 rw [show (#[Value.builtin id,Value.ref x] : Array Value)[0]? = some (.builtin id) from rfl,show (#[Value.builtin id,Value.ref x] : Array Value)[1]? = some (.ref x) from rfl]
 dsimp only
 rw [if_pos (by rcases hT with rfl | rfl <;> decide)]
 refine wpAny_bind (hc _ _ _ ?_)
 refine wpAny_bind (wpAny_pure ?_)
 refine wpAny_pure (a:=Fin.again (.builtin id ⟨[.ref x],[]⟩)) ⟨hpl,codeAny_builtin hent ?_⟩
 refine wpAny_mono (hrun _) (fun fin s' hf=>?_) fun ζ ζ z=>z.elim
 obtain ⟨v,rfl,hv⟩:=hf
 exact hv
theorem plain_len : plainId "list.__len__" = true:=by decide +kernel
theorem plain_init : plainId "list.__init__" = true:=by decide +kernel
theorem plain_pop : plainId "list.pop" = true:=by decide +kernel
theorem entry_lpop : entryFor table "list.pop" = some Builtin.«list.pop»:=entryFor_of_tree (by kernel_rfl)
theorem entry_llen : entryFor table "list.__len__" = some Builtin.«list.__len__»:=entryFor_of_tree (by kernel_rfl)
theorem entry_linit : entryFor table "list.__init__" = some Builtin.«list.__init__»:=entryFor_of_tree (by kernel_rfl)
end
end Mine.Internal
end
section
namespace Mine.Internal
section
variable {w:World} {S0:Shared} {k:Nat} {c:Cx} {σ:St} {B:List Stmt}
theorem keeper_bound {M:Model} {h:Heap} {T id:String} {b x:Addr} (hT:T = "builtin_function_or_method" ∨ T = "method-wrapper") (hb:h.get? b = some { cls:=.type T,data:=.fields #[.builtin id,.ref x] }) : Looks M h (keeperOf (.ref b)) .machine:=by
 unfold keeperOf
 refine Looks.andThen (Looks.ld (part:=none) hb) ?_
 intro A Q E s kk q
 dsimp only
 rw [if_pos (by rcases hT with rfl | rfl <;> decide),if_pos (by rcases hT with rfl | rfl <;> decide)]
 exact wpAny_pure q
structure SupB (w:World) (T id gid:String) (name:Str) (Bi:Builtin) : Prop where
 T' : T = "builtin_function_or_method" ∨ T = "method-wrapper"
 bind : ∀ {A:Around} {E:Value → Shared → Prop} {Q:Value → Shared → Prop} {s:Shared} {x dx:Addr} {items:Array Value} {n:Nat},(K1 w).In s.heap → s.heap.get? x = some (accOb dx items n) →
  Q (.ref s.heap.objs.size) { s with heap:=s.heap.push { cls:=.type T,data:=.fields #[.builtin id,.ref x] } } → wpAny (model P0 w) A (call (.builtin gid) [.builtin id,.ref x,.ref 235]) Q E s
 along : alongIn (K1 w) name [.type "list",.type "object"] = some (some (.builtin id))
 ty : ∃ D,typeOf (.builtin id) = pure (.type D) ∧ Slot D "__get__" gid
 check : ∀ {A:Around} {E:Value → Shared → Prop} {Q:Unit → Shared → Prop} {s:Shared} {x dx:Addr} {items:Array Value} {n:Nat},(K1 w).In s.heap → s.heap.get? x = some (accOb dx items n) → Q () s → wpAny (model P0 w) A (checkBoundCall id ⟨[.ref x],[]⟩) Q E s
 quiet : ∀ x,(Code.builtin id ⟨[.ref x],[]⟩).quiet = true
 entry : entryFor table id = some Bi
 notC : (name == ("__class__":Str)) = false
theorem supPop (w:World) : SupB w "builtin_function_or_method" "list.pop" "method_descriptor.__get__" "pop" Builtin.«list.pop» where
 T':=.inl rfl
 bind X hl hq:=wpAny_call_entry slot_mdget ty_pop entry_mdget (run_mdget owner_pop told_pop (inst_list X hl) ⟨_,rfl,hq⟩) (args_mdget _ _ _)
 along:=along_pop
 ty:=⟨_,ty_pop,slot_mdget⟩
 check X hl hq:=bcheck_pop X hl hq
 quiet x:=plainId_quiet plain_pop _
 entry:=entry_lpop
 notC:=by decide
theorem supLen (w:World) : SupB w "method-wrapper" "list.__len__" "wrapper_descriptor.__get__" "__len__" Builtin.«list.__len__» where
 T':=.inr rfl
 bind X hl hq:=wpAny_call_entry slot_wdget ty_len entry_wdget (run_wdget owner_len (inst_list X hl) ⟨_,rfl,hq⟩) (args_wdget _ _ _)
 along:=along_len
 ty:=⟨_,ty_len,slot_wdget⟩
 check X hl hq:=wpAny_of_eq (bcheck_len _) hq
 quiet x:=plainId_quiet plain_len _
 entry:=entry_llen
 notC:=by decide
theorem supInit (w:World) : SupB w "method-wrapper" "list.__init__" "wrapper_descriptor.__get__" "__init__" Builtin.«list.__init__» where
 T':=.inr rfl
 bind X hl hq:=wpAny_call_entry slot_wdget ty_init entry_wdget (run_wdget owner_init (inst_list X hl) ⟨_,rfl,hq⟩) (args_wdget _ _ _)
 along:=along_init
 ty:=⟨_,ty_init,slot_wdget⟩
 check X hl hq:=wpAny_of_eq (bcheck_init _) hq
 quiet x:=plainId_quiet plain_init _
 entry:=entry_linit
 notC:=by decide
theorem EMA.sup {T id gid:String} {name y:Str} {Bi:Builtin} {a d:Addr} {vs:List V} {kvs:List (Str × V)} {p0 p1 apos pos:Pos} {Q:V → St → Prop} (u:SupIn c σ a y) (h:σ.mu.lookup a = some (.acc d vs)) (hd:σ.mu.lookup d = some (.dict kvs)) (b:SupB c.w T id gid name Bi)
  (hrun:∀ A s,R c σ s → wpAny (model P0 c.w) A (Bi ⟨[.ref a],[]⟩) (fun fin s'=>∃ x v σ',fin = .done (.ret x) ∧ Q v σ' ∧ R c σ' s' ∧ VR c.S0 (msOf c σ') s' v x ∧ Step c σ s σ' s') (fun ζ ζ=>False) s)
  (he:∃ pl,eval (.Call (.Attribute (.Call (.Name "super" p0) [] [] p1) name apos) [] [] pos) c.env = (do
   let ov ← attributeBase (.Call (.Name "super" p0) [] [] p1) name c.env (eval (.Call (.Name "super" p0) [] [] p1) c.env)
   standAt apos.atName
   let (f,first) ← holding [ov] (getMethod ov name pl)
   callWith pos f first (backTo pos (starEach [] c.env)) []):=by exact ⟨_,rfl⟩) :
  EMA c k σ B (.Call (.Attribute (.Call (.Name "super" p0) [] [] p1) name apos) [] [] pos) Q:=by
 intro A s ft r
 obtain ⟨pl,he⟩:=he
 refine ks_wpAt_MethodCall (WPAmono (sup_base u r h rfl hd b.notC) fun x s₁ w0=>?_) he
 obtain ⟨q,e,ho,k₁⟩:=w0
 subst e
 have r₁:=r.keeps k₁
 obtain ⟨xs,n,ga,hr⟩:=r₁.at h
 have X:=r₁.glob.X1
 have hne : a ≠ 235:=fun e=>by
  subst e
  obtain ⟨cd,Tk⟩:=takes235 c.w
  have hcd:=Tk.cls
  unfold clsIn at hcd
  split at hcd
  ·rename_i c' d' cd' sl ho'
   have:=X _ _ ho'
   rw [ga] at this
   cases this
  ·cases hcd
 obtain ⟨D,hty,slot⟩:=b.ty
 obtain ⟨hp,g,dr,t,os⟩:=s₁
 refine getMethod_superB (so:=q) (x:=a) ho X b.along hty slot hne b.notC fun A'=>?_
 have k₂ : Kp (⟨hp,g,dr,t,os⟩ : Shared) ⟨hp.push { cls:=.type T,data:=.fields #[.builtin id,.ref a] },g,dr,t + 1,os⟩:=kpush _ _ (Nat.le_succ _)
 refine b.bind (s:=⟨hp,g,dr,t + 1,os⟩) X ga ⟨_,rfl,?_⟩
 dsimp only
 have hbd : (hp.push { cls:=.type T,data:=.fields #[.builtin id,.ref a] }).get? hp.objs.size = some { cls:=.type T,data:=.fields #[.builtin id,.ref a] }:=Heap.get?_push_at rfl rfl
 refine callWith_of (P:=fun h=>h.get? hp.objs.size = some { cls:=.type T,data:=.fields #[.builtin id,.ref a] }) (by rfl) (fun h' e=>⟨.machine,.inr (.inl rfl),keeper_bound b.T' e⟩) ?_
 refine wp_evalArgs (by rfl) (WPmono (EVL.nil pos A _ ft (r₁.keeps k₂)) fun xs' s₂ w0=>?_)
 obtain ⟨hx,k₃⟩:=w0
 w_dflts hx
 have r₂:=(r₁.keeps k₂).keeps k₃
 obtain ⟨xs₂,n₂,ga₂,hr₂⟩:=r₂.at h
 have hb₂:=kget k₃ hbd
 refine ⟨hb₂,?_⟩
 obtain ⟨hp₂,g₂,dr₂,t₂,os₂⟩:=s₂
 refine call_bound b.T' hb₂ (fun A Q' E q=>b.check (s:=⟨hp₂,g₂,dr₂,t₂,os₂⟩) r₂.glob.X1 ga₂ q) (b.quiet _) b.entry fun A''=>?_
 refine WPmono (hrun A'' _ r₂) fun fin s₃ w0=>?_
 obtain ⟨x,v,σ',e,hQ,r₃,hx,st⟩:=w0
 refine ⟨x,e,v,σ',hQ,r₃,hx,?_⟩
 exact ((Step.of_keeps (ktrans k₁ k₂)).trans (Step.of_keeps k₃)).trans st
end
end Mine.Internal
end
section
namespace Mine.Internal
theorem VRs.dropLast {S:Shared} {ms:List Addr} {s:Shared} {vs:List V} {xs:List Value} (h:VRs S ms s vs xs) : VRs S ms s vs.dropLast xs.dropLast:=by
 rw [List.dropLast_eq_take,List.dropLast_eq_take,h.length]
 exact h.take _
section
variable {w:World} {S0:Shared} {k:Nat} {c:Cx} {σ:St} {B:List Stmt}
theorem R.accUpd {s:Shared} {a d:Addr} {vs vs':List V} {f:Array Value → Array Value} {xs:Array Value} {n:Nat} (r:R c σ s) (h:σ.mu.lookup a = some (.acc d vs)) (ga:s.heap.get? a = some (accOb d xs n)) (hv:VRs c.S0 (msOf c σ) s vs' (f xs).toList) :
  R c ⟨σ.loc,updM σ.mu a (.acc d vs')⟩ { s with heap:=s.heap.update a (Obj.mapSeq f) } ∧ Step c σ s ⟨σ.loc,updM σ.mu a (.acc d vs')⟩ { s with heap:=s.heap.update a (Obj.mapSeq f) } ∧ ∀ v x,VR c.S0 (msOf c σ) s v x → VR c.S0 (msOf c ⟨σ.loc,updM σ.mu a (.acc d vs')⟩) { s with heap:=s.heap.update a (Obj.mapSeq f) } v x:=by
 obtain ⟨n',hn⟩:=mapSeq_acc f d xs n
 have hg : (s.heap.update a (Obj.mapSeq f)).get? a = some (accOb d (f xs) n'):=by rw [Heap.get?_update_self _ ga (by rw [hn]; rfl),hn]
 have ch : Chg [a] s { s with heap:=s.heap.update a (Obj.mapSeq f) }:=chg_same (tk:=s.toks) (Heap.SameBut.update ..) ⟨_,hg⟩ (Nat.le_refl _)
 have up:=ch.up (ms:=msOf c σ) fun b hb=>by rw [mem1 hb]; exact memL _ (.tail _ (lookup_adr h))
 obtain ⟨r',st⟩:=r.upd (lookup_adr h) ch (o:=.acc d vs') ⟨_,n',hg,hv.mono up ch.toks⟩
 exact ⟨r',st,fun v x hx=>by rw [ms_upd]; exact hx.mono up ch.toks⟩
theorem R.acc {s:Shared} {a d:Addr} {vs:List V} (r:R c σ s) (h:σ.mu.lookup a = some (.acc d vs)) : ∃ xs n,s.heap.get? a = some (accOb d xs n) ∧ VRs c.S0 (msOf c σ) s vs xs.toList ∧ xs.size = vs.length:=by
 obtain ⟨xs,n,ga,hr⟩:=r.at h
 exact ⟨xs,n,ga,hr,by rw [← hr.length,Array.length_toList]⟩
theorem EMA.superInit {y:Str} {a d:Addr} {vs:List V} {kvs:List (Str × V)} {p0 p1 apos pos:Pos} {Q:V → St → Prop} (u:SupIn c σ a y) (h:σ.mu.lookup a = some (.acc d vs)) (hd:σ.mu.lookup d = some (.dict kvs)) (hsz:vs.length ≤ sizeLine)
  (hQ:Q .none ⟨σ.loc,updM σ.mu a (.acc d [])⟩) (he:∃ pl,eval (.Call (.Attribute (.Call (.Name "super" p0) [] [] p1) "__init__" apos) [] [] pos) c.env = (do
   let ov ← attributeBase (.Call (.Name "super" p0) [] [] p1) "__init__" c.env (eval (.Call (.Name "super" p0) [] [] p1) c.env)
   standAt apos.atName
   let (f,first) ← holding [ov] (getMethod ov "__init__" pl)
   callWith pos f first (backTo pos (starEach [] c.env)) []):=by exact ⟨_,rfl⟩) :
  EMA c k σ B (.Call (.Attribute (.Call (.Name "super" p0) [] [] p1) "__init__" apos) [] [] pos) Q:=by
 refine EMA.sup u h hd (supInit c.w) (fun A s r=>?_) he
 obtain ⟨xs,n,ga,hr,hl⟩:=r.acc h
 obtain ⟨r',st,_⟩:=r.accUpd (f:=fun ζ=>#[]) (vs':=[]) h ga .nil
 obtain ⟨hp,g,dr,t,os⟩:=s
 exact run_init ga (by rw [hl]; exact hsz) ⟨_,_,_,rfl,hQ,r',.none,st⟩
theorem EMA.superLen {y:Str} {a d:Addr} {vs:List V} {kvs:List (Str × V)} {p0 p1 apos pos:Pos} {Q:V → St → Prop} (u:SupIn c σ a y) (h:σ.mu.lookup a = some (.acc d vs)) (hd:σ.mu.lookup d = some (.dict kvs))
  (hQ:Q (.int vs.length) σ) (he:∃ pl,eval (.Call (.Attribute (.Call (.Name "super" p0) [] [] p1) "__len__" apos) [] [] pos) c.env = (do
   let ov ← attributeBase (.Call (.Name "super" p0) [] [] p1) "__len__" c.env (eval (.Call (.Name "super" p0) [] [] p1) c.env)
   standAt apos.atName
   let (f,first) ← holding [ov] (getMethod ov "__len__" pl)
   callWith pos f first (backTo pos (starEach [] c.env)) []):=by exact ⟨_,rfl⟩) :
  EMA c k σ B (.Call (.Attribute (.Call (.Name "super" p0) [] [] p1) "__len__" apos) [] [] pos) Q:=by
 refine EMA.sup u h hd (supLen c.w) (fun A s r=>?_) he
 obtain ⟨xs,n,ga,hr,hl⟩:=r.acc h
 have k₁ : Kp s { s with toks:=s.toks + 1 }:=ktoks _
 have r':=r.keeps k₁
 obtain ⟨hp,g,dr,t,os⟩:=s
 refine run_len ga fun u=>⟨_,_,_,rfl,hQ,r',?_,Step.of_keeps k₁⟩
 rw [hl]; exact .int _ _
theorem EMA.superPop {y:Str} {a d:Addr} {vs:List V} {v:V} {kvs:List (Str × V)} {p0 p1 apos pos:Pos} {Q:V → St → Prop} (u:SupIn c σ a y) (h:σ.mu.lookup a = some (.acc d (vs ++ [v]))) (hd:σ.mu.lookup d = some (.dict kvs)) (hsz:vs.length < sizeLine)
  (hQ:Q v ⟨σ.loc,updM σ.mu a (.acc d vs)⟩) (he:∃ pl,eval (.Call (.Attribute (.Call (.Name "super" p0) [] [] p1) "pop" apos) [] [] pos) c.env = (do
   let ov ← attributeBase (.Call (.Name "super" p0) [] [] p1) "pop" c.env (eval (.Call (.Name "super" p0) [] [] p1) c.env)
   standAt apos.atName
   let (f,first) ← holding [ov] (getMethod ov "pop" pl)
   callWith pos f first (backTo pos (starEach [] c.env)) []):=by exact ⟨_,rfl⟩) :
  EMA c k σ B (.Call (.Attribute (.Call (.Name "super" p0) [] [] p1) "pop" apos) [] [] pos) Q:=by
 refine EMA.sup u h hd (supPop c.w) (fun A s r=>?_) he
 obtain ⟨xs,n,ga,hr,hl⟩:=r.acc h
 rw [List.length_append,List.length_singleton] at hl
 have hd:=hr.dropLast
 rw [List.dropLast_concat] at hd
 have he : xs.size - 1 = vs.length:=by w_left
 obtain ⟨x,hx,hvx⟩:=hr.get (i:=vs.length) (v:=v) (by simp)
 have hf : (xs.eraseIdxIfInBounds (xs.size - 1)).toList = xs.toList.dropLast:=by
  rw [Array.toList_eraseIdxIfInBounds,List.dropLast_eq_take,List.eraseIdx_eq_take_drop_succ,Array.length_toList,List.drop_of_length_le (by rw [Array.length_toList]; w_left),List.append_nil]
 obtain ⟨r',st,hmv⟩:=r.accUpd (f:=fun xs'=>xs'.eraseIdxIfInBounds (xs.size - 1)) (vs':=vs) h ga (by rw [hf]; exact hd)
 have hx':=hmv v x hvx
 obtain ⟨hp,g,dr,t,os⟩:=s
 refine run_pop ga (y:=x) (by rw [he,← Array.getElem?_toList]; exact hx) (by w_left) ⟨_,_,_,rfl,hQ,r',hx',st⟩
end
end Mine.Internal
end
section
namespace Mine.Internal
section
variable {w:World} {S0:Shared} {k:Nat} {gen:Bool}
theorem FNM.introA {f:Addr} {fd:FuncData} {body:List Stmt} {oc:Value} {od:Option Addr} {osl:Array (Option Value)} {ns:List Str} {vs:List V} {mu:List (Addr × MO)} {Q:V → List (Addr × MO) → Prop}
  (hK:(K1 w).lookup f = some ⟨oc,od,.func fd,osl⟩) (hcd:codeIn (K1 w) fd.code fd.qualname = true) (hbind:∀ xs : List Value,xs.length = vs.length → bindArgs fd ⟨xs,[]⟩ = pure (ns.zip xs))
  (hbody:fd.body = .stmts body) (hg:fd.globals = mainGlobals) (hb:fd.builtins = builtinsNs)
  (hkind:(ns.all fun y=>fd.scope.names.lookup y == some .local) = true) (hns:ns.Nodup) (hcell:∀ x ∈ fd.scope.names,x.2 ≠ .cell)
  (hcl:∀ p ∈ fd.closure,fd.scope.names.lookup p.1 ≠ some .cell ∧ ∃ oc od v os,(K1 w).lookup p.2 = some ⟨oc,od,.cell v,os⟩) (hap:fd.closure.Pairwise fun x y=>x.2 ≠ y.2)
  (hco:fd.scope.isCoroutine = false) (hgen:fd.scope.isGenerator = false) (hk:fd.scope.kind = .function)
  (body_ok:∀ L out,EXsA ⟨w,S0,callEnv fd L f,out,gen⟩ k ⟨ns.zip vs,mu⟩ body body (BackM Q)) : FNM w S0 (k + 1) gen (fun xs=>call (.ref f) xs) vs mu Q:=by
 intro ms A s xs ft g hx
 refine wpAny_call (enter_callA (gen:=gen) hK hcd (.of_eq (hbind xs hx.length)) hbody hg hb hkind hns hcell hcl hap hco hgen hk ft g hx body_ok ?_)
 intro fl s' c σ' af hQ r hms hg hf st hw hS
 subst hw hS
 exact backM hms hQ r hf st g.live
noncomputable def strIs (x:Value) : Bool:=match x with | .str file _=>P0.main.file == file | _=>false
noncomputable def codeFile (o:Obj) : Bool:=match o.data with | .fields vs=>(match vs[2]? with | some v=>strIs v | none=>false) | _=>false
theorem sup_code (w:World) (cc:Addr) (h:((K1 w).lookup cc).any codeFile = true) : ∃ oc od vs osl file tf,(K1 w).lookup cc = some ⟨oc,od,.fields vs,osl⟩ ∧ vs[2]? = some (.str file tf) ∧ (P0.main.file == file) = true:=by
 obtain ⟨o,e,ho⟩:=any_some h
 obtain ⟨oc,od,dt,osl⟩:=o
 unfold codeFile at ho
 cases dt with
 | fields vs=>
  dsimp only at ho
  cases hv : vs[2]? with
  | none=>rw [hv] at ho; cases ho
  | some v=>
   rw [hv] at ho
   cases v with
   | str file tf=>exact ⟨oc,od,vs,osl,file,tf,e,hv,ho⟩
   | _=>cases ho
 | _=>cases ho
theorem code231 : ((K1 w).lookup 231).any codeFile = true:=by kernel_rfl
theorem code194 : ((K1 w).lookup 194).any codeFile = true:=by kernel_rfl
theorem code171 : ((K1 w).lookup 171).any codeFile = true:=by kernel_rfl
set_option maxHeartbeats 1000000 in
theorem part_count_ok {a d:Addr} {vs:List V} {kvs:List (Str × V)} {mu:List (Addr × MO)} (h:mu.lookup a = some (.acc d vs)) (hd:mu.lookup d = some (.dict kvs)) :
  FNM w S0 (k + 1) gen (fun xs=>call (.ref 232) xs) [.mob a] mu (fun v mu'=>v = .int vs.length ∧ mu' = mu):=by
 obtain ⟨c1,c2,c3,h159⟩:=cell159 w
 refine FNM.introA (ns:=["self"]) (K1_of (by rfl) (by rfl)) (by kernel_rfl) (args1 fun ζ=>rfl) rfl (by rfl) (by rfl) (by rfl) (by decide) (by decide) (fun p hp=>?_) (List.pairwise_singleton _ _) rfl rfl rfl (fun L out=>?_)
 ·cases mem1 hp
  exact ⟨by decide,_,_,_,_,h159⟩
 ·refine EXsA.cons (EXA.ret (EMA.superLen (y:="self") ⟨by rfl,by rfl,by rfl,⟨232,_,_,_,_,_,rfl,K1_of (by rfl) (by rfl),rfl,rfl⟩,?_,by rfl,by rfl⟩ h hd ⟨rfl,rfl⟩))
  obtain ⟨oc,od,vs,osl,file,tf,e,e2,e3⟩:=sup_code w 231 code231
  exact ⟨231,oc,od,vs,osl,file,tf,rfl,e,e2,e3⟩
end
end Mine.Internal
end
section
namespace Mine.Internal
section
variable {w:World} {S0:Shared} {k:Nat} {c:Cx} {σ:St} {B:List Stmt}
theorem EM.mono {e:Expr} {Q Q':V → St → Prop} (h:EM c k σ e Q) (hq:∀ v σ',Q v σ' → Q' v σ') : EM c k σ e Q':=fun A s f r=>WPmono (h A s f r) fun x s' ⟨v,σ',a,b,d,e⟩=>⟨v,σ',hq _ _ a,b,d,e⟩
inductive EmlP (c:Cx) (σ:St) (s:Shared) (P:List V → St → Prop) (xs:List Value) (s':Shared) : Prop
 | mk (vs:List V) (σ':St) : P vs σ' → R c σ' s' → VRs c.S0 (msOf c σ') s' vs xs → Step c σ s σ' s' → EmlP c σ s P xs s'
inductive EmbP (c:Cx) (σ:St) (s:Shared) (P:Bool → St → Prop) (b:Bool) (s':Shared) : Prop
 | mk (σ':St) : P b σ' → R c σ' s' → Step c σ s σ' s' → EmbP c σ s P b s'
noncomputable def EML (c:Cx) (k:Nat) (σ:St) (es:List Expr) (P:List V → St → Prop) : Prop:=∀ pos A s,Fit k A → R c σ s → WP c.w A (spliced (backTo pos (starEach es c.env))) (EmlP c σ s P) s
theorem EML.of {es:List Expr} {vs:List V} {P:List V → St → Prop} (h:EVL c k σ es vs) (hP:P vs σ) : EML c k σ es P:=fun pos A s f r=>
 WPmono (h pos A s f r) fun xs s₁ ⟨hx,k₁⟩=>⟨vs,σ,hP,r.keeps k₁,hx,.of_keeps k₁⟩
theorem EML.cons {e:Expr} {es:List Expr} {P:List V → St → Prop} (h:EM c k σ e fun v σ₁=>EML c k σ₁ es fun vs σ₂=>P (v :: vs) σ₂) (he:starEach (e :: es) c.env = (false,eval e c.env) :: starEach es c.env:=by rfl) : EML c k σ (e :: es) P:=by
 intro pos A s f r
 rw [he]
 refine spliced_cons (WPmono (h A s f r) fun x s₁ w0=>?_)
 obtain ⟨v,σ₁,hm,r₁,hx,st₁⟩:=w0
 refine WPmono (hm pos A s₁ f r₁) fun xs s₂ ⟨vs,σ₂,hP,r₂,hxs,st₂⟩=>⟨_,σ₂,hP,r₂,.cons (hx.mono (st₂.up r₁) st₂.toks) hxs,st₁.trans st₂⟩
theorem EML.one {e:Expr} {P:List V → St → Prop} (h:EM c k σ e fun v σ₁=>P [v] σ₁) (he:starEach [e] c.env = (false,eval e c.env) :: starEach [] c.env:=by rfl) : EML c k σ [e] P:=
 .cons (h.mono fun v σ₁ hP=>.of .nil hP) he
theorem EM.tuple {es:List Expr} {n:Nat} {pos:Pos} {Q:V → St → Prop} (h:EML c k σ es fun vs σ'=>vs.length ≤ sizeLine ∧ Q (.tup vs) σ') : EM c k σ (.Tuple es n pos) Q:=by
 intro A s f r
 refine Tuple_ (WPmono (h pos A s f r) fun xs s₁ w0=>?_)
 obtain ⟨vs,σ₁,⟨hz,hQ⟩,r₁,hx,st₁⟩:=w0
 have k₂ : Kp s₁ { s₁ with heap:=s₁.heap.push { cls:=.type "tuple",data:=.seq xs.toArray } }:=kpush _ _
 refine wpAny_newObj_type ⟨_,σ₁,hQ,r₁.keeps k₂,vr_newTuple r₁.gl.fresh hx,st₁.trans (.of_keeps k₂)⟩ ?_
 show xs.toArray.size ≤ sizeLine
 rw [List.size_toArray,hx.length]; exact hz
theorem EM.newListOf {es:List Expr} {pos:Pos} {Q:V → St → Prop} (h:EML c k σ es fun vs σ'=>vs.length ≤ sizeLine ∧ ∀ a,a ∉ adr σ'.mu → Q (.mob a) ⟨σ'.loc,(a,.list vs) :: σ'.mu⟩) : EM c k σ (.List es pos) Q:=by
 intro A s f r
 refine List_ (WPmono (h pos A s f r) fun xs s₁ w0=>?_)
 obtain ⟨vs,σ₁,⟨hz,hQ⟩,r₁,hx,st₁⟩:=w0
 have k₂:=kpush (s:=s₁) { cls:=.type "list",data:=.seq xs.toArray } s₁.toks
 have n:=new_of (s':={ s₁ with heap:=s₁.heap.push { cls:=.type "list",data:=.seq xs.toArray } }) r₁.glob (krefl s₁) (Nat.le_refl _) ⟨_,Heap.get?_push_size _ rfl⟩
 have hx' : VRs c.S0 (msOf c ⟨σ₁.loc,(s₁.heap.objs.size,.list vs) :: σ₁.mu⟩) { s₁ with heap:=s₁.heap.push { cls:=.type "list",data:=.seq xs.toArray } } vs xs:=hx.mono (fun b o hb ζ e=>⟨fun q=>by
  rcases mema q with q | q
  ·rcases memc q with q | q
   ·exact hb (memL _ (q ▸ .head _))
   ·rcases memc q with q | q
    ·rw [show b = s₁.heap.objs.size from q] at e; exact absurd (Heap.lt_size e) (Nat.lt_irrefl _)
    ·exact hb (memL _ (.tail _ q))
  ·exact hb (memR _ q),kget k₂ e⟩) k₂.t
 obtain ⟨r₂,st₂⟩:=r₁.new (o:=.list vs) k₂ n ⟨_,_,Heap.get?_push_size _ rfl,by rw [List.toList_toArray]; exact hx'⟩
 refine wpAny_newObj_type ⟨.mob s₁.heap.objs.size,_,hQ _ fun q=>?_,r₂,.mob _,st₁.trans st₂⟩ ?_
 ·obtain ⟨o,e⟩:=r₁.liveMs _ (memL _ (.tail _ q)); exact n.ne e
 ·show xs.toArray.size ≤ sizeLine
  rw [List.size_toArray,hx.length]; exact hz
theorem EM.callE {fe:Expr} {es:List Expr} {fv:Value} {pos:Pos} {Q:V → St → Prop} (hf:EV c k σ fe (.val fv)) (hc:Callee c.w c.S0 fv)
  (ha:EML c k σ es fun vs σ'=>FNM c.w c.S0 k c.gen (fun xs=>call fv xs) vs σ'.mu fun v mu'=>Q v ⟨σ'.loc,mu'⟩)
  (hs:Sane c:=by rfl) (he:eval (.Call fe es [] pos) c.env = (do callWith pos (← eval fe c.env) [] (backTo pos (starEach es c.env)) []):=by rfl) (hp:(starEach es c.env).any (·.1) = false:=by rfl) : EM c k σ (.Call fe es [] pos) Q:=by
 intro A s ft r
 rw [he]
 refine wpAny_bind (WPmono (hf A s ft r) fun x s₁ w0=>?_)
 obtain ⟨hx,k₁⟩:=w0
 w_dflts hx
 have r₁:=r.keeps k₁
 refine callWith_of (P:=fun h=>∃ s',s'.heap = h ∧ Glob c.w c.S0 s') (by rw [plainArgs hp]; rfl) (fun h ⟨s',e,g⟩=>e ▸ hc s' g) ?_
 refine wp_evalArgs (plainArgs hp) (WPmono (ha pos A s₁ ft r₁) fun xs s₂ w0=>?_)
 obtain ⟨vs,σ₂,hF,r₂,hxs,st₂⟩:=w0
 refine ⟨⟨s₂,rfl,r₂.glob⟩,?_⟩
 have hxs' : VRs c.S0 (adr σ₂.mu ++ msC c) s₂ vs xs:=hxs.mono (fun b o hb ζ e=>⟨fun q=>hb (mem_msC.mp q),e⟩) (Nat.le_refl _)
 refine WPmono (hF (msC c) A s₂ xs ft r₂.gm hxs') fun z s₃ w0=>?_
 obtain ⟨v,mu',hP,g,hz,st⟩:=w0
 obtain ⟨r₃,st₃⟩:=r₂.after hs g st
 exact ⟨v,_,hP,r₃,hz.mono (fun b o hb ζ e=>⟨fun q=>hb (mem_msC.mpr q),e⟩) (Nat.le_refl _),((Step.of_keeps k₁).trans st₂).trans st₃⟩
theorem EM.bin {l rr:Expr} {op:Operator} {pos:Pos} {Q:V → St → Prop} (hl:EM c k σ l fun a σ₁=>∃ b v,EV c k σ₁ rr b ∧ OP2 c.w c.S0 k (binaryOp op) a b v ∧ Q v σ₁) : EM c k σ (.BinOp l op rr pos) Q:=by
 intro A s f r
 refine wpAny_BinOp (WPmono (hl A s f r) fun x s₁ w0=>?_)
 obtain ⟨a,σ₁,⟨b,v,hr,ho,hQ⟩,r₁,hx,st₁⟩:=w0
 refine WPmono (hr A s₁ f r₁) fun y s₂ w0=>?_
 obtain ⟨hy,k₂⟩:=w0
 have r₂:=r₁.keeps k₂
 refine WPmono (ho _ A s₂ x y f r₂.gl (hx.keeps k₂) hy) fun z s₃ ⟨hz,k₃⟩=>⟨v,σ₁,hQ,r₂.keeps k₃,hz,st₁.trans (.of_keeps (ktrans k₂ k₃))⟩
noncomputable def EMB (c:Cx) (k:Nat) (σ:St) (e:Expr) (P:Bool → St → Prop) : Prop:=∀ A s,Fit k A → R c σ s → WP c.w A (isTrue e c.env (eval e c.env)) (EmbP c σ s P) s
theorem EMB.of {e:Expr} {b:Bool} {P:Bool → St → Prop} (h:EVB c k σ e b) (hP:P b σ) : EMB c k σ e P:=fun A s f r=>
 WPmono (h A s f r) fun x s₁ ⟨hx,k₁⟩=>⟨σ,hx ▸ hP,r.keeps k₁,.of_keeps k₁⟩
theorem EMB.cmp {l rr:Expr} {op:CmpOp} {pos:Pos} {P:Bool → St → Prop} (hl:EM c k σ l fun a σ₁=>∃ b p,EV c k σ₁ rr b ∧ OP2 c.w c.S0 k (compareOp op) a b (.bool p) ∧ P p σ₁) (hm:behindInMarks op rr = false:=by rfl) : EMB c k σ (.Compare l [op] [rr] pos) P:=by
 intro A s f r
 refine wpAny_isTrue_Compare1 (WPmono (hl A s f r) fun x s₁ w0=>?_) hm
 obtain ⟨a,σ₁,⟨b,p,hr,ho,hP⟩,r₁,hx,st₁⟩:=w0
 refine WPmono (hr A s₁ f r₁) fun y s₂ w0=>?_
 obtain ⟨hy,k₂⟩:=w0
 have r₂:=r₁.keeps k₂
 refine WPmono (ho _ A s₂ x y f r₂.gl (hx.keeps k₂) hy) fun z s₃ w0=>?_
 obtain ⟨hz,k₃⟩:=w0
 w_dflts hz
 refine wpAny_pure ?_
 exact ⟨σ₁,hP,r₂.keeps k₃,st₁.trans (.of_keeps (ktrans k₂ k₃))⟩
theorem EMB.and2 {l rr:Expr} {pos:Pos} {P:Bool → St → Prop} (hl:EMB c k σ l fun b σ₁=>match b with | true=>EMB c k σ₁ rr P | false=>P false σ₁) : EMB c k σ (.BoolOp .And [l,rr] pos) P:=by
 intro A s f R
 show WP c.w A (allTrue .And [l,rr] c.env) _ s
 refine wpAny_allTrue_And_cons (WPmono (hl A s f R) fun x s₁ w0=>?_)
 obtain ⟨σ₁,hx,r₁,st₁⟩:=w0
 cases x with
 | false=>exact ⟨σ₁,hx,r₁,st₁⟩
 | true=>
  refine wpAny_allTrue_And_cons (WPmono (hx A s₁ f r₁) fun b s₂ w0=>?_)
  obtain ⟨σ₂,hP,r₂,st₂⟩:=w0
  cases b with
  | false=>exact ⟨σ₂,hP,r₂,st₁.trans st₂⟩
  | true=>exact wpAny_allTrue_And_nil ⟨σ₂,hP,r₂,st₁.trans st₂⟩
theorem EMB.or2 {l rr:Expr} {pos:Pos} {P:Bool → St → Prop} (hl:EMB c k σ l fun b σ₁=>match b with | false=>EMB c k σ₁ rr P | true=>P true σ₁) : EMB c k σ (.BoolOp .Or [l,rr] pos) P:=by
 intro A s f R
 show WP c.w A (allTrue .Or [l,rr] c.env) _ s
 refine wpAny_allTrue_Or_cons (WPmono (hl A s f R) fun x s₁ w0=>?_)
 obtain ⟨σ₁,hx,r₁,st₁⟩:=w0
 cases x with
 | true=>exact ⟨σ₁,hx,r₁,st₁⟩
 | false=>
  refine wpAny_allTrue_Or_cons (WPmono (hx A s₁ f r₁) fun b s₂ w0=>?_)
  obtain ⟨σ₂,hP,r₂,st₂⟩:=w0
  cases b with
  | true=>exact ⟨σ₂,hP,r₂,st₁.trans st₂⟩
  | false=>exact wpAny_allTrue_Or_nil ⟨σ₂,hP,r₂,st₁.trans st₂⟩
theorem EX.iteM {test:Expr} {body orelse:List Stmt} {pos:Pos} {Q:AF → St → Prop} (h:EMB c k σ test fun b σ₁=>match b with | true=>EXs c k σ₁ body Q | false=>EXs c k σ₁ orelse Q) : EX c k σ (.If test body orelse pos) Q:=by
 intro A s f r
 refine wpAny_If (WPmono (h A s f r) fun x s₁ w0=>?_)
 obtain ⟨σ₁,hx,r₁,st₁⟩:=w0
 cases x with
 | true=>exact WPmono (hx A s₁ f r₁) fun fl s₂ ⟨af,σ₂,hQ,r₂,hf,st₂⟩=>⟨af,σ₂,hQ,r₂,hf,st₁.trans st₂⟩
 | false=>exact WPmono (hx A s₁ f r₁) fun fl s₂ ⟨af,σ₂,hQ,r₂,hf,st₂⟩=>⟨af,σ₂,hQ,r₂,hf,st₁.trans st₂⟩
end
end Mine.Internal
end
section
namespace Mine.Internal
section
variable {w:World} {S0:Shared} {k:Nat} {c:Cx} {σ:St}
noncomputable def SRCM (c:Cx) (k:Nat) (σ:St) (iter t:Expr) (P:List V → St → Prop) : Prop:=∀ A s,Fit k A → R c σ s →
 WP c.w A (eval iter c.env) (fun x s₁=>∃ vs σ₁,P vs σ₁ ∧ R c σ₁ s₁ ∧ Step c σ s σ₁ s₁ ∧ WP c.w A (pyIter x) (ItP c.w A c.S0 t vs (msOf c σ₁) s₁ s₁) s₁) s
theorem EX.forM {target iter:Expr} {body orelse:List Stmt} {pos:Pos} {Q:AF → St → Prop}
  (hit:SRCM c k σ iter target fun vs σ₀=>∃ I : Nat → St → Prop,I 0 σ₀ ∧
   (∀ i v σ₁,vs[i]? = some v → I i σ₁ → ∀ out,BodyP (c.wo out) k σ₁ target v body (LoopQ (I (i + 1)) Q)) ∧
   (∀ σ₁,I vs.length σ₁ → EXs c k σ₁ orelse Q))
  (hs:∀ x,foldedSetIterable iter c.env x = pure x:=by intro _; rfl) : EX c k σ (.For target iter body orelse pos) Q:=by
 intro A s f r
 refine wpAny_For (WPmono (hit A s f r) fun x s₁ w1=>?_) hs
 obtain ⟨vs,σ₀,⟨I,h0,turn,hend⟩,r₁,st₁,h⟩:=w1
 refine WPmono h fun it s₂ w0=>?_
 obtain ⟨k₂,J,wr,St,hI,W,hst,hw⟩:=w0
 subst hI
 refine codeAny_mono (for_core (E:=fun ζ ζ=>False) f r₁ k₂ W hst hw h0 turn hend) fun q s' hq=>?_
 cases q with
 | ok fl=>
  obtain ⟨af,σ',hQ,r',hf,st'⟩:=hq
  exact ⟨af,σ',hQ,r',hf,st₁.trans st'⟩
 | error e=>exact hq.elim
end
end Mine.Internal
end
section
namespace Mine.Internal
section
variable {w:World} {S0:Shared} {k:Nat} {c:Cx} {σ:St}
theorem SRCM.range {fe t:Expr} {es:List Expr} {pos:Pos} {P:List V → St → Prop} (hf:EV c k σ fe (.val (.type "range")))
  (ha:EML c k σ es fun vs σ₁=>∃ (a b st:Int) (n:Nat),(∀ ms s A xs (Q:Value → Shared → Prop),VRs c.S0 ms s vs xs → (∀ o tk t u v,o = ({ cls:=.type "range",data:=.fields #[.int a t,.int b u,.int st v] } : Obj) → s.toks ≤ tk → Q (.ref s.heap.objs.size) { s with heap:=s.heap.push o,toks:=tk }) → WP c.w A (call (.type "range") xs) Q s) ∧
   Builtin.Range.rangeSize a b st = n ∧ Builtin.Range.small a b st = true ∧ P (rngV a st n) σ₁) (ht:∀ it v,letOwnedTupleGo t it v = pure ())
  (he:eval (.Call fe es [] pos) c.env = (do callWith pos (← eval fe c.env) [] (backTo pos (starEach es c.env)) [])) (hp:(starEach es c.env).any (·.1) = false) : SRCM c k σ (.Call fe es [] pos) t P:=by
 intro A s f r
 rw [he]
 refine wpAny_bind (WPmono (hf A s f r) fun x s₁ w0=>?_)
 obtain ⟨hx,k₁⟩:=w0
 w_dflts hx
 have r₁:=r.keeps k₁
 refine callWith_of (P:=fun h=>∃ s',s'.heap = h ∧ Glob c.w c.S0 s') (by rw [plainArgs hp]; rfl) (fun h ⟨s',e,g⟩=>e ▸ Callee.type s' g) ?_
 refine wp_evalArgs (plainArgs hp) (WPmono (ha pos A s₁ f r₁) fun xs s₂ w0=>?_)
 obtain ⟨vs,σ₁,⟨a,b,st,n,hr,hn,hs,hP⟩,r₂,hxs,st₂⟩:=w0
 refine ⟨⟨s₂,rfl,r₂.glob⟩,hr _ _ _ _ _ hxs fun o tk t' u v ho hk=>?_⟩
 have k₃ : Kp s₂ { s₂ with heap:=s₂.heap.push o,toks:=tk }:=kpush o tk hk
 have r₃:=r₂.keeps k₃
 have g₃:=r₃.glob
 refine ⟨_,σ₁,hP,r₃,((Step.of_keeps k₁).trans st₂).trans (.of_keeps k₃),wpAny_pyIter_range (t:=t') (u:=u) (v:=v) (by subst ho; exact Heap.get?_push_size _ rfl) hs ⟨kpush _ _,_,[_],_,rfl,range_itr f.hh _ ht,?_,fun x hx=>?_⟩⟩
 ·rw [hn]
  have:=Heap.get?_push_size (s₂.heap.push o) (o:={ cls:=.type "range_iterator",data:=.fields #[rawInt a,rawInt (n:Int),rawInt st] }) rfl
  show IsRangeIter _ _ _ _ _
  simpa [IsRangeIter] using this
 ·rw [mem1 hx]
  exact new_of g₃ (krefl _) (Nat.le_refl _) ⟨_,Heap.get?_push_size _ rfl⟩
end
end Mine.Internal
end
section
namespace Mine.Internal
theorem acc_gi (w:World) : findIn (K1 w) (.ref 235) "__getitem__" = some (some (.builtin "list.__getitem__")):=by kernel_rfl
theorem acc_si (w:World) : findIn (K1 w) (.ref 235) "__setitem__" = some (some (.builtin "list.__setitem__")):=by kernel_rfl
theorem acc_it (w:World) : findIn (K1 w) (.ref 235) "__iter__" = some (some (.builtin "list.__iter__")):=by kernel_rfl
theorem acc_ap (w:World) : findIn (K1 w) (.ref 235) "append" = some (some (.builtin "list.append")):=by kernel_rfl
theorem acc_ga (w:World) : findIn (K1 w) (.ref 235) "__getattribute__" = some (some (.builtin "list.__getattribute__")):=by kernel_rfl
theorem entry_lga : entryFor table "list.__getattribute__" = some Builtin.«object.__getattribute__»:=by
 first | exact F.entry_list_ga | exact F.am_entry_list_getattribute | exact am_entry_list_getattribute | exact PySem.F.entry_list_ga
theorem kind_lga : builtinKind "list.__getattribute__" = some .slot:=by decide +kernel
theorem split_lga : splitId "list.__getattribute__" = some ("list","__getattribute__"):=by decide +kernel
theorem args_lga (a b:Value) : argsOk "list.__getattribute__" ⟨[a,b],[]⟩:=by unfold argsOk; kernel_rfl
theorem plain_lga : plainId "list.__getattribute__" = true:=by decide +kernel
theorem bind_lga (self:Value) : bindSpecial (.builtin "list.__getattribute__") self = pure (.builtin "list.__getattribute__",[self]):=by kernel_rfl
theorem acc_gk (w:World) : findIn (K1 w) (.ref 235) "__getattr__" = some none:=by kernel_rfl
theorem acc_noSeq (w:World) : noSeq (K1 w) 235 = true:=by kernel_rfl
theorem kind_gi : builtinKind "list.__getitem__" = some .method ∨ builtinKind "list.__getitem__" = some .slot:=by decide +kernel
theorem kind_si : builtinKind "list.__setitem__" = some .slot:=by decide +kernel
theorem kind_it : builtinKind "list.__iter__" = some .slot:=by decide +kernel
theorem kind_ap : builtinKind "list.append" = some .method:=by decide +kernel
section
variable {w:World} {A:Around} {E:Value → Shared → Prop} {h:Heap} {g:Array GenState} {d:Drawn} {t:Nat} {os:OsState}
theorem call_L {id name:String} {x dx:Addr} {items:Array Value} {n:Nat} {rest:List Value} {Bi:Builtin} {Q:Value → Shared → Prop} (X:(K1 w).In h) (hl:h.get? x = some (accOb dx items n))
  (hk:builtinKind id = some .method ∨ builtinKind id = some .slot) (hs:splitId id = some ("list",name)) (ha:argsOk id ⟨.ref x :: rest,[]⟩) (hp:plainId id = true) (he:entryFor table id = some Bi)
  (hrun:wpAny (model P0 w) A.in1 (Bi ⟨.ref x :: rest,[]⟩) (fun fin s'=>∃ v,fin = .done (.ret v) ∧ Q v s') E ⟨h,g,d,t,os⟩) : wpAny (model P0 w) A (call (.builtin id) (.ref x :: rest)) Q E ⟨h,g,d,t,os⟩:=by
 refine wpAny_call (codeAny_call_builtin hp he ?_)
 have hi:=inst_list X hl
 have fin : wpAny (model P0 w) A.in1 (Bi ⟨.ref x :: rest,[]⟩) (fun fin s'=>match fin with | .done f=>(match (Except.ok f:Result) with | .ok (.ret v)=>Q v s' | .ok _=>False | .error e=>E e s') | .again c'=>c'.quiet = true ∧ codeAny (model P0 w) A c' (fun r s'=>match r with | .ok (.ret v)=>Q v s' | .ok _=>False | .error e=>E e s') s') E ⟨h,g,d,t,os⟩:=
  wpAny_mono hrun (fun fin s' ⟨v,e,hv⟩=>by subst e; exact hv) fun ζ ζ z=>z
 rcases hk with hk | hk
 all_goals
  unfold checkBuiltinCall
  rw [hk,hs]
  dsimp only
  refine wpAny_bind (hi.here ?_)
  refine wpAny_ite_false rfl ?_
  cases hsig : Manifest.signature? id with
  | none=>exact wpAny_pure fin
  | some sig=>
   simp only [argsOk,hsig] at ha
   exact wpAny_of_eq ha fin
theorem acc_seqKey {x dx:Addr} {items:Array Value} {n:Nat} {k:Value} {name:Str} {Q:Value → Shared → Prop} (X:(K1 w).In h) (hl:h.get? x = some (accOb dx items n)) (hq:Q k ⟨h,g,d,t,os⟩) : wpAny (model P0 w) A (sequenceKey (.ref x) k name) Q E ⟨h,g,d,t,os⟩:=by
 have hn:=acc_noSeq w
 unfold noSeq at hn
 unfold sequenceKey
 refine wpAny_bind ((looks_acc_type hl).here ?_)
 have hd : Looks (model P0 w) h (isSubtype (.ref 235) (.type "collections.deque")) false:=looks_mroIn X (by kernel_rfl)
 show wpAny _ _ ((seqItemTypes.anyM fun n=>isSubtype (.ref 235) (.type n)) >>= _) _ _ _
 unfold seqItemTypes
 simp only [List.anyM]
 repeat lk
 exact hq
theorem acc_get_value {x dx:Addr} {items:Array Value} {n:Nat} {od:Obj} {name:Str} {v:Value} {expr:Bool} {Q:Value → Shared → Prop} (X:(K1 w).In h) (I:InstAt h x (accOb dx items n) 235 (some od))
  (hf:findObj (K1 w) 235 (some od) name = some (.value v)) (hh:handedIn v = true) (hq:Q v ⟨h,g,d,t + 1,os⟩) : wpAny (model P0 w) A (getAttr (.ref x) name expr) Q E ⟨h,g,d,t,os⟩:=by
 have hl : h.get? x = some (accOb dx items n):=I.at_
 have L0:=I.type (M:=model P0 w)
 have L1:=looks_findIn (M:=model P0 w) X (acc_ga w)
 have L3:=looks_findIn (M:=model P0 w) X (acc_gk w)
 have L2:=looks_find (M:=model P0 w) X I hf
 unfold getAttr getAttrBy
 refine wpAny_bind (wpAny_mkText (wpAny_holding (wpAny_bind (L0.at (wpAny_bind (L1.at ?_))))))
 show wpAny _ _ (getAttrByItsOwn (.ref x) (.str name t) (.ref 235) (.builtin "list.__getattribute__") true expr) _ _ _
 unfold getAttrByItsOwn hookBefore callGetattribute boundAndCalled
 refine wpAny_bind (L3.at ?_)
 refine wpAny_bind (wpAny_attempt (wpAny_holding ?_))
 rw [if_neg (by cases expr <;> decide)]
 refine wpAny_bind (wpAny_of_eq (bind_lga _) ?_)
 refine call_L X hl (.inr kind_lga) split_lga (args_lga _ _) plain_lga entry_lga ?_
 unfold Builtin.«object.__getattribute__»
 refine wpAny_bind (wpAny_of_eq (a:=(.ref x,[.str name t])) (by rfl) ?_)
 refine wpAny_bind (wpAny_pure (wpAny_bind (L0.at (wpAny_bind (L2.at ?_)))))
 refine wpAny_pure ⟨v,rfl,?_⟩
 show wpAny _ _ (handedOut v) _ _ _
 rw [handedOut_of hh]; exact wpAny_pure hq
end
end Mine.Internal
end
section
namespace Mine.Internal
theorem canon_lga : (Manifest.canonical "list.__getattribute__" != "object.__getattribute__") = false:=by decide +kernel
section
variable {w:World} {A:Around} {E:Value → Shared → Prop} {s:Shared} {K:Frag} {x C:Addr} {ox:Obj} {od:Option Obj} {name:Str} {pl:Sem Bool} {Q:Value × List Value → Shared → Prop}
theorem method_any {ga:String} {fv:Value} {T:String} (X:K.In s.heap) (I:InstAt s.heap x ox C od) (hga:findIn K (.ref C) "__getattribute__" = some (some (.builtin ga))) (hcan:(Manifest.canonical ga != "object.__getattribute__") = false) (hk:findIn K (.ref C) "__getattr__" = some none)
  (hf:findIn K (.ref C) name = some (some fv)) (ht:typeIn K fv = some (.type T)) (hT:T = "function" ∨ T = "method_descriptor") (hs:shadowIn od name = some false) (h:Q (fv,[.ref x]) s) :
  wpAny (model P0 w) A (getMethod (.ref x) name pl) Q E s:=by
 unfold getMethod specialOf
 refine wpAny_bind (wpAny_bind (I.type.here ((looks_findIn X hga).here ?_)))
 dsimp only
 rw [hcan,if_neg (by decide)]
 refine wpAny_bind (wpAny_bind (I.type.here ((looks_findIn X hk).here ?_)))
 refine wpAny_bind (wpAny_bind (I.type.here ((looks_findIn X hf).here (wpAny_bind ((looks_typeIn X ht).here ?_)))))
 rw [if_neg (by rcases hT with rfl | rfl <;> decide +kernel)]
 refine wpAny_bind (wpAny_loadPart I.at_ ?_)
 have hd:=I.dict
 cases e : ox.dict with
 | none=>exact wpAny_bind (wpAny_rule (wpAny_pure h))
 | some dx=>
  cases od with
  | none=>rw [e] at hd; exact hd.elim
  | some o=>
   rw [e] at hd
   obtain ⟨r,a,b⟩:=Option.map_eq_some_iff.mp hs
   refine wpAny_bind (wpAny_bind (wpAny_loadPart hd ?_))
   rw [nsLook_of a]
   refine wpAny_pure ?_
   rw [b]
   exact wpAny_bind (wpAny_rule (wpAny_pure h))
end
section
variable {w:World} {S0:Shared} {k:Nat} {c:Cx} {σ:St} {B:List Stmt}
theorem R.accI {s:Shared} {a d:Addr} {vs:List V} {kvs:List (Str × V)} (r:R c σ s) (h:σ.mu.lookup a = some (.acc d vs)) (hd:σ.mu.lookup d = some (.dict kvs)) : ∃ xs n od,Inst c.w c.S0 (msOf c σ) s a 235 d kvs (accOb d xs n) od ∧ VRs c.S0 (msOf c σ) s vs xs.toList ∧ xs.size = vs.length:=by
 obtain ⟨ox,od,I⟩:=r.inst h rfl hd
 obtain ⟨xs,n,ga,hr,hl⟩:=r.acc h
 have : ox = accOb d xs n:=Option.some.inj (I.at_.at_.symm.trans ga)
 subst this
 exact ⟨xs,n,od,I,hr,hl⟩
theorem ev_attrA {e:Expr} {name:Str} {pos:Pos} {a d:Addr} {vs:List V} {kvs:List (Str × V)} {v:V} (he:EV c k σ e (.mob a)) (h:σ.mu.lookup a = some (.acc d vs)) (hd:σ.mu.lookup d = some (.dict kvs)) (hv:getD kvs name = some v) (hm:v.made = true)
  (hn:findIn (K1 c.w) (.ref 235) name = some none) (hh:(clsIn (K1 c.w) 235).any (·.hasDict) = true)
  (hx:eval (.Attribute e name pos) c.env = (do
   let o ← eval e c.env
   standAt pos.atName
   let r ← holding [o] (getAttr o name true)
   letTemporaryGo e o r
   pure r):=by rfl) : EV c k σ (.Attribute e name pos) v:=by
 intro A s f r
 refine Attribute_any_ (WPmono (he A s f r) fun x s₁ w0=>?_) hx
 obtain ⟨hx,k₁⟩:=w0
 w_dflts hx
 have r₁:=r.keeps k₁
 obtain ⟨xs,n,od,I,_,_⟩:=r₁.accI h hd
 obtain ⟨y,hy,hr⟩:=I.get name v hv
 obtain ⟨cd,hcd,hD⟩:=any_some hh
 have X:=r₁.glob.X1
 have k₂ : Kp s₁ { s₁ with toks:=s₁.toks + 1 }:=ktoks _
 obtain ⟨h1,g1,d1,t1,os1⟩:=s₁
 refine acc_get_value X I.at_ ?_ (hr.handed hm) ⟨hr.keeps k₂,ktrans k₁ k₂⟩
 unfold findObj W.ownOf
 rw [hcd,Option.bind_some,hn,Option.bind_some,Option.bind_some,Option.bind_some]
 simp only [hD,if_true,hy,Option.bind_some]
theorem EM.methA {o:Expr} {name:Str} {apos pos:Pos} {es:List Expr} {a d f:Addr} {ws:List V} {kvs:List (Str × V)} {vs:List V} {Q:V → St → Prop} {P:V → List (Addr × MO) → Prop} (ho:EV c k σ o (.mob a)) (h:σ.mu.lookup a = some (.acc d ws)) (hd:σ.mu.lookup d = some (.dict kvs)) (hn:getD kvs name = Option.none)
  (ha:EVL c k σ es vs) (hF:FNM c.w c.S0 k c.gen (fun xs=>call (.ref f) xs) (.mob a :: vs) σ.mu P) (hQ:∀ v mu',P v mu' → Q v ⟨σ.loc,mu'⟩)
  (hf:findIn (K1 c.w) (.ref 235) name = some (some (.ref f))) (ht:typeIn (K1 c.w) (.ref f) = some (.type "function")) (hcal:keepIn (K1 c.w) (.ref f) = true)
  (hs:Sane c:=by rfl)
  (he:∃ pl,eval (.Call (.Attribute o name apos) es [] pos) c.env = (do
   let ov ← eval o c.env
   standAt apos.atName
   let (f,first) ← holding [ov] (getMethod ov name pl)
   callWith pos f first (backTo pos (starEach es c.env)) []):=by exact ⟨_,rfl⟩) (hp:(starEach es c.env).any (·.1) = false:=by rfl) : EM c k σ (.Call (.Attribute o name apos) es [] pos) Q:=by
 intro A s ft r
 obtain ⟨pl,he⟩:=he
 refine MethodCall_ (WPmono (ho A s ft r) fun x s₁ w0=>?_) he
 obtain ⟨hx,k₁⟩:=w0
 w_dflts hx
 have r₁:=r.keeps k₁
 obtain ⟨xs₀,n₀,od,I,_,_⟩:=r₁.accI h hd
 refine method_any r₁.glob.X1 I.at_ (acc_ga _) canon_lga (acc_gk _) hf ht (.inl rfl) ?_ ?_
 ·show (lookIn name od).map (·.isSome) = some false
  rw [I.miss name hn]; rfl
 refine callWith_of (P:=fun h=>∃ s',s'.heap = h ∧ Glob c.w c.S0 s') (by rw [plainArgs hp]; rfl) (fun h ⟨s',e,g⟩=>e ▸ Callee.top hcal s' g) ?_
 refine wp_evalArgs (plainArgs hp) (WPmono (ha pos A s₁ ft r₁) fun xs s₂ w0=>?_)
 obtain ⟨hxs,k₂⟩:=w0
 have r₂:=r₁.keeps k₂
 refine ⟨⟨s₂,rfl,r₂.glob⟩,?_⟩
 have hxs' : VRs c.S0 (adr σ.mu ++ msC c) s₂ (.mob a :: vs) (.ref a :: xs):=.cons (.mob a) (hxs.mono (fun b o hb ζ e=>⟨fun q=>hb (mem_msC.mp q),e⟩) (Nat.le_refl _))
 refine WPmono (hF (msC c) A s₂ _ ft r₂.gm hxs') fun z s₃ w0=>?_
 obtain ⟨v,mu',hP,g,hz,st⟩:=w0
 obtain ⟨r₃,st₃⟩:=r₂.after hs g st
 exact ⟨v,_,hQ v mu' hP,r₃,hz.mono (fun b o hb ζ e=>⟨fun q=>hb (mem_msC.mpr q),e⟩) (Nat.le_refl _),(Step.of_keeps (ktrans k₁ k₂)).trans st₃⟩
theorem split_ap : splitId "list.append" = some ("list","append"):=by decide +kernel
theorem plain_ap : plainId "list.append" = true:=by decide +kernel
theorem EM.appendA {o e:Expr} {apos pos:Pos} {a d:Addr} {ws:List V} {v:V} {kvs:List (Str × V)} {Q:V → St → Prop} (ho:EV c k σ o (.mob a)) (h:σ.mu.lookup a = some (.acc d ws)) (hd:σ.mu.lookup d = some (.dict kvs)) (hn:getD kvs "append" = Option.none)
  (ha:EVL c k σ [e] [v]) (hsz:ws.length ≤ sizeLine) (hQ:Q .none ⟨σ.loc,updM σ.mu a (.acc d (ws ++ [v]))⟩)
  (he:∃ pl,eval (.Call (.Attribute o "append" apos) [e] [] pos) c.env = (do
   let ov ← eval o c.env
   standAt apos.atName
   let (f,first) ← holding [ov] (getMethod ov "append" pl)
   callWith pos f first (backTo pos (starEach [e] c.env)) [])) (hp:(starEach [e] c.env).any (·.1) = false) : EM c k σ (.Call (.Attribute o "append" apos) [e] [] pos) Q:=by
 intro A s ft r
 obtain ⟨pl,he⟩:=he
 refine MethodCall_ (WPmono (ho A s ft r) fun x s₁ w0=>?_) he
 obtain ⟨hx,k₁⟩:=w0
 w_dflts hx
 have r₁:=r.keeps k₁
 obtain ⟨xs₀,n₀,od,I,_,_⟩:=r₁.accI h hd
 refine method_any (fv:=.builtin "list.append") (T:="method_descriptor") r₁.glob.X1 I.at_ (acc_ga _) canon_lga (acc_gk _) (acc_ap _) (by kernel_rfl) (.inr rfl) ?_ ?_
 ·show (lookIn "append" od).map (·.isSome) = some false
  rw [I.miss "append" hn]; rfl
 refine callWith_of (P:=fun h=>True) (by rw [plainArgs hp]; rfl) (fun h ζ=>⟨.machine,.inr (.inl rfl),Looks.of_pure rfl⟩) ?_
 refine wp_evalArgs (plainArgs hp) (WPmono (ha pos A s₁ ft r₁) fun xs s₂ ⟨hxs,k₂⟩=>⟨trivial,?_⟩)
 have r₂:=r₁.keeps k₂
 obtain ⟨x,rfl,hx⟩:=hxs.one
 obtain ⟨ys,n,ga,hr,hl⟩:=r₂.acc h
 obtain ⟨r₃,st₃,_⟩:=r₂.accUpd (f:=fun ys=>ys.push x) (vs':=ws ++ [v]) h ga (by rw [Array.toList_push]; exact hr.append (.cons hx .nil))
 have X:=r₂.glob.X1
 obtain ⟨h2,g2,d2,t2,os2⟩:=s₂
 refine call_L X ga (.inl kind_ap) split_ap (args_list_append _ _) plain_ap entry_list_append ?_
 show wpAny _ _ (updateSeq a (·.push x) >>= fun ζ=>ret .none) _ _ _
 refine wpAny_bind (wpAny_updateSeq ga rfl (wpAny_pure ⟨_,rfl,.none,_,hQ,r₃,.none,(Step.of_keeps (ktrans k₁ k₂)).trans st₃⟩) (by rw [hl]; exact hsz) (by rw [Array.size_push]; w_left))
end
end Mine.Internal
end
section
namespace Mine.Internal
theorem split_gi : splitId "list.__getitem__" = some ("list","__getitem__"):=by decide +kernel
theorem split_si : splitId "list.__setitem__" = some ("list","__setitem__"):=by decide +kernel
theorem plain_gi : plainId "list.__getitem__" = true:=by decide +kernel
theorem plain_si : plainId "list.__setitem__" = true:=by decide +kernel
theorem bounds_from (a n:Nat) (h:a ≤ n) : sliceBounds (some (a:Int)) none none n = ((a:Int),(n:Int),1):=by
 simp only [sliceBounds,Option.getD_none]
 have h1 : ¬ ((a:Int) < 0):=by w_left
 simp only [h1,if_false,show (1:Int) > 0 by decide,if_true]
 congr 1
 w_left
theorem bounds_all (n:Nat) : sliceBounds none none none n = (0,(n:Int),1):=by
 simp only [sliceBounds,Option.getD_none,show (1:Int) > 0 by decide,if_true]
section
variable {w:World} {A:Around} {E:Value → Shared → Prop} {h:Heap} {g:Array GenState} {d:Drawn} {t:Nat} {os:OsState}
theorem acc_special {id:String} {name:Str} {x dx:Addr} {items:Array Value} {n:Nat} {args:List Value} {Q:Option Value → Shared → Prop} (X:(K1 w).In h) (hl:h.get? x = some (accOb dx items n))
  (hf:findIn (K1 w) (.ref 235) name = some (some (.builtin id))) (hb:∀ self,bindSpecial (.builtin id) self = pure (.builtin id,[self])) (hq:wpAny (model P0 w) A (call (.builtin id) (.ref x :: args)) (fun v s'=>Q (some v) s') E ⟨h,g,d,t,os⟩) :
  wpAny (model P0 w) A (callSpecial? (.ref x) name args) Q E ⟨h,g,d,t,os⟩:=by
 unfold callSpecial? specialOf
 refine wpAny_bind (wpAny_bind ((looks_acc_type hl).here ((looks_findIn X hf).here ?_)))
 dsimp only
 refine wpAny_holding (wpAny_bind (wpAny_of_eq (hb _) ?_))
 exact wpAny_bind (wpAny_mono hq (fun v s' hv=>wpAny_pure hv) fun ζ ζ z=>z)
theorem acc_getItem {x dx:Addr} {items:Array Value} {n:Nat} {k:Int} {tk:Tok} {z:Value} {Q:Value → Shared → Prop} (X:(K1 w).In h) (hl:h.get? x = some (accOb dx items n)) (h0:0 ≤ k) (hfit:k < 2 ^ 63) (hx:items[k.toNat]? = some z) (hq:Q z ⟨h,g,d,t,os⟩) :
  wpAny (model P0 w) A (getItem (.ref x) (.int k tk)) Q E ⟨h,g,d,t,os⟩:=by
 unfold getItem
 refine wpAny_holding (wpAny_bind (acc_seqKey X hl ?_))
 refine wpAny_bind (acc_special X hl (acc_gi w) slot_list_getitem.bind ?_)
 refine call_L X hl kind_gi split_gi (args_list_getitem _ _) plain_gi entry_list_getitem ?_
 show wpAny _ _ (Builtin.List.listSubscript? (.int k tk) >>= _) _ _ _
 refine wpAny_bind (wpAny_listSubscript_int (fitsIndex_of h0 hfit) ?_)
 clear hfit
 obtain ⟨j,rfl⟩:=Int.eq_ofNat_of_zero_le h0
 have hx' : items[j]? = some z:=hx
 show wpAny _ _ ((seqItemAt x j >>= fun r=>pure (r.map (j,·))) >>= _) _ _ _
 refine wpAny_bind (wpAny_bind (wpAny_seqItemAt hl rfl (wpAny_pure ?_)))
 rw [hx']
 exact wpAny_pure ⟨z,rfl,wpAny_pure hq⟩
theorem acc_getSlice {x dx sl:Addr} {items:Array Value} {n:Nat} {vl vu vs:Value} {lo hi st:Option Int} {Q:Value → Shared → Prop} (X:(K1 w).In h) (hl:h.get? x = some (accOb dx items n))
  (hs:h.IsSliceOf sl vl vu vs) (pl:IsPart vl lo) (pu:IsPart vu hi) (ps:IsPart vs st) (h0:st ≠ some 0)
  (hq:Q (.ref h.objs.size) ⟨h.push { cls:=.type "list",data:=.seq (slicePick items lo hi st) },g,d,t,os⟩)
  (hsz:items.size ≤ sizeLine) : wpAny (model P0 w) A (getItem (.ref x) (.ref sl)) Q E ⟨h,g,d,t,os⟩:=by
 obtain ⟨os',hos,hcs,hds⟩:=id hs
 have hTs : (⟨h,g,d,t,os⟩ : Shared).TypeIs (.ref sl) "slice":=⟨os',hos,hcs⟩
 unfold getItem
 refine wpAny_holding (wpAny_bind (acc_seqKey X hl ?_))
 refine wpAny_bind (acc_special X hl (acc_gi w) slot_list_getitem.bind ?_)
 refine call_L X hl kind_gi split_gi (args_list_getitem _ _) plain_gi entry_list_getitem ?_
 show wpAny _ _ (Builtin.List.listSubscript? (.ref sl) >>= _) _ _ _
 refine wpAny_bind ?_
 unfold Builtin.List.listSubscript?
 refine wpAny_bind (wpAny_specialOf hTs slice_no_index ?_)
 refine wpAny_ite_true rfl ?_
 refine wpAny_pure ?_
 show wpAny _ _ (typeOf (.ref sl) >>= _) _ _ _
 refine wpAny_bind (wpAny_typeOf hTs ?_)
 refine wpAny_ite_false (by decide) ?_
 rw [listSliceParts_eq]
 have hstep : ¬ ((rawPart st == rawInt 0) = true):=by
  cases st with
  | none=>exact Bool.false_ne_true
  | some c=>
   intro hh
   have : c = 0:=by simpa [rawPart,rawInt] using hh
   exact h0 (by rw [this])
 refine wpAny_bind (wpAny_bind (wpAny_field hos hds (x:=vs) rfl (wpAny_bind (wpAny_listPart ps ?_))))
 rw [if_neg hstep]
 refine wpAny_bind (wpAny_field hos hds (x:=vl) rfl (wpAny_bind (wpAny_listPart pl ?_)))
 refine wpAny_bind (wpAny_field hos hds (x:=vu) rfl (wpAny_bind (wpAny_listPart pu (wpAny_pure ?_))))
 refine wpAny_bind (wpAny_listItems hl rfl ?_)
 refine wpAny_bind (wpAny_of_eq (sliceIndices_raw lo hi st items.size h0) ?_)
 exact wpAny_bind (wpAny_newObj_type (wpAny_pure ⟨_,rfl,wpAny_pure hq⟩) (Nat.le_trans (slicePick_size_le items lo hi st) hsz))
theorem acc_setSlice {x dx sl l:Addr} {items new:Array Value} {n m:Nat} {vl:Value} {lo:Option Int} {a:Nat} {Q:Unit → Shared → Prop} (X:(K1 w).In h) (hl:h.get? x = some (accOb dx items n)) (hxl:x ≠ l)
  (hs:h.IsSliceOf sl vl .none .none) (pl:IsPart vl lo) (hnew:h.get? l = some { cls:=.type "list",data:=.seq new m }) (hb:sliceBounds lo none none items.size = ((a:Int),(items.size:Int),1)) (ha:a ≤ items.size)
  (hq:Q () ⟨h.update x (Obj.mapSeq fun xs=>xs.extract 0 a ++ new ++ xs.extract (max (a:Int) (items.size:Int)).toNat xs.size),g,d,t,os⟩)
  (hsz:items.size + new.size ≤ sizeLine) : wpAny (model P0 w) A (setItem (.ref x) (.ref sl) (.ref l)) Q E ⟨h,g,d,t,os⟩:=by
 obtain ⟨os',hos,hcs,hds⟩:=id hs
 have hTs : (⟨h,g,d,t,os⟩ : Shared).TypeIs (.ref sl) "slice":=⟨os',hos,hcs⟩
 unfold setItem
 refine wpAny_holding (wpAny_bind (acc_seqKey X hl ?_))
 refine wpAny_bind (acc_special X hl (acc_si w) slot_list_setitem.bind ?_)
 refine call_L X hl (.inr kind_si) split_si (args_list_setitem _ _ _) plain_si entry_list_setitem ?_
 show wpAny _ _ (Builtin.List.listSubscript? (.ref sl) >>= _) _ _ _
 refine wpAny_bind ?_
 unfold Builtin.List.listSubscript?
 refine wpAny_bind (wpAny_specialOf hTs slice_no_index ?_)
 refine wpAny_ite_true rfl ?_
 refine wpAny_pure ?_
 show wpAny _ _ (typeOf (.ref sl) >>= _) _ _ _
 refine wpAny_bind (wpAny_typeOf hTs ?_)
 refine wpAny_ite_false (by decide) ?_
 rw [listSliceParts_eq]
 refine wpAny_bind (wpAny_bind (wpAny_field hos hds (x:=.none) rfl (wpAny_bind (wpAny_listPart .none ?_))))
 refine wpAny_ite_false (by decide) ?_
 refine wpAny_bind (wpAny_field hos hds (x:=vl) rfl (wpAny_bind (wpAny_listPart pl ?_)))
 refine wpAny_bind (wpAny_field hos hds (x:=.none) rfl (wpAny_bind (wpAny_listPart .none (wpAny_pure ?_))))
 show wpAny _ _ (if Builtin.List.listSameRef (.ref x) (.ref l) = true then _ else _) _ _ _
 refine wpAny_ite_false (decide_eq_false fun q=>hxl (eq_of_beq q)) ?_
 have hTl : (⟨h,g,d,t,os⟩ : Shared).TypeIs (.ref l) "list":=⟨_,hnew,rfl⟩
 unfold Builtin.List.listAllItems
 refine wpAny_bind (wpAny_bind (wpAny_typeOf hTl ?_))
 refine wpAny_ite_true (by decide) ?_
 refine wpAny_listItems hnew rfl ?_
 refine wpAny_bind (wpAny_listItems hl rfl ?_)
 refine wpAny_bind (wpAny_of_eq (sliceIndices_raw lo none none items.size nofun) ?_)
 rw [hb]
 dsimp only
 refine wpAny_ite_true (by decide) ?_
 refine wpAny_bind (wpAny_rule ?_)
 rw [if_neg (by unfold Builtin.List.listTooLong; simp only [gt_iff_lt,decide_eq_true_eq]; w_left)]
 refine wpAny_bind (wpAny_updateSeq hl rfl ?_ (Nat.le_trans (Nat.le_add_right _ _) hsz) (by rw [max_nat ha,Array.size_append,Array.size_append,Array.size_extract,Array.size_extract,Nat.min_self,Nat.sub_self,Nat.add_zero,Nat.sub_zero]; exact Nat.le_succ_of_le (Nat.le_trans (Nat.add_le_add_right (Nat.min_le_right _ _) _) hsz)))
 refine wpAny_bind (wpAny_letGo ?_)
 exact wpAny_pure ⟨.none,rfl,wpAny_pure hq⟩
end
end Mine.Internal
end
section
namespace Mine.Internal
section
variable {w:World} {S0:Shared} {k:Nat} {c:Cx} {σ:St}
theorem notMods (a:Addr) : Value.ref a ≠ .builtin "sys.modules#opaque":=nofun
theorem ev_itemA {e i:Expr} {pos:Pos} {a d:Addr} {vs:List V} {n:Int} {v:V} (he:EV c k σ e (.mob a)) (hm:σ.mu.lookup a = some (.acc d vs)) (hi:EV c k σ i (.int n)) (h0:0 ≤ n) (h1:n < 2 ^ 63) (hv:vs[n.toNat]? = some v) : EV c k σ (.Subscript e i pos) v:=by
 intro A s f r
 rw [eval_Subscript]
 refine wpAny_bind (WPmono (he A s f r) fun x s₁ ⟨hx,k₁⟩=>wpAny_bind (wpAny_holding (WPmono (hi A s₁ f (r.keeps k₁)) fun y s₂ ⟨hy,k₂⟩=>wpAny_bind (wpAny_standAt (wpAny_bind ?_)))))
 w_dflts hx
 cases hy.inv with | mk t=>
 have r₂:=(r.keeps k₁).keeps k₂
 obtain ⟨xs,m,ge,hr,hl⟩:=r₂.acc hm
 have X:=r₂.glob.X1
 obtain ⟨z,hz,hr'⟩:=hr.get hv
 obtain ⟨hp,g2,d2,t2,os2⟩:=s₂
 rw [getitemInPython_of_ne (notMods a)]
 unfold specialOf
 refine wpAny_bind (wpAny_bind ((looks_acc_type ge).here ((looks_findIn X (acc_gi _)).here ?_)))
 refine wpAny_pure (wpAny_bind (subscripted_false i (.ref a) (.int n t) ?_))
 exact acc_getItem X ge h0 h1 (by rw [← Array.getElem?_toList]; exact hz) (wpAny_bind (wpAny_letTemporaryGo (wpAny_pure ⟨hr',ktrans k₁ k₂⟩)))
theorem ev_sliceA {e:Expr} {lo hi:Option Expr} {p pos:Pos} {a d:Addr} {l u:Option Int} {vs:List V} (he:EV c k σ e (.mob a)) (hm:σ.mu.lookup a = some (.acc d vs)) (hl:EVP c k σ lo l) (hu:EVP c k σ hi u) (hs:vs.length ≤ sizeLine)
  (ht:∀ o r,letTemporaryGo e o r = pure ():=by intro _ _; rfl) : EV c k σ (.Subscript e (.Slice lo hi none p) pos) (.lst (pickV vs l u none)):=by
 intro A s f r
 rw [eval_Subscript]
 refine wpAny_bind (WPmono (he A s f r) fun x s₁ w0=>?_)
 obtain ⟨hx,k₁⟩:=w0
 w_dflts hx
 refine wpAny_bind (wpAny_holding (wpAny_Slice (WPmono (hl.ev f (r.keeps k₁)) fun vl s₂ ⟨hvl,k₂⟩=>WPmono (hu.ev f ((r.keeps k₁).keeps k₂)) fun vu s₃ w0=>?_)))
 obtain ⟨hvu,k₃⟩:=w0
 rw [evalPart_none]
 have k13:=ktrans k₁ (ktrans k₂ k₃)
 have r₃:=r.keeps k13
 have k4 : Kp s₃ { s₃ with heap:=s₃.heap.push { cls:=.type "slice",data:=.fields #[vl,vu,.none] } }:=kpush _ _
 have r₄:=r₃.keeps k4
 obtain ⟨xs,m,ge,hr,hln⟩:=r₄.acc hm
 have X:=r₄.glob.X1
 refine wpAny_pure (wpAny_bind (wpAny_standAt (wpAny_bind ?_)))
 rw [getitemInPython_of_ne (notMods a)]
 unfold specialOf
 refine wpAny_bind (wpAny_bind ((looks_acc_type ge).here ((looks_findIn X (acc_gi _)).here ?_)))
 refine wpAny_pure (wpAny_bind ?_)
 obtain ⟨hp,g2,d2,t2,os2⟩:=s₃
 show wpAny _ _ (operate [.ref hp.objs.size,.ref a] (getItem (.ref a) (.ref hp.objs.size))) _ _ _
 refine wpAny_operating (acc_getSlice X ge (.new _ _ _ _) hvl hvu .none nofun ?_ (by rw [hln]; exact hs))
 refine wpAny_bind (wpAny_of_eq (ht _ _) (wpAny_pure ⟨?_,ktrans k13 (ktrans k4 (kpush _ _))⟩))
 exact .lst (Heap.get?_push_size _ rfl) r₄.gl.fresh ((VR.pickL hr).keeps (kpush _ _))
theorem EX.setSliceA {e ve:Expr} {lo:Option Expr} {p sp pos:Pos} {a d:Addr} {b:Nat} {l:Option Int} {vs ws:List V} {Q:AF → St → Prop} (hv:EV c k σ ve (.lst ws)) (he:EV c k σ e (.mob a)) (hm:σ.mu.lookup a = some (.acc d vs)) (hl:EVP c k σ lo l) (hlb:l = some (b:Int) ∨ (l = Option.none ∧ b = 0)) (hb:b ≤ vs.length) (hs:vs.length + ws.length ≤ sizeLine)
  (hQ:Q .next ⟨σ.loc,updM σ.mu a (.acc d (vs.take b ++ ws))⟩) (hsw:swapsWith ve (some (.Subscript e (.Slice lo Option.none Option.none p) sp)) pos.line c.env = pure false:=by rfl) : EX c k σ (.Assign [.Subscript e (.Slice lo Option.none Option.none p) sp] ve pos) Q:=by
 intro A s f r
 refine wpAny_Assign_Subscript (WPmono (hv A s f r) fun z s₁ ⟨hz,k₁⟩=>WPmono (he A s₁ f (r.keeps k₁)) fun dv s₂ w0=>?_) hsw
 obtain ⟨hdv,k₂⟩:=w0
 have r₂:=(r.keeps k₁).keeps k₂
 cases hdv
 refine wpAny_Slice (WPmono (hl.ev f r₂) fun vl s₃ w0=>?_)
 obtain ⟨hvl,k₃⟩:=w0
 rw [evalPart_none]
 refine wpAny_pure ?_
 refine wpAny_pure ?_
 have r₃:=r₂.keeps k₃
 have k4 : Kp s₃ { s₃ with heap:=s₃.heap.push { cls:=.type "slice",data:=.fields #[vl,.none,.none] } }:=kpush _ _
 have r₄:=r₃.keeps k4
 have hz':=((hz.keeps k₂).keeps k₃).keeps k4
 obtain ⟨xs,m,ge,hr,hln⟩:=r₄.acc hm
 have X:=r₄.glob.X1
 cases hz'.inv with | @mk l' new n gl ml rl=>
 have hxl : a ≠ l':=fun q=>ml (q ▸ memL _ (.tail _ (lookup_adr hm)))
 have hnl : new.size = ws.length:=by rw [← rl.length,Array.length_toList]
 obtain ⟨r₅,st₅,_⟩:=r₄.accUpd (f:=fun xs'=>xs'.extract 0 b ++ new ++ xs'.extract (max (b:Int) (xs.size:Int)).toNat xs'.size) (vs':=vs.take b ++ ws) hm ge (by
  have e1 : (max (b:Int) (xs.size:Int)).toNat = xs.size:=max_nat (by rw [hln]; exact hb)
  rw [e1,Array.toList_append,Array.toList_append,Array.toList_extract,Array.toList_extract,List.extract_eq_take_drop,List.extract_eq_take_drop,Nat.sub_self,List.take_zero,List.append_nil,Nat.sub_zero,List.drop_zero]
  exact (hr.take b).append rl)
 obtain ⟨hp,g2,d2,t2,os2⟩:=s₃
 refine acc_setSlice (a:=b) X ge hxl (.new _ _ _ _) hvl gl ?_ (by w_left) ?_ (by w_left)
 ·rcases hlb with rfl | ⟨rfl,rfl⟩
  ·exact bounds_from _ _ (by w_left)
  ·exact bounds_all _
 ·exact ⟨.next,_,hQ,r₅,trivial,(Step.of_keeps (ktrans k₁ (ktrans k₂ (ktrans k₃ k4)))).trans st₅⟩
end
end Mine.Internal
end
section
namespace Mine.Internal
section
variable {w:World} {S0:Shared} {k:Nat} {gen:Bool}
theorem FNM.introD {f:Addr} {name qual:Str} {params:Arguments} {body:List Stmt} {scope:Scope} {dV kV doc pm cdv ct oc:Value} {an od:Option Addr} {osl:Array (Option Value)} {ns:List Str} {vs us:List V} {mu:List (Addr × MO)} {Q:V → List (Addr × MO) → Prop}
  (hK:(K1 w).lookup f = some ⟨oc,od,.func (fnOf name qual params body scope dV kV doc pm an cdv ct),osl⟩) (hcd:codeIn (K1 w) cdv qual = true)
  (hbind:∀ ms s xs,Glob w S0 s → VRs S0 ms s vs xs → ∃ ys,VRs S0 ms s us ys ∧ BindsTo s (fnOf name qual params body scope dV kV doc pm an cdv ct) ⟨xs,[]⟩ (ns.zip ys))
  (hkind:(ns.all fun y=>scope.names.lookup y == some .local || scope.names.lookup y == some .cell) = true) (hns:ns.Nodup) (hnd:((cellsFrom 0 scope.names []).map (·.1)).Nodup)
  (hco:scope.isCoroutine = false) (hgen:scope.isGenerator = false) (hk:scope.kind = .function)
  (body_ok:∀ X : FX,EXs (cF ⟨qual,scope,f,cdv⟩ gen w S0 X) k ⟨ns.zip us,mu⟩ body (BackM Q)) : FNM w S0 (k + 1) gen (fun xs=>call (.ref f) xs) vs mu Q:=by
 intro ms A s xs ft g hx
 obtain ⟨ys,hys,hb⟩:=hbind _ _ _ g.glob hx
 refine wpAny_call (enter_call (gen:=gen) hK hcd hb hkind hns hnd hco hgen hk ft g hys (fun L out=>body_ok ⟨L,out⟩) ?_)
 intro fl s' c σ' af hQ r hms hg hf st hw hS
 subst hw hS
 exact backM hms hQ r hf st g.live
theorem FNM.makeA {C:Addr} {ob:Addr → Obj} {mo:Addr → MO} {f:Addr} {fd:FuncData} {body:List Stmt} {oc:Value} {od:Option Addr} {osl:Array (Option Value)} {ns:List Str} {vs us:List V} {mu:List (Addr × MO)} {Q:V → List (Addr × MO) → Prop}
  (hmk:Made w C f ob) (hfr:∀ d,(ob d).isFreed = false) (hmo:∀ a d ms s,s.heap.get? a = some (ob d) → MR w S0 ms s a (mo d))
  (hK:(K1 w).lookup f = some ⟨oc,od,.func fd,osl⟩) (hcd:codeIn (K1 w) fd.code fd.qualname = true)
  (hbind:∀ a ms s xs,Glob w S0 s → VRs S0 ms s (.mob a :: vs) xs → ∃ ys,VRs S0 ms s (.mob a :: us) ys ∧ BindsTo s fd ⟨xs,[]⟩ (ns.zip ys))
  (hbody:fd.body = .stmts body) (hg:fd.globals = mainGlobals) (hb:fd.builtins = builtinsNs)
  (hkind:(ns.all fun y=>fd.scope.names.lookup y == some .local) = true) (hns:ns.Nodup) (hcell:∀ x ∈ fd.scope.names,x.2 ≠ .cell)
  (hcl:∀ p ∈ fd.closure,fd.scope.names.lookup p.1 ≠ some .cell ∧ ∃ oc od v os,(K1 w).lookup p.2 = some ⟨oc,od,.cell v,os⟩) (hap:fd.closure.Pairwise fun x y=>x.2 ≠ y.2)
  (hco:fd.scope.isCoroutine = false) (hgen:fd.scope.isGenerator = false) (hk:fd.scope.kind = .function)
  (body_ok:∀ a d,a ∉ adr mu → d ∉ adr mu → a ≠ d → ∀ L out,EXsA ⟨w,S0,callEnv fd L f,out,gen⟩ k ⟨ns.zip (.mob a :: us),(a,mo d) :: (d,.dict []) :: mu⟩ body body (BackM fun v mu'=>v = .none ∧ Q (.mob a) mu')) : FNM w S0 (k + 2) gen (fun xs=>call (.ref C) xs) vs mu Q:=by
 intro ms A s xs ft g hx
 have k1 : Kp s { s with heap:=(s.heap.push emptyDict).push (ob s.heap.objs.size) }:=⟨⟨_,s.toks,rfl,fun b o e=>Heap.get?_push_of_some _ (Heap.get?_push_of_some _ e)⟩,Nat.le_refl _⟩
 have g1:=g.make (ob:=ob s.heap.objs.size) (o:=mo s.heap.objs.size) (fun ms' s' e=>hmo _ _ _ _ e) (hfr _)
 have bigM : ∀ b ∈ adr mu,b < s.heap.objs.size:=fun b hb=>by
  obtain ⟨p,hp,rfl⟩:=memm hb
  obtain ⟨o',e⟩:=(g.muok p hp).live; exact Heap.lt_size e
 have na : s.heap.objs.size + 1 ∉ adr mu:=fun q=>n1 _ (bigM _ q)
 have nd : s.heap.objs.size ∉ adr mu:=fun q=>n0 _ (bigM _ q)
 have hx1 : VRs S0 (adr ((s.heap.objs.size + 1,mo s.heap.objs.size) :: (s.heap.objs.size,MO.dict []) :: mu) ++ ms) { s with heap:=(s.heap.push emptyDict).push (ob s.heap.objs.size) } (.mob (s.heap.objs.size + 1) :: vs) (.ref (s.heap.objs.size + 1) :: xs):=by
  refine .cons (.mob _) (hx.mono (fun b o hb ζ e=>⟨fun q=>?_,kget k1 e⟩) (Nat.le_refl _))
  have hlt:=Heap.lt_size e
  rcases mema q with q | q
  ·rcases memc q with q | q
   ·rw [show b = s.heap.objs.size + 1 from q] at hlt; exact n1 _ hlt
   ·rcases memc q with q | q
    ·rw [show b = s.heap.objs.size from q] at hlt; exact n0 _ hlt
    ·exact hb (memL _ q)
  ·exact hb (memR _ q)
 obtain ⟨ys,hys,hb'⟩:=hbind _ _ _ _ g1.glob hx1
 refine wpAny_call (hmk _ _ _ _ g.glob.X1 ?_)
 refine enter_callA (gen:=gen) hK hcd hb' hbody hg hb hkind hns hcell hcl hap hco hgen hk ft.make g1 hys (body_ok _ _ na nd (Nat.succ_ne_self _)) ?_
 intro fl s' c σ' af hQ r hms hg hf st hw hS
 subst hw hS
 obtain ⟨v,mu',⟨rfl,hQ'⟩,gm,hz,st'⟩:=backM hms hQ r hf st g1.live
 exact ⟨VR.isNone hz,.mob _,mu',hQ',gm,.mob _,StepM.make g st'⟩
theorem lookup_upd_self {mu:List (Addr × MO)} {a:Addr} {o o':MO} (h:mu.lookup a = some o) : (updM mu a o').lookup a = some o':=by
 induction mu with
 | nil=>cases h
 | cons p mu ih=>
  unfold updM
  rw [List.map_cons]
  by_cases q : p.1 = a
  ·rw [if_pos q,List.lookup_cons,beq_self_eq_true]
  ·rw [if_neg q,List.lookup_cons,beq_eq_false_iff_ne.mpr (Ne.symm q)]
   rw [List.lookup_cons,beq_eq_false_iff_ne.mpr (Ne.symm q)] at h
   exact ih h
theorem lookup_upd_ne {mu:List (Addr × MO)} {a b:Addr} {o':MO} (h:b ≠ a) : (updM mu a o').lookup b = mu.lookup b:=by
 induction mu with
 | nil=>rfl
 | cons p mu ih=>
  unfold updM
  rw [List.map_cons]
  by_cases q : p.1 = a
  ·rw [if_pos q,List.lookup_cons,List.lookup_cons,beq_eq_false_iff_ne.mpr h,q,beq_eq_false_iff_ne.mpr h]; exact ih
  ·rw [if_neg q,List.lookup_cons,List.lookup_cons]
   split
   ·rfl
   ·exact ih
theorem takerIS (w:World) : takerIn (K1 w) 235 "_initial_size" = some none:=by kernel_rfl
theorem SupIn.of {c:Cx} {σ:St} {a f:Addr} {y:Str} {fd:FuncData} {oc:Value} {od:Option Addr} {osl:Array (Option Value)} {ar:Arg} {cc:Addr} (ks:c.env.kindOf "super" = some .globalImplicit) (kc:c.env.kindOf "__class__" = some .free) (cell:c.env.cells.lookup ("__class__":Str) = some 159)
  (hf:c.env.func = some f) (hK:(K1 c.w).lookup f = some ⟨oc,od,.func fd,osl⟩) (har:(fd.params.posonlyargs ++ fd.params.args).head? = some ar) (hy:ar.arg = y) (hc:c.env.code = .ref cc) (h:((K1 c.w).lookup cc).any codeFile = true) (self:σ.loc.lookup y = some (.mob a)) (ky:c.env.kindOf y = some .local) : SupIn c σ a y:=by
 obtain ⟨oc',od',vs,osl',file,tf,e,e2,e3⟩:=sup_code c.w cc h
 exact ⟨ks,kc,cell,⟨f,oc,od,osl,fd,ar,hf,hK,har,hy⟩,⟨cc,oc',od',vs,osl',file,tf,hc,e,e2,e3⟩,self,ky⟩
noncomputable abbrev isV : Str:="_initial_size"
theorem acc_new_ok {mu:List (Addr × MO)} {vs:List V} (hvs:vs = [.int 0] ∨ vs = []) : FNM w S0 (k + 2) gen (fun xs=>call (.ref 235) xs) vs mu (fun v mu'=>∃ a d,v = .mob a ∧ mu' = (a,.acc d []) :: (d,.dict [(isV,.int 0)]) :: mu ∧ a ∉ adr mu ∧ d ∉ adr mu ∧ a ≠ d):=by
 obtain ⟨c1,c2,c3,h159⟩:=cell159 w
 refine FNM.makeA (ns:=["self","initial_size"]) (us:=[.int 0]) (mo:=fun d=>.acc d []) made235 (fun ζ=>rfl) (fun a d ms s e=>⟨#[],0,e,.nil⟩) (K1_of (by rfl) (by rfl)) (by kernel_rfl) (fun a ms s xs g hx=>?_) rfl (by rfl) (by rfl) (by rfl) (by decide) (by decide) (fun p hp=>?_) (List.pairwise_singleton _ _) rfl rfl rfl (fun a d ha hd had L out=>?_)
 ·have e164 : (K1 w).lookup 164 = some { cls:=.type "tuple",data:=.seq #[.int 0 499] }:=K1_of (by rfl) (by rfl)
  have o164:=g.X1 _ _ e164
  cases hx with | cons h1 h2=>
  rcases hvs with rfl | rfl
  ·obtain ⟨x,rfl,hx⟩:=h2.one
   refine ⟨_,.cons h1 (.cons hx .nil),?_⟩
   first
    | exact BindsTo.of_defaults (T:=164) rfl o164 rfl rfl rfl
    | exact BindsTo.of_eq rfl
  ·cases h2
   exact ⟨_,.cons h1 (.cons (.int 0 499) .nil),BindsTo.of_defaults (T:=164) rfl o164 rfl rfl rfl⟩
 ·cases mem1 hp
  exact ⟨by decide,_,_,_,_,h159⟩
 ·obtain ⟨cd,T⟩:=takes235 w
  have l1 : List.lookup a ((a,MO.acc d []) :: (d,.dict []) :: mu) = some (.acc d []):=by rw [List.lookup_cons,beq_self_eq_true]
  have l2 : List.lookup d ((a,MO.acc d []) :: (d,.dict []) :: mu) = some (.dict []):=by rw [List.lookup_cons,beq_eq_false_iff_ne.mpr (Ne.symm had),List.lookup_cons,beq_self_eq_true]
  refine EXsA.cons (EXA.of (EX.setAttr (a:=a) (C:=235) (d:=d) (v:=.int 0) (cd:=cd) (EV.name (by rfl)) (EV.name (by rfl)) l1 rfl l2 (Nat.zero_le _) T (takerIS w) ?_))
  refine EXsA.cons (EXA.expr (EMA.superInit (y:="self") (a:=a) (SupIn.of (f:=172) (cc:=171) (by rfl) (by rfl) (by rfl) rfl (K1_of (by rfl) (by rfl)) rfl rfl rfl code171 (by rfl) (by rfl)) (d:=d) (vs:=[]) (kvs:=putD [] isV (.int 0)) ?_ (lookup_upd_self l2) (Nat.zero_le _) ?_) (by rfl) (by rfl))
  ·rw [lookup_upd_ne had]; exact l1
  ·refine EXsA.of (EXs.nil ⟨rfl,a,d,rfl,?_,ha,hd,had⟩)
   have na : ∀ p ∈ mu,p.1 ≠ a:=fun p hp e=>ha (e ▸ List.mem_map_of_mem hp)
   have nd : ∀ p ∈ mu,p.1 ≠ d:=fun p hp e=>hd (e ▸ List.mem_map_of_mem hp)
   unfold updM
   simp only [List.map_cons,if_true,if_neg had,if_neg (Ne.symm had)]
   congr 2
   rw [List.map_map]
   conv=>rhs; rw [← List.map_id mu]
   apply List.map_congr_left
   intro p hp
   simp [na p hp,nd p hp]
set_option maxHeartbeats 1000000 in
theorem push_ok {a d:Addr} {vs:List V} {x y:V} {kvs:List (Str × V)} {mu:List (Addr × MO)} (h:mu.lookup a = some (.acc d vs)) (hd:mu.lookup d = some (.dict kvs)) (hn:getD kvs "append" = none) (hsz:vs.length ≤ sizeLine) :
  FNM w S0 (k + 1) gen (fun xs=>call (.ref 179) xs) [.mob a,x,y] mu (fun v mu'=>v = .none ∧ mu' = updM mu a (.acc d (vs ++ [.tup [x,y]]))):=by
 refine FNM.intro (ns:=["self","fws","string"]) (K1_of (by rfl) (by rfl)) (by kernel_rfl) (args3 fun ζ ζ ζ=>rfl) (by rfl) (by decide) (by decide) rfl rfl rfl (fun X=>?_)
 ·refine EXs.exprM (EM.appendA (a:=a) (d:=d) (ws:=vs) (v:=.tup [x,y]) (kvs:=kvs) (EV.name (by rfl)) h hd hn (EVL.cons (EV.tuple (EVL.ev (by rfl))) EVL.nil) hsz ?_ (by exact ⟨_,rfl⟩) (by rfl))
  exact EXs.nil ⟨rfl,rfl⟩
theorem pickV_from {vs:List V} {n:Nat} (h:n ≤ vs.length) : pickV vs (some (n:Int)) none none = vs.drop n:=by
 have:=pick_run vs.toArray n (vs.length - n)
 unfold pickV
 rw [bounds_from _ _ h]
 show List.filterMap _ (sliceRange (n:Int) (vs.length:Int) 1) = _
 rw [sliceRange_one]
 simp only [List.getElem?_toArray] at this
 rw [this,List.take_of_length_le (by simp)]
set_option maxHeartbeats 1000000 in
theorem pop_from_ok {a d:Addr} {vs:List V} {n:Nat} {kvs:List (Str × V)} {mu:List (Addr × MO)} (h:mu.lookup a = some (.acc d vs)) (hd:mu.lookup d = some (.dict kvs)) (hn:n ≤ vs.length) (hsz:vs.length ≤ sizeLine) :
  FNM w S0 (k + 1) gen (fun xs=>call (.ref 187) xs) [.mob a,.int n] mu (fun v mu'=>v = .lst (vs.drop n) ∧ mu' = updM mu a (.acc d (vs.take n))):=by
 have e180 : (K1 w).lookup 180 = some { cls:=.type "tuple",data:=.seq #[.int 0 518] }:=K1_of (by rfl) (by rfl)
 refine FNM.introD (ns:=["self","i"]) (us:=[.mob a,.int n]) (K1_of (by rfl) (by rfl)) (by kernel_rfl) (fun ms s xs g hx=>?_) (by rfl) (by decide) (by decide) rfl rfl rfl (fun X=>?_)
 ·obtain ⟨x,y,rfl,h1,h2⟩:=hx.two
  refine ⟨[x,y],.cons h1 (.cons h2 .nil),?_⟩
  first
   | exact BindsTo.of_eq rfl
   | exact BindsTo.of_defaults (T:=180) rfl (g.X1 _ _ e180) rfl rfl rfl
 ·refine EXs.assign (v:=.lst (pickV vs (some (n:Int)) none none)) (ev_sliceA (EV.name (by rfl)) h (show EVP _ _ _ (some _) (some (n:Int)) from EV.name (by rfl)) rfl hsz) (.inl (by rfl)) ?_
  refine EXs.cons (EX.setSliceA (a:=a) (d:=d) (vs:=vs) (ws:=[]) (b:=n) (l:=some (n:Int)) (EV.list EVL.nil) (EV.name (by rfl)) h (show EVP _ _ _ (some _) (some (n:Int)) from EV.name (by rfl)) (.inl rfl) hn (by simpa using hsz) ?_)
  refine EXs.ret (EV.name (by rfl)) ⟨?_,?_⟩
  ·show V.lst _ = V.lst _
   rw [pickV_from hn]
  ·rw [List.append_nil]
theorem find232 (w:World) : findIn (K1 w) (.ref 235) "part_count" = some (some (.ref 232)):=by kernel_rfl
theorem ty232 (w:World) : typeIn (K1 w) (.ref 232) = some (.type "function"):=by kernel_rfl
theorem keep232 (w:World) : keepIn (K1 w) (.ref 232) = true:=by kernel_rfl
set_option maxHeartbeats 1000000 in
theorem pop_ok {a d:Addr} {vs:List V} {kvs:List (Str × V)} {mu:List (Addr × MO)} (h:mu.lookup a = some (.acc d vs)) (hd:mu.lookup d = some (.dict kvs)) (hn:getD kvs "part_count" = none) (hsz:vs.length < sizeLine) :
  FNM w S0 (k + 2) gen (fun xs=>call (.ref 195) xs) [.mob a] mu (fun v mu'=>(vs = [] ∧ v = .tup [.str "",.str ""] ∧ mu' = mu) ∨ (∃ us u,vs = us ++ [u] ∧ v = u ∧ mu' = updM mu a (.acc d us))):=by
 obtain ⟨c1,c2,c3,h159⟩:=cell159 w
 refine FNM.introA (ns:=["self"]) (K1_of (by rfl) (by rfl)) (by kernel_rfl) (args1 fun ζ=>rfl) rfl (by rfl) (by rfl) (by rfl) (by decide) (by decide) (fun p hp=>?_) (List.pairwise_singleton _ _) rfl rfl rfl (fun L out=>?_)
 ·cases mem1 hp
  exact ⟨by decide,_,_,_,_,h159⟩
 ·refine EXsA.cons (EXA.of (EX.iteM (EMB.cmp (EM.methA (a:=a) (d:=d) (f:=232) (ws:=vs) (kvs:=kvs) (vs:=[]) (EV.name (by rfl)) h hd hn EVL.nil (part_count_ok h hd) (fun v mu' w0=>?_) (find232 w) (ty232 w) (keep232 w) (hs:=by cases gen <;> rfl)))))
  obtain ⟨e1,e2⟩:=w0
  subst e1 e2
  refine ⟨.int 0,_,EV.int,op_eq,?_⟩
  rcases List.eq_nil_or_concat vs with rfl | ⟨us,u,rfl⟩
  ·refine EXs.ret (EV.tuple (EVL.ev (by rfl))) (.inl ⟨rfl,rfl,rfl⟩)
  ·have e0 : ((((us.concat u).length : Nat) : Int) == 0) = false:=by simp; w_left
   rw [e0]
   refine EXs.nil ?_
   refine EXsA.cons (EXA.ret (EMA.superPop (y:="self") (a:=a) (d:=d) (vs:=us) (v:=u) (kvs:=kvs) (SupIn.of (f:=195) (cc:=194) (by rfl) (by rfl) (by rfl) rfl (K1_of (by rfl) (by rfl)) rfl rfl rfl code194 (by rfl) (by rfl)) ?_ hd ?_ ?_))
   ·rw [← List.concat_eq_append]; exact h
   ·simp at hsz; w_left
   ·exact .inr ⟨us,u,by rw [List.concat_eq_append],rfl,rfl⟩
noncomputable def isNoneV : V → Bool
 | .none=>true
 | _=>false
theorem op_isNone {v:V} (h:v = .none ∨ ∃ ws,v = .lst ws) : OP2 w S0 k (compareOp .Is) v .none (.bool (isNoneV v)):=fun ms A s x y f g hx hy=>by
 w_dflts hy
 rcases h with rfl | ⟨ws,rfl⟩
 ·w_dflts hx
  exact wpAny_pure ⟨.bool _,krefl _⟩
 ·w_dflts hx
  exact wpAny_pure ⟨.bool _,krefl _⟩
set_option maxHeartbeats 1000000 in
theorem reset_ok {a d:Addr} {vs ws args:List V} {n:V} {mu:List (Addr × MO)} (h:mu.lookup a = some (.acc d vs)) (hd:mu.lookup d = some (.dict [(isV,n)])) (hargs:args = [.lst ws] ∨ (args = [] ∧ ws = [])) (hsz:vs.length + ws.length ≤ sizeLine) :
  FNM w S0 (k + 1) gen (fun xs=>call (.ref 217) xs) (.mob a :: args) mu (fun v mu'=>v = .none ∧ mu' = updM (updM mu a (.acc d ws)) d (.dict [(isV,.int 0)])):=by
 have e210 : (K1 w).lookup 210 = some { cls:=.type "tuple",data:=.seq #[.none] }:=K1_of (by rfl) (by rfl)
 have had : d ≠ a:=fun q=>by rw [q,h] at hd; cases hd
 obtain ⟨cd,T⟩:=takes235 w
 obtain ⟨u,hu,hbind⟩ : ∃ u : V,(u = .lst ws ∨ (u = .none ∧ ws = [])) ∧ ∀ a ms (s:Shared) (xs:List Value),(K1 w).In s.heap → VRs S0 ms s (.mob a :: args) xs → ∃ ys,VRs S0 ms s [.mob a,u] ys ∧ (xs = ys ∨ (u = .none ∧ ys = xs ++ [.none])):=by
  rcases hargs with rfl | ⟨rfl,rfl⟩
  ·exact ⟨_,.inl rfl,fun a ms s xs X hx=>⟨xs,hx,.inl rfl⟩⟩
  ·refine ⟨.none,.inr ⟨rfl,rfl⟩,fun a ms s xs X hx=>?_⟩
   obtain ⟨x,rfl,h1⟩:=hx.one
   exact ⟨_,.cons h1 (.cons .none .nil),.inr ⟨rfl,rfl⟩⟩
 refine FNM.introD (ns:=["self","startval"]) (us:=[.mob a,u]) (K1_of (by rfl) (by rfl)) (by kernel_rfl) (fun ms s xs g hx=>?_) (by rfl) (by decide) (by decide) rfl rfl rfl (fun X=>?_)
 ·obtain ⟨ys,hys,e⟩:=hbind a ms s xs g.X1 hx
  refine ⟨ys,hys,?_⟩
  obtain ⟨y1,y2,rfl,_,_⟩:=hys.two
  rcases e with rfl | ⟨e1,e2⟩
  ·first
    | exact BindsTo.of_eq rfl
    | exact BindsTo.of_defaults (T:=210) rfl (g.X1 _ _ e210) rfl rfl rfl
  ·have : xs = [y1] ∧ y2 = .none:=by
    rcases xs with _ | ⟨x,_ | ⟨x',t⟩⟩
    ·simp at e2
    ·simp at e2; exact ⟨by rw [e2.1],e2.2⟩
    ·simp at e2
   obtain ⟨rfl,rfl⟩:=this
   exact BindsTo.of_defaults (T:=210) rfl (g.X1 _ _ e210) rfl rfl rfl
 ·refine EXs.ite (b:=isNoneV u) (EVB.cmp (EV.name (by rfl)) EV.none (op_isNone (by rcases hu with h | h; exact .inr ⟨_,h⟩; exact .inl h.1))) (fun hb=>?_) (fun hb=>?_)
  ·rcases hu with rfl | ⟨rfl,rfl⟩
   ·cases hb
   ·refine EXs.assign (v:=.lst []) (EV.list EVL.nil) (.inl (by rfl)) (EXs.nil ?_)
    refine EXs.cons (EX.setSliceA (a:=a) (d:=d) (vs:=vs) (ws:=[]) (b:=0) (l:=none) (EV.name (by rfl)) (EV.name (by rfl)) h rfl (.inr ⟨rfl,rfl⟩) (Nat.zero_le _) hsz ?_)
    refine EXs.cons (EX.setAttr (a:=a) (C:=235) (d:=d) (v:=.int 0) (cd:=cd) EV.int (EV.name (by rfl)) (lookup_upd_self h) rfl ((lookup_upd_ne had).trans hd) (Nat.le_of_ble_eq_true rfl) T (takerIS w) ?_)
    exact EXs.nil ⟨rfl,rfl⟩
  ·rcases hu with rfl | ⟨rfl,rfl⟩
   ·refine EXs.nil ?_
    refine EXs.cons (EX.setSliceA (a:=a) (d:=d) (vs:=vs) (ws:=ws) (b:=0) (l:=none) (EV.name (by rfl)) (EV.name (by rfl)) h rfl (.inr ⟨rfl,rfl⟩) (Nat.zero_le _) hsz ?_)
    refine EXs.cons (EX.setAttr (a:=a) (C:=235) (d:=d) (v:=.int 0) (cd:=cd) EV.int (EV.name (by rfl)) (lookup_upd_self h) rfl ((lookup_upd_ne had).trans hd) (Nat.le_of_ble_eq_true rfl) T (takerIS w) ?_)
    exact EXs.nil ⟨rfl,rfl⟩
   ·cases hb
end
end Mine.Internal
end
section
namespace Mine.Internal
noncomputable def IsSeqAt (h:Heap) (l:Addr) (items:Array Value) : Prop:=∃ o n,h.get? l = some o ∧ o.data = .seq items n
theorem IsSeqAt.at {h h':Heap} {l:Addr} {items:Array Value} (x:IsSeqAt h l items) (hk:∀ o,h.get? l = some o → h'.get? l = some o) : IsSeqAt h' l items:=let ⟨o,n,e,d⟩:=x; ⟨o,n,hk o e,d⟩
section
variable {w:World} {A:Around} {E:Value → Shared → Prop} {s:Shared}
theorem split_it : splitId "list.__iter__" = some ("list","__iter__"):=by decide +kernel
theorem acc_pyIter {h:Heap} {g:Array GenState} {d:Drawn} {t:Nat} {os:OsState} {x dx:Addr} {items:Array Value} {n:Nat} {Q:Value → Shared → Prop} (X:(K1 w).In h) (hl:h.get? x = some (accOb dx items n))
  (hq:Q (.ref h.objs.size) ⟨h.push { cls:=.type "list_iterator",data:=.fields #[.ref x,.int 0 0] },g,d,t,os⟩) : wpAny (model P0 w) A (pyIter (.ref x)) Q E ⟨h,g,d,t,os⟩:=by
 have L : Looks (model P0 w) h (specialOf (.ref x) "__iter__") (some (.builtin "list.__iter__")):=(looks_acc_type hl).andThen (looks_findIn X (acc_it w))
 unfold pyIter
 refine wpAny_bind (L.at ?_)
 dsimp only
 simp only [callSpecialIfBoundUnlessNone?,bindSpecialIfBound?]
 refine wpAny_bind (wpAny_holding (wpAny_bind (wpAny_bind (L.at ?_))))
 simp only [slot_list_iter.bind]
 refine wpAny_bind (wpAny_askSetting (wpAny_ite ?_))
 have fin : wpAny (model P0 w) A (call (.builtin "list.__iter__") [.ref x]) (fun v s'=>wpAny (model P0 w) A (do match ← specialOf v "__next__" with | none=>do rule "iter.non-iterator"; raiseError "TypeError" s!"iter() returned non-iterator of type '{← typeNameOf v}'" | some _=>pure v) Q E s') E ⟨h,g,d,t,os⟩:=by
  refine call_L X hl (.inr kind_it) split_it (args_list_iter _) slot_list_iter.plain entry_list_iter ?_
  unfold Builtin.«list.__iter__»
  refine wpAny_bind (wpAny_of_eq (a:=(.ref x,[])) (by kernel_rfl) ?_)
  refine wpAny_bind (wpAny_newObj_type (wpAny_pure ⟨_,rfl,?_⟩))
  refine wpAny_bind (wpAny_specialOf (T:="list_iterator") ⟨_,Heap.get?_push_size _ rfl,rfl⟩ slot_listiter_next.lookup ?_)
  exact wpAny_pure hq
 have tail : ∀ {B:Sem (Option Value)},wpAny (model P0 w) A (if (Value.builtin "list.__iter__" == Value.none) = true then B else (call (.builtin "list.__iter__") [.ref x] >>= fun v=>pure (some v))) (fun it s'=>wpAny (model P0 w) A (match it with
    | some it=>(do match ← specialOf it "__next__" with | none=>do rule "iter.non-iterator"; raiseError "TypeError" s!"iter() returned non-iterator of type '{← typeNameOf it}'" | some _=>pure it)
    | none=>(do match ← bindSpecialIfBound? (.ref x) "__getitem__" with | none=>do rule "iter.not-iterable"; raiseError "TypeError" s!"'{← typeNameOf (.ref x)}' object is not iterable" | some _=>do rule "iter.getitem-fallback"; newFields "iterator" [.ref x,← mkInt 0])) Q E s') E ⟨h,g,d,t,os⟩:=by
  intro B
  rw [builtin_beq_none]
  refine wpAny_ite_false rfl ?_
  exact wpAny_bind (wpAny_mono fin (fun v s' h'=>wpAny_pure h') fun ζ ζ h'=>h')
 split
 ·exact wpAny_bind (wpAny_pure (wpAny_pure tail))
 ·exact wpAny_tryCatch (wpAny_bind (wpAny_pure (wpAny_pure tail)))
theorem next_item {it l:Addr} {i:Nat} {items:Array Value} {x:Value} {Q:Option Value → Shared → Prop} (hit:s.heap.IsListIter it l i)
  (hl:IsSeqAt s.heap l items) (hx:items[i]? = some x)
  (hQ:∀ h',h'.IsListIter it l (i + 1) → Heap.SameBut it s.heap h' → Q (some x) { s with heap:=h' }) :
  wpAny (model P0 w) A (pyNext (.ref it)) Q E s:=by
 obtain ⟨o,ho,hc,hd⟩:=id hit
 obtain ⟨ol,nl,hol,hdl⟩:=hl
 unfold pyNext
 refine wpAny_bind (wpAny_attempt (wpAny_callSpecial?_slot (name:=Str.ofString "__next__") hit.typeIs slot_listiter_next
  (wpAny_call_entry slot_listiter_next hit.typeIs entry_listiter_next ?_ (args_listiter_next _))))
 show wpAny _ _ (field (.ref it) 0 >>= _) _ _ s
 refine wpAny_bind (wpAny_field ho hd (x:=.ref l) rfl ?_)
 show wpAny _ _ (if (Value.ref l == Value.none) = true then _ else _) _ _ s
 rw [if_neg (show ¬ ((Value.ref l == Value.none) = true) from Bool.false_ne_true)]
 show wpAny _ _ (field (.ref it) 1 >>= _) _ _ s
 refine wpAny_bind (wpAny_field ho hd (x:=.int i 0) rfl ?_)
 show wpAny _ _ (seqItems? (.ref l) >>= _) _ _ s
 refine wpAny_bind (wpAny_seqItems hol hdl ?_)
 simp only [Int.toNat_natCast,hx]
 refine wpAny_bind (wpAny_setField ho hd (by simp) (wpAny_pure ⟨x,rfl,wpAny_pure (hQ _ ?_ (Heap.SameBut.update ..))⟩))
 exact ⟨_,Heap.get?_update_self _ ho (Obj.isFreed_of_fields (Obj.data_mapFields hd _)),(Obj.cls_mapFields ..).trans hc,by
  rw [Obj.data_mapFields hd]; simp [rawInt]⟩
theorem next_end {it l:Addr} {i:Nat} {items:Array Value} {Q:Option Value → Shared → Prop} (hh:A.handled = none)
  (hit:s.heap.IsListIter it l i) (hl:IsSeqAt s.heap l items) (hx:items[i]? = none)
  (hQ:∀ h',Heap.ExtBut it s.heap h' → Q none { s with heap:=h' }) : wpAny (model P0 w) A (pyNext (.ref it)) Q E s:=by
 obtain ⟨o,ho,hc,hd⟩:=id hit
 obtain ⟨ol,nl,hol,hdl⟩:=hl
 unfold pyNext
 refine wpAny_bind (wpAny_attempt (wpAny_callSpecial?_slot (name:=Str.ofString "__next__") hit.typeIs slot_listiter_next
  (wpAny_call_entry slot_listiter_next hit.typeIs entry_listiter_next ?_ (args_listiter_next _))))
 show wpAny _ _ (field (.ref it) 0 >>= _) _ _ s
 refine wpAny_bind (wpAny_field ho hd (x:=.ref l) rfl ?_)
 show wpAny _ _ (if (Value.ref l == Value.none) = true then _ else _) _ _ s
 rw [if_neg (show ¬ ((Value.ref l == Value.none) = true) from Bool.false_ne_true)]
 show wpAny _ _ (field (.ref it) 1 >>= _) _ _ s
 refine wpAny_bind (wpAny_field ho hd (x:=.int i 0) rfl ?_)
 show wpAny _ _ (seqItems? (.ref l) >>= _) _ _ s
 refine wpAny_bind (wpAny_seqItems hol hdl ?_)
 simp only [Int.toNat_natCast,hx]
 refine wpAny_bind (wpAny_rule (wpAny_bind (wpAny_setField ho hd (by simp) ?_)))
 show wpAny _ _ (newExc (.type "StopIteration") [] >>= _) _ _ _
 refine wpAny_bind ?_
 simp only [newExc,newTuple]
 refine wpAny_bind (wpAny_newObj_type ?_ (by size_fits))
 refine wpAny_bind (m:=firstArgMember _ _) (wpAny_of_eq (a:=Value.none) (by first | rfl | (simp only [firstArgMember]; rfl)) ?_)
 refine wpAny_newObj_type ?_ (by size_fits)
 simp only [raiseNew]
 refine wpAny_bind (wpAny_handled ?_)
 rw [show A.in1.handled = none from hh]
 refine wpAny_bind (wpAny_pure (wpAny_throw ?_))
 refine wpAny_bind (wpAny_isInstance (T:="StopIteration") (b:=true) ⟨_,Heap.get?_push_size _ rfl,rfl⟩ isSubtype_stop ?_)
 exact wpAny_pure (hQ _ (((Heap.SameBut.update ..).extBut.push _).push _))
end
theorem walksAcc {w:World} {A:Around} (hh:A.handled = none) (I ax:Addr) (hne:ax ≠ I) (items:Array Value) (Ts:Nat → Addr) (vals:Nat → Array Value)
  (hit:∀ j,j < items.size → items[j]? = some (.ref (Ts j))) (hTI:∀ j,j < items.size → Ts j ≠ I) :
  WalksU P0 w A I (I :: ax :: (List.range items.size).map Ts) [I] items.size (fun j v=>v = vals j)
   (fun j h=>h.IsListIter I ax j ∧ IsSeqAt h ax items ∧ ∀ k,k < items.size → h.IsTuple (Ts k) (vals k))
   (fun j T h=>(j < items.size ∧ T = Ts j) ∧ h.IsListIter I ax (j + 1) ∧ IsSeqAt h ax items ∧ ∀ k,k < items.size → h.IsTuple (Ts k) (vals k)) where
 sub:=fun b hb=>by simp at hb; simp [hb]
 frame:=fun ζ ζ ζ st hk=>⟨st.1.at fun o e=>hk I (by simp) o e,st.2.1.at fun o e=>hk ax (by simp) o e,fun k hk'=>(st.2.2 k hk').at fun o e=>hk (Ts k) (List.mem_cons_of_mem _ (List.mem_cons_of_mem _ (List.mem_map.mpr ⟨k,List.mem_range.mpr hk',rfl⟩))) o e⟩
 item:=fun i s Q E hi st hQ=>by
  refine next_item st.1 st.2.1 (x:=.ref (Ts i)) (hit i hi) fun h' hit' hs'=>?_
  have tup : ∀ k,k < items.size → h'.IsTuple (Ts k) (vals k):=fun k hk'=>(st.2.2 k hk').extBut hs'.extBut (hTI k hk')
  exact hQ (Ts i) (vals i) h' s.toks rfl (tup i hi) ⟨⟨hi,rfl⟩,hit',st.2.1.at fun o e=>hs'.extBut _ o hne e,tup⟩ fun b o hb e=>hs'.extBut b o (fun h=>hb (by simp [h])) e
 go:=fun ζ ζ ζ ζ ζ s Q ζ hm hQ=>wpAny_letOwnedTupleGo_listiter hm.2.1 (hQ s.heap hm.2 fun ζ ζ ζ e=>e)
 apart:=fun j T ζ hm hmem=>by
  rcases memc hmem with e | e
  ·exact hTI j hm.1.1 (hm.1.2 ▸ e)
  ·cases e
 done:=fun s Q E st hQ=>next_end hh st.1 st.2.1 (by simp) fun h' he'=>hQ h' s.toks fun b o hb e=>he' b o (fun h=>hb (by simp [h])) e
 self:=fun ζ ζ ζ ζ st hQ=>wpAny_pyIter_listiter st.1 hQ
end Mine.Internal
end
section
namespace Mine.Internal
section
variable {w:World} {A:Around} {s:Shared}
structure EltAt (w:World) (env:Env) (m mg mb:Str → Option Value) (h:Heap) : Prop where
 kind : env.scope.kind = .function
 glo : env.globals = mainGlobals
 blt : env.builtins = builtinsNs
 ns : h.Ns env.locals m
 X : (K1 w).In h
 N : Names w mg mb h
theorem EltAt.keeps {env:Env} {m mg mb:Str → Option Value} {h h':Heap} (x:EltAt w env m mg mb h) (hk:∀ b o,h.get? b = some o → h'.get? b = some o) : EltAt w env m mg mb h':=
 ⟨x.kind,x.glo,x.blt,x.ns.keeps hk,fun a o e=>hk a o (x.X a o e),⟨x.N.g.keeps hk,x.N.b.keeps hk,x.N.builtins⟩⟩
theorem elt_len1 {env:Env} {m mg mb:Str → Option Value} {x:Str} {v:Str} {t:Tok} {p1 p2 p3:Pos} (E:EltAt w env m mg mb s.heap) (hl:env.kindOf "len" = some .globalImplicit) (hx:env.kindOf x = some .local) (hv:m x = some (.str v t)) (hd:(x == ("__debug__":Str)) = false) (hsz:¬ (v.length:Int) ≥ 2 ^ 63) :
  WP w A (eval (.Call (.Name "len" p1) [.Name x p2] [] p3) env) (fun y s'=>(∃ t,y = .int v.length t) ∧ Kp s s') s:=by
 rw [show eval (.Call (.Name "len" p1) [.Name x p2] [] p3) env = (do callWith p3 (← eval (.Name "len" p1) env) [] (backTo p3 (starEach [.Name x p2] env)) []) from rfl]
 refine wpAny_bind (Name_function_global E.kind hl (loadGlobal_builtin (mg:=mg) (mb:=mb) (by rw [E.glo]; exact E.N.g) (mg_none_of E.X E.N.g (by kernel_rfl)) (by rw [E.blt]; exact E.N.b) ((E.N.builtins _ (by decide)).trans (by kernel_rfl:bootBuiltins "len" = some (.builtin "len"))) ?_) (by decide))
 refine callWith_of (P:=fun ζ=>True) (by rfl) (fun h ζ=>⟨.machine,.inr (.inl rfl),Looks.of_pure rfl⟩) ?_
 refine wp_evalArgs (by rfl) ?_
 rw [show starEach [.Name x p2] env = (false,eval (.Name x p2) env) :: starEach [] env from rfl]
 refine spliced_cons (wpAny_Name (wpAny_loadName_local E.kind hx E.ns hv (spliced_nil ⟨trivial,?_⟩)) hd)
 exact P.len_str hsz ⟨⟨_,rfl⟩,ktoks _⟩
theorem elt_len {env:Env} {m mg mb:Str → Option Value} {xa xb:Str} {a b:Str} {ta tb:Tok} {p1 p2 p3 p4 p5 p6 p7:Pos} (E:EltAt w env m mg mb s.heap) (hl:env.kindOf "len" = some .globalImplicit) (hxa:env.kindOf xa = some .local) (hxb:env.kindOf xb = some .local) (ha:m xa = some (.str a ta)) (hb:m xb = some (.str b tb))
  (hda:(xa == ("__debug__":Str)) = false) (hdb:(xb == ("__debug__":Str)) = false) (hza:¬ (a.length:Int) ≥ 2 ^ 63) (hzb:¬ (b.length:Int) ≥ 2 ^ 63) :
  WP w A (eval (.BinOp (.Call (.Name "len" p1) [.Name xa p2] [] p3) .Add (.Call (.Name "len" p4) [.Name xb p5] [] p6) p7) env) (fun y s'=>(∃ t,y = .int ((a.length:Int) + b.length) t) ∧ Kp s s') s:=by
 refine wpAny_BinOp (WPmono (elt_len1 E hl hxa ha hda hza) fun y s₁ w0=>?_)
 obtain ⟨⟨t,e⟩,k₁⟩:=w0
 subst e
 refine WPmono (elt_len1 (E.keeps (kall k₁)) hl hxb hb hdb hzb) fun z s₂ w0=>?_
 obtain ⟨⟨t',e⟩,k₂⟩:=w0
 subst e
 exact P.add_int ⟨⟨_,rfl⟩,ktrans k₁ (ktrans k₂ (ktoks _))⟩
theorem empty_glob (w:World) : nsIn (K1 w) mainGlobals "EMPTYSTRING" = some (some (.str "" 377)):=by kernel_rfl
theorem elt_join {env:Env} {m mg mb:Str → Option Value} {xa xb:Str} {a b:Str} {ta tb:Tok} {p1 p2 p3 p4 p5 p6:Pos} {n:Nat} (E:EltAt w env m mg mb s.heap) (hl:env.kindOf "EMPTYSTRING" = some .globalImplicit) (hxa:env.kindOf xa = some .local) (hxb:env.kindOf xb = some .local) (ha:m xa = some (.str a ta)) (hb:m xb = some (.str b tb))
  (hda:(xa == ("__debug__":Str)) = false) (hdb:(xb == ("__debug__":Str)) = false) (hz:a.length + b.length ≤ 16777216) (hbase:attributeBase (.Name "EMPTYSTRING" p1) "join" env (eval (.Name "EMPTYSTRING" p1) env) = eval (.Name "EMPTYSTRING" p1) env) (hline:(p2.endLine == p6.line) = true) :
  WP w A (eval (.Call (.Attribute (.Name "EMPTYSTRING" p1) "join" p2) [.Tuple [.Name xa p3,.Name xb p4] n p5] [] p6) env) (fun y s'=>(∃ t,y = .str (Txt.join "" [a,b]) t) ∧ Kp s s') s:=by
 have he:=empty_glob w
 refine wpAny_Call_method hbase (by rfl) hline F.plainAttrs_str F.slot_str_join F.type_str_join ?_
 refine Name_function_global E.kind hl (loadGlobal_global (mg:=mg) (by rw [E.glo]; exact E.N.g) (mg_of E.X E.N.g he) ⟨typeIs_str _ _ _,nofun,?_⟩) (by decide)
 refine callWith_of (P:=fun ζ=>True) (by rfl) (fun h ζ=>⟨.machine,.inr (.inl rfl),Looks.of_pure rfl⟩) ?_
 refine wp_evalArgs (by rfl) ?_
 rw [show starEach [.Tuple [.Name xa p3,.Name xb p4] n p5] env = (false,eval (.Tuple [.Name xa p3,.Name xb p4] n p5) env) :: starEach [] env from rfl]
 refine spliced_cons (Tuple_ (k:=n) ?_)
 rw [show starEach [.Name xa p3,.Name xb p4] env = (false,eval (.Name xa p3) env) :: (false,eval (.Name xb p4) env) :: starEach [] env from rfl]
 refine spliced_cons (wpAny_Name (wpAny_loadName_local E.kind hxa E.ns ha ?_) hda)
 refine spliced_cons (wpAny_Name (wpAny_loadName_local E.kind hxb E.ns hb (spliced_nil ?_)) hdb)
 refine wpAny_newObj_type (spliced_nil ⟨trivial,?_⟩) (by show 2 ≤ sizeLine; decide)
 have kk:=kpush (s:=s) { cls:=.type "tuple",data:=.seq #[.str a ta,.str b tb] } s.toks
 refine WPtk (join_tuple (items:=#[.str a ta,.str b tb]) (ys:=[a,b]) ⟨_,Heap.get?_push_size _ rfl,rfl,_,rfl⟩ (.cons _ _ (.cons _ _ .nil)) ?_ fun t' k' ht=>⟨⟨_,rfl⟩,ktrans kk (ktoks _ ht)⟩)
 have e0 : ("":Str).length = 0:=rfl
 rw [e0]
 simp
 w_left
end
end Mine.Internal
end
section
namespace Mine.Internal
section
variable {w:World} {S0:Shared} {k:Nat} {c:Cx} {σ:St}
theorem tab_st {P:Addr} (hP:P = 197 ∨ P = 204) : P ≠ cStatics:=by rcases hP with rfl | rfl <;> decide
theorem Lo.tab {P a:Addr} (h:Lo S0 a) (hP:P = 197 ∨ P = 204) : a ≠ P:=fun q=>by
 subst q
 rcases hP with rfl | rfl
 ·exact absurd h.2 (by decide)
 ·exact absurd h.2 (by decide)
theorem R.gen {s s':Shared} {P:Addr} {ps more:Array Value} (r:R c σ s) (hs:Sane c) (hg:c.gen = true) (hP:P = 197 ∨ P = 204) (hp:s.heap.get? P = some (tabObj ps)) (hp':s'.heap.get? P = some (tabObj (ps ++ more))) (hT:TriplesOk (ps ++ more).toList)
  (hk:∀ b o,b ≠ P → s.heap.get? b = some o → s'.heap.get? b = some o) (hc:isCodeTable c.S0.heap P) (os:s'.os = s.os) (dr:s'.drawn = s.drawn) (bare:AllBare s'.gens) (tk:s.toks ≤ s'.toks) : R c σ s' ∧ Step c σ s σ s':=by
 have hPS:=tab_st hP
 have hS:=r.glob.base.tab P hP
 have lo : ∀ b,Lo c.S0 b → b ≠ P:=fun b h=>h.tab hP
 have clsk : ∀ b o,o.cls ≠ .none → s.heap.get? b = some o → s'.heap.get? b = some o:=fun b o ho e=>hk b o (fun q=>by
  rw [q,hp] at e
  cases e
  exact ho rfl) e
 have up : Up (msOf c σ) (msOf c σ) s s':=fun b o hb hc e=>⟨hb,clsk b o hc e⟩
 have cells : ∀ p ∈ c.env.cells,p.2 ≠ P:=fun p hp=>by
  unfold Sane at hs
  rw [hg,Bool.not_true,Bool.false_or,List.all_eq_true] at hs
  have:=hs p hp
  rw [Bool.or_eq_true] at this
  rcases this with h | h
  ·exact lo _ (r.clo p hp (beq_iff_eq.mp h))
  ·rw [Bool.and_eq_true] at h
   intro q
   rcases hP with rfl | rfl
   ·have:=h.1; rw [q] at this; exact absurd this (by decide)
   ·have:=h.2; rw [q] at this; exact absurd this (by decide)
 have there : ∀ b o,s.heap.get? b = some o → ∃ o',s'.heap.get? b = some o':=fun b o e=>by
  by_cases q : b = P
  ·exact ⟨_,q ▸ hp'⟩
  ·exact ⟨o,hk b o q e⟩
 have old : OldK c.S0.heap s'.heap:=by
  refine ⟨fun b o e=>?_,fun b o e=>let ⟨o',e'⟩:=r.glob.old.there b o e; there b o' e'⟩
  by_cases q : b = P
  ·subst q
   rw [hS] at e
   cases e
   exact .inr (.inl ⟨hc,rfl,#[],ps ++ more,rfl,by rw [Array.empty_append]; exact hp'⟩)
  ·rcases r.glob.old.old b o e with z | ⟨t,hc,vs,more,hv,z⟩ | ⟨rfl,hc,⟨o',es,n,ho',z1⟩,z⟩
   ·exact .inl (hk b o q z)
   ·exact .inr (.inl ⟨t,hc,vs,more,hv,hk b _ q z⟩)
   ·exact .inr (.inr ⟨rfl,hc,⟨o',es,n,hk _ _ q ho',z1⟩,fun key=>by rw [OldK.staticOf_congr (h:=s.heap) ((hk _ _ q ho').trans ho'.symm) key]; exact z key⟩)
 have tab : Tabs s'.heap:=fun P' hP'=>by
  by_cases q : P' = P
  ·subst q; exact ⟨_,hp',hT⟩
  ·obtain ⟨ps',e,k⟩:=r.glob.tab P' hP'
   exact ⟨ps',hk P' _ q e,k⟩
 obtain ⟨m,hm,hv⟩:=r.vars
 refine ⟨⟨⟨r.glob.base,old,fun o e=>hk _ o (Ne.symm hPS) (r.glob.st o e),os.trans r.glob.os,bare,Nat.le_trans r.glob.tok tk,tab⟩,r.eok,⟨m,hm.at' fun o e=>hk _ o (lo _ (r.lo _ (.head _))) e,fun x v e=>?_⟩,fun p hp=>⟨(r.cells p hp).1,?_⟩,r.apart,fun p hp=>(r.mu p hp).mono up tk fun o e=>hk _ o (lo _ (r.lo _ (.tail _ (List.mem_map_of_mem hp)))) e,r.nd,r.disj,fun a ha=>let ⟨o,e⟩:=r.live a ha; there a o e,r.lo,r.clo⟩,?_⟩
 ·rcases hv x v e with ⟨hk',y,h1,hr⟩ | ⟨hk',b,y,hb,hc',hr⟩
  ·exact .inl ⟨hk',y,h1,hr.mono up tk⟩
  ·obtain ⟨o,e1,e2⟩:=hc'
   exact .inr ⟨hk',b,y,hb,⟨o,hk _ _ (cells _ (mem_of_lookup hb)) e1,e2⟩,hr.mono up tk⟩
 ·obtain ⟨u,o,e1,e2⟩:=(r.cells p hp).2
  exact ⟨u,o,hk _ _ (cells p hp) e1,e2⟩
 ·refine ⟨fun b o hb hgk e=>hk b o (fun q=>?_) e,fun ζ h=>.inl h,there,fun h=>(by rw [hg] at h; cases h),dr,tk⟩
  have h1:=hgk hg (q ▸ hP)
  rw [q,hp] at e
  cases e
  exact h1 rfl
structure Grow (P:Addr) (s s':Shared) : Prop where
 kept : ∀ b o,b ≠ P → s.heap.get? b = some o → s'.heap.get? b = some o
 tab : ∃ ps more,s.heap.get? P = some (tabObj ps) ∧ s'.heap.get? P = some (tabObj (ps ++ more)) ∧ TriplesOk (ps ++ more).toList
 os : s'.os = s.os
 drawn : s'.drawn = s.drawn
 bare : AllBare s'.gens
 toks : s.toks ≤ s'.toks
theorem R.grow {s s':Shared} {P:Addr} (r:R c σ s) (g:Grow P s s') (hs:Sane c) (hg:c.gen = true) (hP:P = 197 ∨ P = 204) (hc:isCodeTable c.S0.heap P) : R c σ s' ∧ Step c σ s σ s':=by
 obtain ⟨ps,more,h1,h2,h3⟩:=g.tab
 exact r.gen hs hg hP h1 h2 h3 g.kept hc g.os g.drawn g.bare g.toks
theorem Grow.keeps {P:Addr} {s s₁ s':Shared} (g:Grow P s s₁) (k:Kp s₁ s') : Grow P s s':=by
 obtain ⟨ps,more,h1,h2,h3⟩:=g.tab
 obtain ⟨⟨h',t',rfl,hk⟩,ht⟩:=k
 exact ⟨fun b o q e=>hk b o (g.kept b o q e),⟨ps,more,h1,hk _ _ h2,h3⟩,g.os,g.drawn,g.bare,Nat.le_trans g.toks ht⟩
theorem Grow.moved {P:Addr} {s s₁ s':Shared} {wr:List Addr} {i:Nat} (g:Grow P s s₁) (m:Moved wr (GenOnlyQ i) s₁ s') (hw:∀ b ∈ wr,s.heap.get? b = Option.none) : Grow P s s':=by
 obtain ⟨ps,more,h1,h2,h3⟩:=g.tab
 have nw : ∀ b o,s.heap.get? b = some o → b ∉ wr:=fun b o e q=>by rw [hw b q] at e; cases e
 exact ⟨fun b o q e=>m.heap b o (nw b o e) (g.kept b o q e),⟨ps,more,h1,m.heap _ _ (nw _ _ h1) h2,h3⟩,m.os.trans g.os,m.drawn.trans g.drawn,g.bare.movedS m,Nat.le_trans g.toks m.toks⟩
noncomputable abbrev pairV (p:Str × Str) : V:=.tup [.str p.1,.str p.2]
theorem pairs_at {ms:List Addr} {s:Shared} {ps:List (Str × Str)} {xs:Array Value} (hr:VRs S0 ms s (ps.map pairV) xs.toList) : ∃ f : Nat → Addr × Tok × Tok,∀ j,j < xs.size → ∃ p,ps[j]? = some p ∧ xs[j]? = some (.ref (f j).1) ∧ s.heap.IsTuple (f j).1 #[.str p.1 (f j).2.1,.str p.2 (f j).2.2]:=by
 refine (Classical.skolem (p:=fun (j:Nat) (y:Addr × Tok × Tok)=>j < xs.size → ∃ p,ps[j]? = some p ∧ xs[j]? = some (.ref y.1) ∧ s.heap.IsTuple y.1 #[.str p.1 y.2.1,.str p.2 y.2.2])).mp fun j=>?_
 by_cases h : j < xs.size
 ·have hl : xs.size = ps.length:=by rw [hr.size,List.length_map]
  have hj : j < ps.length:=by w_left
  obtain ⟨x,h1,h2⟩:=hr.get (i:=j) (v:=pairV ps[j]) (by simp [hj])
  rw [Array.getElem?_toList] at h1
  cases h2.inv with | @mk b ys n gb mb rb=>
  obtain ⟨y,z,e,hy,hz⟩:=rb.two
  cases hy.inv with | mk ty=>cases hz.inv with | mk tz=>
  refine ⟨(b,ty,tz),fun ζ=>⟨ps[j],List.getElem?_eq_getElem hj,h1,?_⟩⟩
  have : ys = #[.str ps[j].1 ty,.str ps[j].2 tz]:=by apply Array.toList_inj.mp; rw [e]
  subst this
  exact ⟨_,gb,rfl,_,rfl⟩
 ·exact ⟨(0,0,0),fun q=>absurd q h⟩
theorem BM.at {s:Shared} (g:Glob w S0 s) : ∃ mg bm ob,BMod s.heap mainGlobals mg bm ob:=by
 obtain ⟨p,l,mean,mg,mb,T⟩:=g.base.top
 obtain ⟨bm,ob,M⟩:=bmod_of_top T
 have h:=g.old
 exact ⟨mg,bm,ob,old_ns h M.ns (by decide),M.name,M.ne,h.get_of_cls M.obj (by rw [M.cls]; nofun),M.cls,M.dict,M.data⟩
set_option maxHeartbeats 2000000 in
theorem gen_acc {A:Around} {s:Shared} {a d cc P:Addr} {ps:List (Str × Str)} {elt:Expr} {xa xb y:Str} {pa pb pt yp pos:Pos} {kt:Nat} {scope:Scope} {F:Nat → Value → Prop} {Q:Value → Shared → Prop}
  (ft:Fit (k + 1) A) (r:R c σ s) (hself:σ.loc.lookup y = some (.mob a)) (hyd:(y == ("__debug__":Str)) = false) (hyc:(y == ("__classdict__":Str)) = false) (hm:σ.mu.lookup a = some (.acc d (ps.map pairV)))
  (hcode:c.env.code = .ref cc) (hcd:codeHdIn (K1 c.w) cc P = true) (hP:P = 197 ∨ P = 204) (hcl:closureFor scope c.env = pure []) (hcell:∀ y ∈ scope.names,y.2 ≠ .cell) (h0:scope.names.lookup (".0":Str) = some NameKind.local)
  (hxa:scope.names.lookup xa = some .local) (hxb:scope.names.lookup xb = some .local) (hab:xa ≠ xb) (hkind:scope.kind = .function) (hco:scope.isCoroutine = false) (hs:Sane c) (hg:c.gen = true)
  (helt:∀ C code A' (s₂:Shared) m₂ mg mb i ta tb,EltAt c.w (genEnv scope [] C code builtinsNs c.env) m₂ mg mb s₂.heap → m₂ xa = some (.str (ps.getD i ("","")).1 ta) → m₂ xb = some (.str (ps.getD i ("","")).2 tb) → WP c.w A' (eval elt (genEnv scope [] C code builtinsNs c.env)) (fun y s₃=>F i y ∧ Kp s₂ s₃) s₂)
  (hQ:∀ G fp wr g St s₅,isCodeTable c.S0.heap P → Grow P s s₅ →  WalksS P0 c.w A.in4 G fp wr (GenOnlyQ g) (passing (fun ζ=>true) ps.length 0).length (fun j y=>∃ i,(passing (fun ζ=>true) ps.length 0)[j]? = some i ∧ F i y) St → St 0 s₅ → (∀ i s,St i s → s.TypeIs (.ref G) "generator") → G ∈ fp → (∀ b ∈ fp,b ≤ G) → (∀ b ∈ wr,s.heap.get? b = none ∧ 304 < b) → Q (.ref G) s₅) :
  WP c.w A (eval (.GeneratorExp elt [⟨.Tuple [.Name xa pa,.Name xb pb] kt pt,.Name y yp,[],0⟩] scope pos) c.env) Q s:=by
 refine WPtk ?_
 refine wpAny_GeneratorExp_walksQTD ft.hh hco hcl hcell h0 hxa hxb hab hkind ft.room ?_ (fun x=>rfl)
 refine wpAny_mono (EV.name (k:=k + 1) hself hyd hyc A s ft r) (fun xv s₁ w0=>?_) fun ζ ζ z=>z.elim
 obtain ⟨hx,k₁⟩:=w0
 w_dflts hx
 have r₁:=r.keeps k₁
 obtain ⟨xs,n,ga,hr,hl⟩:=r₁.acc hm
 rw [List.length_map] at hl
 have X₁:=r₁.glob.X1
 obtain ⟨f,hf⟩:=pairs_at hr
 obtain ⟨tp,hp,hT⟩:=r.glob.tab P hP
 have hp₁:=kget k₁ hp
 have hc₀ : isCodeTable c.S0.heap P:=by
  have hd:=codeHd_of_K (fun a o e=>K1_S0 r.glob e) hcd
  exact (hd.tab (r.glob.base.tab P hP)).isCodeTable
 obtain ⟨mg,mb,N⟩:=r₁.glob.names
 obtain ⟨mgb,bm,ob,BM⟩:=BM.at r₁.glob
 have lim:=r₁.glob.limit
 obtain ⟨⟨h₁,t₁,rfl,hk₁⟩,ht₁⟩:=k₁
 refine acc_pyIter X₁ ga ?_
 have hkI : ∀ b o,h₁.get? b = some o → (h₁.push { cls:=.type "list_iterator",data:=.fields #[.ref a,.int 0 0] }).get? b = some o:=fun b o e=>Heap.get?_push_of_some _ e
 refine ⟨lim.keeps hkI,?_⟩
 have hd₁:=codeHd_of_K (fun a o e=>hkI _ _ (X₁ a o e)) hcd
 have hp₂:=hkI _ _ hp₁
 have hcode' : ∀ {Q':Value → Shared → Prop},(∀ code h' tk more,Heap.ExtBut P (h₁.push { cls:=.type "list_iterator",data:=.fields #[.ref a,.int 0 0] }) h' → h'.get? P = some (tabObj (tp ++ more)) → TriplesOk (tp ++ more).toList → Q' code { s with heap:=h',toks:=tk }) →
   wpAny (model P0 c.w) A (genexprCode c.env pos (c.env.qual ++ "<genexpr>") scope) Q' (fun ζ ζ=>False) { s with heap:=h₁.push { cls:=.type "list_iterator",data:=.fields #[.ref a,.int 0 0] },toks:=t₁ }:=by
  intro Q' h
  cases hcm : codeAmong pos tp.toList with
  | some c'=>exact wpAny_genexprCode_hit hcode (hd₁.code hp₂ hT) hcm (h c' _ _ #[] (fun b o ζ e=>e) (by rw [Array.append_empty]; exact hp₂) (by rw [Array.append_empty]; exact hT))
  | none=>
   refine wpAny_genexprCodeX hcode (hd₁.code hp₂ hT) (hd₁.tab hp₂) hcm fun c' h' tk hx ζ ζ hic ζ hta ζ=>h _ h' tk _ hx hta.2 ?_
   obtain ⟨o,vs,file,tf,flags,tg,inF,text,tt,op,e1,e2,e3,e4,e5,e6,e7,e8,e9,e10,e11⟩:=hic
   exact e10
 refine wpAny_mono (hcode' fun code h' tk more hx hp' hT'=>?_) (fun ζ ζ z=>z) fun ζ ζ z=>z.elim
 have hne : ∀ b o,h₁.get? b = some o → o.cls ≠ .none → b ≠ P:=fun b o e ho q=>by
  rw [q,hp₁] at e
  cases e
  exact ho rfl
 have hI : (h₁.push { cls:=.type "list_iterator",data:=.fields #[.ref a,.int 0 0] }).get? h₁.objs.size = some { cls:=.type "list_iterator",data:=.fields #[.ref a,.int 0 0] }:=Heap.get?_push_at rfl rfl
 have hIP : h₁.objs.size ≠ P:=fun q=>absurd (Heap.lt_size hp₁) (by rw [q]; exact Nat.lt_irrefl _)
 have keep : ∀ b o,b ≠ P → h₁.get? b = some o → h'.get? b = some o:=fun b o q e=>hx b o q (hkI b o e)
 have ns3 : ∀ {b:Addr} {m:Str → Option Value},b ≠ P → h₁.Ns b m → h'.Ns b m:=fun q x=>x.at' fun o e=>keep _ o q e
 have P0' : (0:Nat) ≠ P:=by rcases hP with rfl | rfl <;> decide
 have P3 : mainGlobals ≠ P:=by rcases hP with rfl | rfl <;> decide
 rw [r.eok.globals,r.eok.builtins]
 have BM' : BMod h' mainGlobals mgb bm ob:=(BM.keeps hkI).extBut (hd₁.tab hp₂) hx
 refine wpAny_builtinsFor BM'.ns BM'.name BM'.ne BM'.obj BM'.cls BM'.dict BM'.data ?_
 have hsz : ∀ b o,h'.get? b = some o → b < h'.objs.size:=fun b o e=>Heap.lt_size e
 have hfn : ∀ j,j < xs.size → (f j).1 ≠ h₁.objs.size:=fun j hj q=>by
  obtain ⟨p,_,_,o,e,_⟩:=hf j hj
  rw [q] at e; exact absurd (Heap.lt_size e) (Nat.lt_irrefl _)
 have hvs : ∀ j,j < xs.size → h'.IsTuple (f j).1 #[.str (ps.getD j ("","")).1 (f j).2.1,.str (ps.getD j ("","")).2 (f j).2.2]:=fun j hj=>by
  obtain ⟨p,h1,_,o,e,hc,hd⟩:=hf j hj
  rw [show ps.getD j ("","") = p by rw [List.getD_eq_getElem?_getD,h1]; rfl]
  exact ⟨o,keep _ _ (hne _ _ e (by rw [hc]; nofun)) e,hc,hd⟩
 have hga : h'.get? a = some (accOb d xs n):=keep _ _ (hne _ _ ga nofun) ga
 have haI : a ≠ h₁.objs.size:=Nat.ne_of_lt (Heap.lt_size ga)
 refine ⟨h₁.objs.size,_,[h₁.objs.size],xs.size,_,_,_,fun ζ=>true,F,rfl,fun A' hA=>walksAcc hA h₁.objs.size a haI xs (fun j=>(f j).1) (fun j=>#[.str (ps.getD j ("","")).1 (f j).2.1,.str (ps.getD j ("","")).2 (f j).2.2]) (fun j hj=>(hf j hj).elim fun p h=>h.2.1) hfn,fun i vals e=>⟨_,_,e⟩,⟨⟨_,hx _ _ hIP hI,rfl,rfl⟩,⟨_,_,hga,rfl⟩,hvs⟩,fun b hb=>?_,(lim.keeps hkI).extBut hx (Ne.symm (tab_st hP)),fun q=>?_,fun href hk₄=>⟨?_,?_⟩,?_⟩
 ·rcases memc hb with q | hb
  ·rw [q]; exact hsz _ _ (hx _ _ hIP hI)
  ·rcases memc hb with q | hb
   ·rw [q]; exact hsz _ _ hga
   ·obtain ⟨j,hj,rfl⟩:=memm hb
    obtain ⟨o,e,_⟩:=hvs j (List.mem_range.mp hj)
    exact hsz _ _ e
 ·have h1:=mem1 q
  obtain ⟨mc,⟨o,es,ep,e,_⟩,_⟩:=lim
  rw [h1] at e; exact absurd (Heap.lt_size e) (Nat.lt_irrefl _)
 ·intro A' E' i va vb s₂ m₂ hA hD hU hPt hns hxa' hxb' hal
  exact wpAny_pure ⟨rfl,s₂.heap,s₂.toks,rfl,fun ζ ζ e=>e⟩
 ·intro A' E' i va vb s₂ m₂ hA hD hU hPt hpz hns hxa' hxb' hal
  have ev : va = .str (ps.getD i ("","")).1 (f i).2.1 ∧ vb = .str (ps.getD i ("","")).2 (f i).2.2:=by
   have:=congrArg Array.toList (show #[va,vb] = #[Value.str (ps.getD i ("","")).1 (f i).2.1,Value.str (ps.getD i ("","")).2 (f i).2.2] from hPt)
   simp at this
   exact this
  obtain ⟨rfl,rfl⟩:=ev
  have kp : ∀ b o,h₁.get? b = some o → b ≠ P → s₂.heap.get? b = some o:=fun b o e q=>by
   have e':=keep _ o q e
   exact hal b (List.mem_range.mpr (hsz _ _ e')) (fun z=>by rw [mem1 z] at e; exact absurd (Heap.lt_size e) (Nat.lt_irrefl _)) o (hk₄ _ _ e')
  have X₂ : (K1 c.w).In s₂.heap:=fun b o e=>by
   refine kp b o (X₁ b o e) fun q=>?_
   have hm:=mem_of_lookupA e
   obtain ⟨_,hc⟩:=List.mem_filter.mp hm
   have e1:=X₁ b o e
   rw [q,hp₁] at e1
   cases e1
   have hc' : (!(Value.none == Value.none) || b == cStatics) = true:=hc
   rw [show (Value.none == Value.none) = true from rfl] at hc'
   exact tab_st hP (q ▸ (by simpa using hc'))
  have N₂ : Names c.w mg mb s₂.heap:=⟨N.g.at' fun o e=>kp _ o e P3,N.b.at' fun o e=>kp _ o e P0',N.builtins⟩
  refine wpAny_mono (helt _ _ A' s₂ m₂ mg mb i _ _ ⟨hkind,r.eok.globals,rfl,hns,X₂,N₂⟩ hxa' hxb') (fun y s₃ ⟨hF,kk⟩=>⟨hF,kk.k⟩) fun ζ ζ z=>z.elim
 ·intro G h₅ tk' gs hgb hsG hs₅ hk₅ W hst htk
  have hlo : 304 < h₁.objs.size:=(r₁.glob.lo (Nat.le_refl _)).2
  have hlt : h₁.objs.size < h'.objs.size:=hsz _ _ (hx _ _ hIP hI)
  have hPl : P < h₁.objs.size:=Heap.lt_size hp₁
  have gone : ∀ {q:Option Obj},(∀ o,q ≠ some o) → q = Option.none:=fun {q} h=>by cases q with | none=>rfl | some o=>exact absurd rfl (h o)
  have gr : Grow P s { s with gens:=s.gens.push gs,toks:=tk',heap:=h₅ }:=⟨fun b o q e=>hk₅ _ _ (keep _ _ q (hk₁ _ _ e)),⟨tp,more,hp,hk₅ _ _ hp',hT'⟩,rfl,rfl,r.glob.bare.push hgb,htk⟩
  rw [hl] at W hst
  refine hQ G (G :: h'.objs.size :: List.range h'.objs.size) (h'.objs.size :: [h₁.objs.size]) _ _ _ hc₀ gr W hst (fun i s h=>h.1.typeIs) (List.mem_cons_self ..) (fun b hb=>?_) fun b hb=>?_
  ·rcases memc hb with q | hb
   ·rw [q]; exact Nat.le_refl _
   ·rcases memc hb with q | hb
    ·rw [q]; exact Nat.le_of_lt hsG
    ·exact Nat.le_of_lt (Nat.lt_trans (List.mem_range.mp hb) hsG)
  ·rcases memc hb with q | hb
   ·rw [q]
    exact ⟨gone fun o e=>Nat.lt_irrefl _ (hsz _ _ (keep _ _ (Nat.ne_of_gt (Nat.lt_trans hPl hlt)) (hk₁ _ _ e))),Nat.lt_trans hlo hlt⟩
   ·rw [mem1 hb]
    exact ⟨gone fun o e=>Nat.lt_irrefl _ (Heap.lt_size (hk₁ _ _ e)),hlo⟩
end
end Mine.Internal
end
section
namespace Mine.Internal
theorem args_sum2 (a b:Value) : argsOk "sum" ⟨[a,b],[]⟩:=by unfold argsOk; kernel_rfl
section
variable {w:World} {A:Around} {E:Value → Shared → Prop} {s:Shared}
theorem call_sum2 {x:Value} {tk:Tok} {Q:Value → Shared → Prop}
  (h:wpAny (model P0 w) A.in1 (pyIter x) (fun it s₂=>∃ I fp wr G n P St val,it = .ref I ∧ WalksS P0 w A.in1 I fp wr G n P St ∧ St 0 s₂ ∧ (∀ b ∈ fp,b < s₂.heap.objs.size) ∧
   (∀ i v,P i v → ∃ t,v = .int (val i) t) ∧
   ∀ s' t',Moved wr G s₂ s' → Q (.int (preSum val n) t') s') E s) :
  wpAny (model P0 w) A (call (.builtin "sum") [x,.int 0 tk]) Q E s:=by
 refine call_function_tree F.kind_sum F.plain_sum F.entry_sum (args_sum2 _ _) ?_
 unfold Builtin.«sum»
 simp only [List.length_cons,List.length_nil]
 refine wpAny_ite_false (by decide) ?_
 refine wpAny_bind (wpAny_of_eq (show Builtin.Builtins.bindParams "sum" ["start"] 0 ⟨[.int 0 tk],[]⟩ = pure [some (.int 0 tk)] from rfl) ?_)
 refine wpAny_bind (wpAny_mono h (fun it s₂ h₂=>?_) fun ζ ζ e=>e)
 obtain ⟨I,fp,wr,G,n,P,St,val,rfl,W,hst,hfp,hval,hQ⟩:=h₂
 dsimp only
 refine wpAny_ite_true (by decide) ?_
 refine wpAny_bind (wpAny_rule (wpAny_bind (wpAny_mkInt (wpAny_bind (wpAny_pure ?_)))))
 simp only [List.forIn_cons,List.forIn_nil]
 refine wpAny_bind (wpAny_bind (wpAny_bind (wpAny_isInstance (T:="int") (b:=false) (typeIs_int _ _ _) PySem.sub_int_str ?_)))
 refine wpAny_ite_false rfl ?_
 refine wpAny_pure (wpAny_bind (wpAny_bind (wpAny_isInstance (T:="int") (b:=false) (typeIs_int _ _ _) PySem.sub_int_bytes ?_)))
 refine wpAny_ite_false rfl ?_
 refine wpAny_pure (wpAny_bind (wpAny_bind (wpAny_isInstance (T:="int") (b:=false) (typeIs_int _ _ _) PySem.sub_int_bytearray ?_)))
 refine wpAny_ite_false rfl ?_
 refine wpAny_pure (wpAny_pure ?_)
 refine wpAny_bind (wpAny_newObj_type ?_)
 have hSf : s₂.heap.objs.size ∉ fp:=fun hm=>Nat.lt_irrefl _ (hfp _ hm)
 refine wpAny_pure ⟨plainId_quiet F.plain_sum_loop _,codeAny_sum_loopAnyS W val hval s₂.heap.objs.size hSf n 0 _ s₂.toks 0 0 (.inl rfl) rfl (Nat.zero_le _)
  (W.frame 0 s₂ _ _ hst (by first | exact Nat.le_refl _ | exact Nat.le_succ _ | w_left) fun b ζ o e=>Heap.get?_push_of_some _ e) (Heap.get?_push_size _ rfl) fun s' t' hm=>?_⟩
 exact hQ s' t' (hm.drop_new (by first | exact Nat.le_refl _ | exact Nat.le_succ _ | w_left))
theorem pass_all (n:Nat) : passing (fun ζ=>true) n 0 = List.range n:=by
 unfold passing
 rw [List.drop_zero,List.filter_eq_self.mpr fun ζ ζ=>rfl]
theorem pass_len (n:Nat) : (passing (fun ζ=>true) n 0).length = n:=by rw [pass_all,List.length_range]
theorem pass_get {n j i:Nat} (h:(passing (fun ζ=>true) n 0)[j]? = some i) : i = j:=by
 rw [pass_all] at h
 obtain ⟨h1,h2⟩:=List.getElem?_eq_some_iff.mp h
 rw [List.getElem_range] at h2
 exact h2.symm
noncomputable def sizeP (ps:List (Str × Str)) : Int:=(ps.map fun p=>(p.1.length:Int) + p.2.length).sum
theorem preSum_size (ps:List (Str × Str)) : ∀ n,n ≤ ps.length → preSum (fun i=>((ps.getD i ("","")).1.length : Int) + (ps.getD i ("","")).2.length) n = ((ps.take n).map fun p=>(p.1.length:Int) + p.2.length).sum
 | 0,_=>by simp [preSum]
 | n + 1,h=>by
  have hn : n < ps.length:=by w_left
  rw [preSum,preSum_size ps n (by w_left),List.take_add_one,List.map_append,List.sum_append]
  simp [List.getD_eq_getElem?_getD,List.getElem?_eq_getElem hn]
end
section
variable {w:World} {S0:Shared} {k:Nat}
set_option maxHeartbeats 2000000 in
theorem accLen_ok {a d:Addr} {ps:List (Str × Str)} {mu:List (Addr × MO)} (h:mu.lookup a = some (.acc d (ps.map pairV))) (hd:mu.lookup d = some (.dict [(isV,.int 0)])) (hsz:∀ p ∈ ps,p.1.length < 1000 ∧ p.2.length < 1000) :
  FNM w S0 (k + 2) true (fun xs=>call (.ref 202) xs) [.mob a] mu (fun v mu'=>v = .int (sizeP ps) ∧ mu' = mu):=by
 refine FNM.intro (ns:=["self"]) (K1_of (by rfl) (by rfl)) (by kernel_rfl) (args1 fun ζ=>rfl) (by rfl) (by decide) (by decide) rfl rfl rfl (fun X=>?_)
 ·refine EXs.cons (EX.retM ?_)
  intro A s ft r
  show WP w A (do callWith _ (← eval (.Name "sum" _) _) [] (backTo _ (starEach _ _)) []) _ s
  refine wpAny_bind (WPmono ((EV.boot (x:="sum") (k:=k + 1) (v:=.builtin "sum") (by kernel_rfl) (by rfl) (by rfl) (by decide) (by decide)) A s ft r) fun x s₁ w0=>?_)
  obtain ⟨hx,k₁⟩:=w0
  w_dflts hx
  have r₁:=r.keeps k₁
  refine callWith_of (P:=fun ζ=>True) (by rfl) (fun h ζ=>⟨.machine,.inr (.inl rfl),Looks.of_pure rfl⟩) ?_
  refine wp_evalArgs (by rfl) ?_
  refine spliced_cons ?_
  refine gen_acc (k:=k) (cc:=201) (P:=197) (y:="self") (F:=fun i y=>∃ t,y = .int (((ps.getD i ("","")).1.length : Int) + (ps.getD i ("","")).2.length) t) ft r₁ (by rfl) (by decide) (by decide) h rfl (by kernel_rfl) (.inl rfl) rfl (by decide) (by decide) (by decide) (by decide) (by decide) rfl rfl rfl rfl (fun C code A' s₂ m₂ mg mb i ta tb E ha hb=>?_) (fun G fp wr g St s₅ hc gr W hst hty hG hfp hwr=>?_)
  ·have hz : (ps.getD i ("","")).1.length < 1000 ∧ (ps.getD i ("","")).2.length < 1000:=by
    rw [List.getD_eq_getElem?_getD]
    cases q : ps[i]? with
    | none=>exact ⟨by decide,by decide⟩
    | some p=>exact hsz p (List.mem_of_getElem? q)
   exact elt_len E (by rfl) (by rfl) (by rfl) ha hb (by decide) (by decide) (by w_left) (by w_left)
  ·obtain ⟨r₅,st₅⟩:=r₁.grow gr rfl rfl (.inl rfl) hc
   refine spliced_cons (WPmono (ev_attrA (k:=k + 1) (v:=.int 0) (kvs:=[(isV,.int 0)]) (EV.name (x:="self") (v:=.mob a) (by rfl)) h hd (by rfl) rfl (by kernel_rfl) (by kernel_rfl) rfl A s₅ ft r₅) fun z s₆ ⟨hz,k₆⟩=>spliced_nil ⟨trivial,?_⟩)
   cases hz.inv with | mk tz=>
   have hst' : St 0 s₆:=by
    obtain ⟨⟨h',t',rfl,hk⟩,ht⟩:=k₆
    exact W.frame 0 s₅ h' t' hst ht fun b ζ o e=>hk b o e
   have W1:=WalksS.in4_1 W
   refine call_sum2 (W1.self 0 _ _ _ hst' ⟨G,_,_,_,_,_,_,fun i=>((ps.getD i ("","")).1.length : Int) + (ps.getD i ("","")).2.length,rfl,W1,hst',fun b hb=>?_,fun i v hv=>?_,fun s' t' hm=>?_⟩)
   ·obtain ⟨o,e,_⟩:=hty 0 s₆ hst'
    exact Nat.lt_of_le_of_lt (hfp b hb) (Heap.lt_size e)
   ·obtain ⟨j,hj,t,e⟩:=hv
    rw [pass_get hj] at e
    exact ⟨t,e⟩
   ·obtain ⟨r',st'⟩:=r₁.grow ((gr.keeps k₆).moved hm fun b hb=>(hwr b hb).1) rfl rfl (.inl rfl) hc
    refine ⟨.int (sizeP ps),_,⟨rfl,rfl⟩,r',?_,(Step.of_keeps k₁).trans st'⟩
    have e:=preSum_size ps ps.length (Nat.le_refl _)
    rw [List.take_length] at e
    rw [pass_len,e]
    exact .int _ _
end
end Mine.Internal
end
section
namespace Mine.Internal
noncomputable def textP (ps:List (Str × Str)) : Str:=Txt.join "" (ps.map fun p=>Txt.join "" [p.1,p.2])
section
variable {w:World} {S0:Shared} {k:Nat}
set_option maxHeartbeats 2000000 in
theorem accStr_ok {a d:Addr} {ps:List (Str × Str)} {mu:List (Addr × MO)} (h:mu.lookup a = some (.acc d (ps.map pairV))) (hsz:∀ p ∈ ps,p.1.length < 1000 ∧ p.2.length < 1000) (hok:JoinOk "" (ps.map fun p=>Txt.join "" [p.1,p.2]) = true) (hl:ps.length ≤ sizeLine) :
  FNM w S0 (k + 2) true (fun xs=>call (.ref 209) xs) [.mob a] mu (fun v mu'=>v = .str (textP ps) ∧ mu' = mu):=by
 refine FNM.intro (ns:=["self"]) (K1_of (by rfl) (by rfl)) (by kernel_rfl) (args1 fun ζ=>rfl) (by rfl) (by decide) (by decide) rfl rfl rfl (fun X=>?_)
 ·refine EXs.cons (EX.retM ?_)
  intro A s ft r
  refine wpAny_Call_method (by rfl) (by rfl) (by rfl) F.plainAttrs_str F.slot_str_join F.type_str_join ?_
  obtain ⟨mg,mb,N⟩:=r.glob.names
  refine Name_function_global r.eok.kind (by rfl) (loadGlobal_global (mg:=mg) (by rw [r.eok.globals]; exact N.g) (mg_of r.glob.X1 N.g (empty_glob w)) ⟨typeIs_str _ _ _,nofun,?_⟩) (by decide)
  refine callWith_of (P:=fun ζ=>True) (by rfl) (fun h ζ=>⟨.machine,.inr (.inl rfl),Looks.of_pure rfl⟩) ?_
  refine wp_evalArgs (by rfl) ?_
  refine spliced_cons ?_
  refine gen_acc (k:=k) (cc:=208) (P:=204) (y:="self") (F:=fun i y=>∃ t,y = .str (Txt.join "" [(ps.getD i ("","")).1,(ps.getD i ("","")).2]) t) ft r (by rfl) (by decide) (by decide) h rfl (by kernel_rfl) (.inr rfl) rfl (by decide) (by decide) (by decide) (by decide) (by decide) rfl rfl rfl rfl (fun C code A' s₂ m₂ mg mb i ta tb E ha hb=>?_) (fun G fp wr g St s₅ hc gr W hst hty hG hfp hwr=>spliced_nil ⟨trivial,?_⟩)
  ·have hz : (ps.getD i ("","")).1.length < 1000 ∧ (ps.getD i ("","")).2.length < 1000:=by
    rw [List.getD_eq_getElem?_getD]
    cases q : ps[i]? with
    | none=>exact ⟨by decide,by decide⟩
    | some p=>exact hsz p (List.mem_of_getElem? q)
   exact elt_join E (by rfl) (by rfl) (by rfl) ha hb (by decide) (by decide) (by w_left) (by rfl) (by rfl)
  ·have W2:=WalksS.in4_2 W
   refine WPtk (SC.joinGen W2 hty hst (fun b hb=>?_) hG (fun i v hv=>?_) (fun s' l hm hacc=>?_) (by rw [pass_len]; exact hl))
   ·obtain ⟨o,e,_⟩:=hty 0 s₅ hst
    exact Nat.lt_of_le_of_lt (hfp b hb) (Heap.lt_size e)
   ·obtain ⟨j,hj,t,e⟩:=hv
    exact ⟨_,_,e⟩
   ·have hll : l.map (·.1) = ps.map fun p=>Txt.join "" [p.1,p.2]:=by
     have hn : l.length = ps.length:=by simpa [strValues,pass_len] using hacc.1
     apply List.ext_getElem?
     intro j
     by_cases hj : j < l.length
     ·have hj' : j < ps.length:=by w_left
      obtain ⟨i,hi,t,e⟩:=hacc.2 j (.str l[j].1 l[j].2) (by simp [strValues,List.getElem?_eq_getElem hj])
      have hij:=pass_get hi
      subst hij
      injection e with h1 _
      simp [List.getElem?_eq_getElem hj,List.getElem?_eq_getElem hj',h1,List.getD_eq_getElem?_getD]
     ·rw [List.getElem?_eq_none (by simpa using Nat.le_of_not_lt hj),List.getElem?_eq_none (by simp; w_left)]
    refine ⟨by rw [hll]; exact hok,fun t' k' ht=>?_⟩
    have gm:=gr.moved hm fun b hb=>(hwr b hb).1
    have gm' : Grow 204 s { s' with toks:=k' }:=⟨gm.kept,gm.tab,gm.os,gm.drawn,gm.bare,Nat.le_trans gr.toks ht⟩
    obtain ⟨r',st'⟩:=r.grow gm' rfl rfl (.inr rfl) hc
    refine ⟨.str (textP ps),_,⟨rfl,rfl⟩,r',?_,st'⟩
    rw [hll]
    exact .str _ _
end
end Mine.Internal
end
section
namespace Mine.Internal
theorem find202 (w:World) : findIn (K1 w) (.ref 235) "__len__" = some (some (.ref 202)):=by kernel_rfl
theorem find209 (w:World) : findIn (K1 w) (.ref 235) "__str__" = some (some (.ref 209)):=by kernel_rfl
theorem findBool (w:World) : findIn (K1 w) (.ref 235) "__bool__" = some none:=by kernel_rfl
theorem isFn202 (w:World) : isFn (K1 w) (.ref 202) = true:=by kernel_rfl
theorem isFn209 (w:World) : isFn (K1 w) (.ref 209) = true:=by kernel_rfl
section
variable {w:World} {S0:Shared} {k:Nat}
theorem GM.accI {ms:List Addr} {mu:List (Addr × MO)} {s:Shared} {a d:Addr} {vs:List V} {kvs:List (Str × V)} (g:GM w S0 ms mu s) (h:mu.lookup a = some (.acc d vs)) (hd:mu.lookup d = some (.dict kvs)) : ∃ ox od,InstAt s.heap a ox 235 (some od):=by
 obtain ⟨xs,n,ga,hr⟩:=g.muok _ (mem_of_lookupA h)
 obtain ⟨kvals,D,_⟩:=g.muok _ (mem_of_lookupA hd)
 obtain ⟨od,e,_⟩:=lookIn_dict D
 exact ⟨_,od,ga,rfl,rfl,e⟩
theorem lenRun {A:Around} {E:Value → Shared → Prop} {s:Shared} {x:Addr} {ox:Obj} {od:Option Obj} {Q:Fin → Shared → Prop} (X:(K1 w).In s.heap) (I:InstAt s.heap x ox 235 od) 
  (h:wpAny (model P0 w) A (call (.ref 202) [.ref x]) (W.LenBack fun v s'=>Q (.done (.ret v)) s') E s) : wpAny (model P0 w) A (Builtin.«len» ⟨[.ref x],[]⟩) Q E s:=by
 unfold Builtin.«len»
 refine wpAny_bind (m:=oneArg "len" _) (wpAny_pure ?_)
 refine wpAny_bind (m:=callSpecial? (.ref x) (Str.ofString "__len__")) (special_fn X I (find202 w) (beq_iff_eq.mp (isFn202 w)) (wpAny_mono h (fun r s' hr=>?_) fun ζ ζ y=>y))
 cases r <;> first | exact hr.elim | skip
 rename_i n u
 obtain ⟨⟨h0,h1⟩,hq⟩:=hr
 refine wpAny_bind (wpAny_holding (wpAny_pure ?_))
 refine wpAny_bind (wpAny_letGo ?_)
 show wpAny _ _ (if n < 0 then _ else _) _ _ _
 rw [if_neg (by w_left)]
 show wpAny _ _ (if n ≥ 2 ^ 63 then _ else _) _ _ _
 rw [if_neg (by w_left)]
 exact wpAny_bind (wpAny_mkInt (wpAny_pure hq))
theorem GM.keeps {ms:List Addr} {mu:List (Addr × MO)} {s s':Shared} (g:GM w S0 ms mu s) (k₁:Kp s s') : GM w S0 ms mu s':=
 ⟨g.glob.keeps k₁,g.live.keeps (kall k₁),fun p hp=>(g.muok p hp).mono (.keeps k₁) k₁.t fun o e=>kget k₁ e,g.nd,g.disj,g.lo⟩
theorem StepM.of_keeps {gen:Bool} {mu:List (Addr × MO)} {s s':Shared} (k₁:Kp s s') : StepM gen mu s mu s':=by
 obtain ⟨⟨h',tk,rfl,hk⟩,ht⟩:=k₁
 exact ⟨fun b o ζ ζ e=>hk b o e,fun a h=>.inl h,fun b o e=>⟨o,hk b o e⟩,fun ζ=>rfl,rfl,ht⟩
theorem StepM.trans {gen:Bool} {mu mu₁ mu₂:List (Addr × MO)} {s s₁ s₂:Shared} (x:StepM gen mu s mu₁ s₁) (y:StepM gen mu₁ s₁ mu₂ s₂) : StepM gen mu s mu₂ s₂:=by
 refine ⟨fun b o hb hg e=>y.kept b o (fun q=>?_) hg (x.kept b o hb hg e),fun a ha=>?_,fun b o e=>let ⟨o',e'⟩:=x.there b o e; y.there b o' e',fun h=>(y.gens h).trans (x.gens h),y.drawn.trans x.drawn,Nat.le_trans x.toks y.toks⟩
 ·rcases x.fresh b q with h | h
  ·exact hb h
  ·rw [e] at h; cases h
 ·rcases y.fresh a ha with h | h
  ·exact x.fresh a h
  ·refine .inr ?_
   cases e : s.heap.get? a with
   | none=>rfl
   | some o=>obtain ⟨o',e'⟩:=x.there a o e; rw [h] at e'; cases e'
theorem FNM.weaken {gen:Bool} {t:List Value → Sem Value} {vs:List V} {mu:List (Addr × MO)} {Q Q':V → List (Addr × MO) → Prop} (h:FNM w S0 k gen t vs mu Q) (hq:∀ v mu',Q v mu' → Q' v mu') : FNM w S0 k gen t vs mu Q':=
 fun ms A s xs f g hx=>WPmono (h ms A s xs f g hx) fun z s' ⟨v,mu',a,b,d,e⟩=>⟨v,mu',hq v mu' a,b,d,e⟩
theorem fnmLen {a d:Addr} {vs:List V} {kvs:List (Str × V)} {mu:List (Addr × MO)} {Q:V → List (Addr × MO) → Prop} (h:mu.lookup a = some (.acc d vs)) (hd:mu.lookup d = some (.dict kvs))
  (hF:FNM w S0 k true (fun xs=>call (.ref 202) xs) [.mob a] mu fun v mu'=>∃ n : Int,v = .int n ∧ 0 ≤ n ∧ n < 2 ^ 63 ∧ Q (.int n) mu') : FNM w S0 (k + 1) true (fun xs=>call (.builtin "len") xs) [.mob a] mu Q:=by
 intro ms A s xs ft g hx
 obtain ⟨x,rfl,hx'⟩:=hx.one
 w_dflts hx'
 obtain ⟨ox,od,I⟩:=g.accI h hd
 refine Calls.call_function_entry PySem.kind_len PySem.plain_len PySem.entry_len (PySem.args_len1 _) ?_
 refine lenRun g.glob.X1 I (WPmono (hF ms A.in1 s _ ft.in1 g hx) fun z s' w0=>?_)
 obtain ⟨v,mu',⟨n,e,h0,h1,hQ⟩,g',hz,st⟩:=w0
 subst e
 cases hz.inv with | mk t=>
 have k₁ : Kp s' { s' with toks:=s'.toks + 1 }:=ktoks _
 exact ⟨⟨h0,h1⟩,_,rfl,_,mu',hQ,g'.keeps k₁,.int _ _,st.trans (.of_keeps k₁)⟩
theorem fnmStr {a d:Addr} {vs:List V} {kvs:List (Str × V)} {mu:List (Addr × MO)} {Q:V → List (Addr × MO) → Prop} (h:mu.lookup a = some (.acc d vs)) (hd:mu.lookup d = some (.dict kvs))
  (hF:FNM w S0 k true (fun xs=>call (.ref 209) xs) [.mob a] mu fun v mu'=>∃ n : Str,v = .str n ∧ Q (.str n) mu') : FNM w S0 (k + 2) true (fun xs=>call (.type "str") xs) [.mob a] mu Q:=by
 intro ms A s xs ft g hx
 obtain ⟨x,rfl,hx'⟩:=hx.one
 w_dflts hx'
 obtain ⟨ox,od,I⟩:=g.accI h hd
 have ft2 : Fit k A.in1.in1:=ft.in1.in1
 refine kso_call (by have:=ft.un; show A.units + 1 + 1 < 9900; w_left) g.glob.X1 I (find209 w) (isFn209 w) (WPmono (hF ms A.in1.in1 s _ ft2 g hx) fun z s' w0=>?_)
 obtain ⟨v,mu',⟨n,e,hQ⟩,g',hz,st⟩:=w0
 subst e
 cases hz.inv with | mk t=>
 exact ⟨.str n,mu',hQ,g',.str _ _,st⟩
end
section
variable {w:World} {S0:Shared} {k:Nat} {c:Cx} {σ:St}
theorem EMB.not {e:Expr} {pos:Pos} {P:Bool → St → Prop} (h:EMB c k σ e fun b σ'=>P (!b) σ') : EMB c k σ (.UnaryOp .Not e pos) P:=by
 intro A s f r
 show WP c.w A (do return !(← isTrue e c.env (eval e c.env))) _ s
 exact wpAny_bind (WPmono (h A s f r) fun x s₁ ⟨σ₁,hP,r₁,st₁⟩=>wpAny_pure ⟨σ₁,hP,r₁,st₁⟩)
theorem wp_truthyA {A:Around} {s₁:Shared} {a d:Addr} {vs:List V} {kvs:List (Str × V)} {P:Bool → St → Prop} (r₁:R c σ s₁) (h:σ.mu.lookup a = some (.acc d vs)) (hd:σ.mu.lookup d = some (.dict kvs)) (hg:c.gen = true) (hs:Sane c) (ft:Fit (k + 1) A)
  (hF:FNM c.w c.S0 k true (fun xs=>call (.ref 202) xs) [.mob a] σ.mu fun v mu'=>∃ n : Int,v = .int n ∧ 0 ≤ n ∧ n < 2 ^ 63 ∧ P (n != 0) ⟨σ.loc,mu'⟩) :
  WP c.w A (truthy (.ref a)) (fun b s'=>∃ σ',P b σ' ∧ R c σ' s' ∧ Step c σ s₁ σ' s') s₁:=by
 have gm:=r₁.gm
 obtain ⟨ox,od,I⟩:=gm.accI h hd
 have X:=r₁.glob.X1
 unfold truthy
 dsimp only
 refine wpAny_bind ?_
 unfold callSpecial? specialOf
 refine wpAny_bind (wpAny_bind (I.type.here ((looks_findIn X (findBool _)).here ?_)))
 refine wpAny_pure ?_
 refine wpAny_bind (wpAny_bind (I.type.here ((looks_findIn X (find202 _)).here ?_)))
 refine wpAny_ite_false (by decide) ?_
 refine wpAny_bind (wpAny_runValue (codeAny_builtin PySem.entry_len ?_))
 rw [Around.under_plainId PySem.plain_len _]
 have hx0 : VRs c.S0 (adr σ.mu ++ msC c) s₁ [.mob a] [.ref a]:=.cons (.mob a) .nil
 refine wpAny_mono (lenRun (Q:=fun fin s'=>∃ n t,fin = .done (.ret (.int n t)) ∧ ∃ σ',P (n != 0) σ' ∧ R c σ' s' ∧ Step c σ s₁ σ' s') X I (WPmono (hF (msC c) A.in1 s₁ _ ft.in1 gm hx0) fun z s' w0=>?_)) (fun fin s' hf=>?_) fun ζ ζ z=>z.elim
 ·obtain ⟨v,mu',hn,g',hz,st⟩:=w0
  obtain ⟨n,rfl,h0,h1,hP⟩:=hn
  cases hz.inv with | mk t=>
  have k₂ : Kp s' { s' with toks:=s'.toks + 1 }:=ktoks _
  obtain ⟨r₂,st₂⟩:=r₁.after hs g' (hg ▸ st)
  exact ⟨⟨h0,h1⟩,n,_,rfl,_,hP,r₂.keeps k₂,st₂.trans (.of_keeps k₂)⟩
 ·obtain ⟨n,t,rfl,σ',hP,r',st'⟩:=hf
  exact wpAny_pure ⟨σ',hP,r',st'⟩
theorem EM.notA {e:Expr} {pos:Pos} {a d:Addr} {vs:List V} {kvs:List (Str × V)} {Q:V → St → Prop} (he:EV c (k + 1) σ e (.mob a)) (h:σ.mu.lookup a = some (.acc d vs)) (hd:σ.mu.lookup d = some (.dict kvs)) (hg:c.gen = true) (hs:Sane c)
  (hF:FNM c.w c.S0 k true (fun xs=>call (.ref 202) xs) [.mob a] σ.mu fun v mu'=>∃ n : Int,v = .int n ∧ 0 ≤ n ∧ n < 2 ^ 63 ∧ Q (.bool (!(n != 0))) ⟨σ.loc,mu'⟩) : EM c (k + 1) σ (.UnaryOp .Not e pos) Q:=by
 intro A s ft r
 refine UnaryOp_ (WPmono (he A s ft r) fun x s₁ w0=>not_of ?_)
 have hx:=w0.1
 w_dflts hx
 refine WPmono (wp_truthyA (P:=fun b σ'=>Q (.bool (!b)) σ') (r.keeps w0.2) h hd hg hs ft hF) fun b s' w1=>?_
 obtain ⟨σ',hP,r',st'⟩:=w1
 exact ⟨_,σ',hP,r',.bool _,(Step.of_keeps w0.2).trans st'⟩
theorem truthy_bool {w:World} {A:Around} {b:Bool} {s:Shared} {Q:Bool → Shared → Prop} (h:Q b s) : WP w A (truthy (.bool b)) Q s:=fun ζ ζ ζ=>h
theorem EM.andT {l rr:Expr} {pos:Pos} {Q:V → St → Prop} (hl:EM c k σ l fun v σ₁=>(v = .bool true ∧ EM c k σ₁ rr Q) ∨ (v = .bool false ∧ Q (.bool false) σ₁)) : EM c k σ (.BoolOp .And [l,rr] pos) Q:=by
 intro A s f r
 refine BoolOp_and (WPmono (hl A s f r) fun x s₁ w0=>?_)
 obtain ⟨v,σ₁,h,r₁,hx,st₁⟩:=w0
 rcases h with ⟨rfl,hr⟩ | ⟨rfl,hQ⟩
 ·w_dflts hx
  exact truthy_bool (BoolOp_one (WPmono (hr A s₁ f r₁) fun y s₂ ⟨v,σ₂,hQ,r₂,hy,st₂⟩=>⟨v,σ₂,hQ,r₂,hy,st₁.trans st₂⟩))
 ·w_dflts hx
  exact truthy_bool ⟨_,σ₁,hQ,r₁,.bool _,st₁⟩
theorem EM.orF {l rr:Expr} {pos:Pos} {Q:V → St → Prop} (hl:EM c k σ l fun v σ₁=>(v = .bool false ∧ EM c k σ₁ rr Q) ∨ (v = .bool true ∧ Q (.bool true) σ₁)) : EM c k σ (.BoolOp .Or [l,rr] pos) Q:=by
 intro A s f r
 refine BoolOp_or (WPmono (hl A s f r) fun x s₁ w0=>?_)
 obtain ⟨v,σ₁,h,r₁,hx,st₁⟩:=w0
 rcases h with ⟨rfl,hr⟩ | ⟨rfl,hQ⟩
 ·w_dflts hx
  exact truthy_bool (BoolOp_one (WPmono (hr A s₁ f r₁) fun y s₂ ⟨v,σ₂,hQ,r₂,hy,st₂⟩=>⟨v,σ₂,hQ,r₂,hy,st₁.trans st₂⟩))
 ·w_dflts hx
  exact truthy_bool ⟨_,σ₁,hQ,r₁,.bool _,st₁⟩
theorem EM.meth {o:Expr} {name:Str} {apos pos:Pos} {es:List Expr} {Q:V → St → Prop} (T id:String) (m:Meth T name id) (hv:EM c k σ o fun a σ₁=>∃ vs v,a.flat = true ∧ a.ty = T ∧ EVL c k σ₁ es vs ∧ OPn c.w c.S0 k (fun xs=>call (.builtin id) xs) (a :: vs) v ∧ Q v σ₁)
  (S:Site c o name es apos pos) : EM c k σ (.Call (.Attribute o name apos) es [] pos) Q:=by
 intro A s f r
 refine wpAny_Call_method S.base S.few S.line m.pa m.slot m.hty (WPmono (hv A s f r) fun x s₁ w0=>?_)
 obtain ⟨a,σ₁,⟨vs,v,hf,hT,ha,ho,hQ⟩,r₁,hx,st₁⟩:=w0
 subst hT
 refine ⟨hx.typeIs hf,hx.noDict hf,?_⟩
 refine callWith_of (P:=fun h=>True) (by rw [plainArgs S.plain]; rfl) (fun h ζ=>⟨.machine,.inr (.inl rfl),Looks.of_pure rfl⟩) ?_
 refine wp_evalArgs (plainArgs S.plain) (WPmono (ha pos A s₁ f r₁) fun xs s₂ ⟨hxs,k₂⟩=>⟨trivial,?_⟩)
 have r₂:=r₁.keeps k₂
 refine WPmono (ho _ A s₂ (x :: xs) f r₂.gl (.cons (hx.keeps k₂) hxs)) fun z s₃ ⟨hz,k₃⟩=>⟨v,σ₁,hQ,r₂.keeps k₃,hz,st₁.trans (.of_keeps (ktrans k₂ k₃))⟩
end
end Mine.Internal
end
section
namespace Mine.Internal
theorem sizeP_nn : ∀ ps : List (Str × Str),0 ≤ sizeP ps
 | []=>by simp [sizeP]
 | p :: ps=>by
  have:=sizeP_nn ps
  unfold sizeP at this ⊢
  rw [List.map_cons,List.sum_cons]
  w_left
structure Small (ps:List (Str × Str)) : Prop where
 each : ∀ p ∈ ps,p.1.length < 1000 ∧ p.2.length < 1000
 len : ps.length ≤ 1000
theorem Small.size {ps:List (Str × Str)} (h:Small ps) : sizeP ps < 2 ^ 40:=by
 have key : ∀ l : List (Str × Str),(∀ p ∈ l,p.1.length < 1000 ∧ p.2.length < 1000) → sizeP l ≤ 2000 * l.length:=by
  intro l
  induction l with
  | nil=>intro _; simp [sizeP]
  | cons p l ih=>
   intro hl
   have h1:=hl p (.head _)
   have h2:=ih fun q hq=>hl q (.tail _ hq)
   unfold sizeP at h2 ⊢
   rw [List.map_cons,List.sum_cons,List.length_cons]
   push_cast
   w_left
 have:=key ps h.each
 have:=h.len
 w_left
theorem txt_join (sep:Str) (ys:List Str) : Txt.join sep ys = Str.join sep ys:=by
 exact StrLaws.glued_eq_join sep ys
theorem joinEE (a b:Str) : (Txt.join "" [a,b]).length ≤ a.length + b.length:=by
 rw [txt_join]
 have:=StrLaws.join_length_le "" [a,b]
 have e0 : ("":Str).length = 0:=rfl
 rw [e0] at this
 simpa using this
theorem Small.join {ps:List (Str × Str)} (h:Small ps) : JoinOk "" (ps.map fun p=>Txt.join "" [p.1,p.2]) = true:=by
 refine joinOk_of ?_
 have e0 : ("":Str).length = 0:=rfl
 rw [e0,Nat.mul_zero,Nat.add_zero]
 have key : ∀ l : List (Str × Str),(∀ p ∈ l,p.1.length < 1000 ∧ p.2.length < 1000) → ((l.map fun p=>Txt.join "" [p.1,p.2]).map (·.length)).sum ≤ 2000 * l.length:=by
  intro l
  induction l with
  | nil=>intro _; simp
  | cons p l ih=>
   intro hl
   have h1:=hl p (.head _)
   have h2:=ih fun q hq=>hl q (.tail _ hq)
   have h3:=joinEE p.1 p.2
   rw [List.map_cons,List.map_cons,List.sum_cons,List.length_cons]
   w_left
 have:=key ps h.each
 have:=h.len
 w_left
section
variable {w:World} {S0:Shared} {k:Nat}
set_option maxHeartbeats 2000000 in
theorem onlyws_ok {a d:Addr} {ps:List (Str × Str)} {mu:List (Addr × MO)} (h:mu.lookup a = some (.acc d (ps.map pairV))) (hd:mu.lookup d = some (.dict [(isV,.int 0)])) (hs:Small ps) (hpos:sizeP ps ≠ 0) :
  FNM w S0 (k + 5) true (fun xs=>call (.ref 224) xs) [.mob a] mu (fun v mu'=>v = .bool (Txt.isspace (textP ps)) ∧ mu' = mu):=by
 have h0:=sizeP_nn ps
 have h1:=hs.size
 refine FNM.intro (ns:=["self"]) (K1_of (by rfl) (by rfl)) (by kernel_rfl) (args1 fun ζ=>rfl) (by rfl) (by decide) (by decide) rfl rfl rfl (fun X=>?_)
 ·refine EXs.cons (EX.retM (EM.andT (EM.of (v:=.bool true) (EV.cmp (ev_attrA (v:=.int 0) (kvs:=[(isV,.int 0)]) (EV.name (v:=.mob a) (by rfl)) h hd (by rfl) rfl (by kernel_rfl) (by kernel_rfl)) EV.int op_eq) (.inl ⟨rfl,?_⟩))))
  refine EM.orF (EM.notA (k:=k + 3) (a:=a) (EV.name (by rfl)) h hd rfl rfl (FNM.weaken (accLen_ok (k:=k + 1) h hd hs.each) fun v mu' ⟨e1,e2⟩=>⟨_,e1,h0,by w_left,.inl ⟨?_,?_⟩⟩))
  ·have : (sizeP ps != 0) = true:=by simpa using hpos
   rw [this]; rfl
  ·subst e2
   refine EM.meth "str" "str.isspace" m_isspace (EM.callE (EV.boot (v:=.type "str") (by kernel_rfl) (by rfl) (by rfl)) .type (EML.of (EVL.ev (by rfl)) (fnmStr h hd (FNM.weaken (accStr_ok h hs.each hs.join (Nat.le_trans hs.len (by decide))) fun v mu' ⟨e1,e2⟩=>⟨_,e1,[],_,rfl,rfl,EVL.nil,op_isspace,?_⟩)))) (by exact ⟨rfl,rfl,rfl,rfl⟩)
   subst e2
   exact ⟨rfl,rfl⟩
end
end Mine.Internal
end
section
namespace Mine.Internal
section
variable {w:World} {S0:Shared} {k:Nat} {c:Cx} {σ:St}
theorem acc_get_bind {w:World} {A:Around} {E:Value → Shared → Prop} {h:Heap} {g:Array GenState} {d:Drawn} {t:Nat} {os:OsState} {x dx f:Addr} {items:Array Value} {n:Nat} {od:Obj} {name:Str} {expr:Bool} {Q:Value → Shared → Prop} (X:(K1 w).In h) (I:InstAt h x (accOb dx items n) 235 (some od))
  (hf:findObj (K1 w) 235 (some od) name = some (.bind (.builtin "function.__get__") (.ref f))) (ht:typeIn (K1 w) (.ref f) = some (.type "function")) (hq:Q (.ref h.objs.size) ⟨h.push (methodObj (.ref f) (.ref x)),g,d,t + 1,os⟩) : wpAny (model P0 w) A (getAttr (.ref x) name expr) Q E ⟨h,g,d,t,os⟩:=by
 have hl : h.get? x = some (accOb dx items n):=I.at_
 have L0:=I.type (M:=model P0 w)
 have L1:=looks_findIn (M:=model P0 w) X (acc_ga w)
 have L3:=looks_findIn (M:=model P0 w) X (acc_gk w)
 have L2:=looks_find (M:=model P0 w) X I hf
 have hT : ∀ t',(⟨h,g,d,t',os⟩ : Shared).TypeIs (.ref f) "function":=fun t'=>by
  obtain ⟨o,ho,hc⟩:=Option.map_eq_some_iff.mp ht
  exact ⟨o,X _ _ ho,hc⟩
 unfold getAttr getAttrBy
 refine wpAny_bind (wpAny_mkText (wpAny_holding (wpAny_bind (L0.at (wpAny_bind (L1.at ?_))))))
 show wpAny _ _ (getAttrByItsOwn (.ref x) (.str name t) (.ref 235) (.builtin "list.__getattribute__") true expr) _ _ _
 unfold getAttrByItsOwn hookBefore callGetattribute boundAndCalled
 refine wpAny_bind (L3.at ?_)
 refine wpAny_bind (wpAny_attempt (wpAny_holding ?_))
 rw [if_neg (by cases expr <;> decide)]
 refine wpAny_bind (wpAny_of_eq (bind_lga _) ?_)
 refine call_L X hl (.inr kind_lga) split_lga (args_lga _ _) plain_lga entry_lga ?_
 unfold Builtin.«object.__getattribute__»
 refine wpAny_bind (wpAny_of_eq (a:=(.ref x,[.str name t])) (by rfl) ?_)
 refine wpAny_bind (wpAny_pure (wpAny_bind (L0.at (wpAny_bind (L2.at ?_)))))
 show wpAny _ _ (holding [.ref f] (call (.builtin "function.__get__") [.ref f,.ref x,.ref 235]) >>= ret) _ _ _
 refine wpAny_bind (wpAny_holding (wpAny_call_entry F.ks_slot_function_get (hT _) F.ks_entry_function_get ?_ (F.ks_getArgs_function _ _ _)))
 unfold Builtin.«function.__get__»
 refine wpAny_bind (wpAny_of_eq (a:=(.ref f,some (.ref x),some (.ref 235))) (by first | rfl | kernel_rfl) ?_)
 refine wpAny_bind (wpAny_newObj_type (wpAny_pure ⟨_,rfl,wpAny_pure ⟨_,rfl,?_⟩⟩))
 exact wpAny_pure hq
noncomputable def FNC (w:World) (S0:Shared) (k:Nat) (gen:Bool) (f:Addr) (vs:List V) (mu:List (Addr × MO)) (Q:V → List (Addr × MO) → Prop) : Prop:=
 ∀ ms A s xs,Fit k A → GM w S0 ms mu s → VRs S0 (adr mu ++ ms) s vs xs → codeAny (model P0 w) A (.call (.ref f) ⟨xs,[]⟩) (fun r s'=>match r with | .ok (.ret z)=>FnP w S0 ms gen mu s Q z s' | _=>False) s
theorem FNC.intro {w:World} {S0:Shared} {k:Nat} {gen:Bool} {f:Addr} {name qual:Str} {params:Arguments} {body:List Stmt} {scope:Scope} {dV kV doc pm cdv ct oc:Value} {an od:Option Addr} {osl:Array (Option Value)} {ns:List Str} {vs:List V} {mu:List (Addr × MO)} {Q:V → List (Addr × MO) → Prop}
  (hK:(K1 w).lookup f = some ⟨oc,od,.func (fnOf name qual params body scope dV kV doc pm an cdv ct),osl⟩) (hcd:codeIn (K1 w) cdv qual = true) (hbind:∀ xs : List Value,xs.length = vs.length → bindArgs (fnOf name qual params body scope dV kV doc pm an cdv ct) ⟨xs,[]⟩ = pure (ns.zip xs))
  (hkind:(ns.all fun y=>scope.names.lookup y == some .local || scope.names.lookup y == some .cell) = true) (hns:ns.Nodup) (hnd:((cellsFrom 0 scope.names []).map (·.1)).Nodup)
  (hco:scope.isCoroutine = false) (hgen:scope.isGenerator = false) (hk:scope.kind = .function)
  (body_ok:∀ X : FX,EXs (cF ⟨qual,scope,f,cdv⟩ gen w S0 X) k ⟨ns.zip vs,mu⟩ body (BackM Q)) : FNC w S0 (k + 1) gen f vs mu Q:=by
 intro ms A s xs ft g hx
 refine enter_call (gen:=gen) hK hcd (.of_eq (hbind xs hx.length)) hkind hns hnd hco hgen hk ft g hx (fun L out=>body_ok ⟨L,out⟩) ?_
 intro fl s' c σ' af hQ r hms hg hf st hw hS
 subst hw hS
 exact backM hms hQ r hf st g.live
theorem EM.methAS {o e:Expr} {name:Str} {apos pos p:Pos} {a d f:Addr} {ws:List V} {kvs:List (Str × V)} {vs:List V} {Q:V → St → Prop} {P:V → List (Addr × MO) → Prop} (ho:EV c k σ o (.mob a)) (h:σ.mu.lookup a = some (.acc d ws)) (hd:σ.mu.lookup d = some (.dict kvs)) (hn:getD kvs name = Option.none)
  (ha:EV c k σ e (.tup vs)) (hz:vs.length ≤ sizeLine) (hF:FNC c.w c.S0 k c.gen f (.mob a :: vs) σ.mu P) (hQ:∀ v mu',P v mu' → Q v ⟨σ.loc,mu'⟩)
  (hf:findIn (K1 c.w) (.ref 235) name = some (some (.ref f))) (ht:typeIn (K1 c.w) (.ref f) = some (.type "function")) (hg:specialIn (K1 c.w) (.ref f) "__get__" = some (some (.builtin "function.__get__"))) (htk:takesIn (K1 c.w) (.ref f) = some false) (hcn:copiedNames.contains name = false) (hfn:fnIn (K1 c.w) f = true)
  (hs:Sane c)
  (he:eval (.Call (.Attribute o name apos) [.Starred e p] [] pos) c.env = (do
   let ov ← eval o c.env
   standAt apos.atName
   let fv ← holding [ov] (do pure (← getAttr ov name true,([] : List Value)))
   callWith pos fv.1 fv.2 (backTo pos (starEach [.Starred e p] c.env)) [])) (hst:starEach [.Starred e p] c.env = [(true,eval e c.env)]) : EM c k σ (.Call (.Attribute o name apos) [.Starred e p] [] pos) Q:=by
 intro A s ft r
 rw [he]
 refine wpAny_bind (WPmono (ho A s ft r) fun x s₁ ⟨hx,k₁⟩=>wpAny_bind (wpAny_standAt (wpAny_bind (wpAny_holding (wpAny_bind ?_)))))
 w_dflts hx
 have r₁:=r.keeps k₁
 obtain ⟨xs₀,n₀,od,I,_,_⟩:=r₁.accI h hd
 obtain ⟨cd,hcd⟩ : ∃ cd,clsIn (K1 c.w) 235 = some cd:=by obtain ⟨cd,T⟩:=takes235 c.w; exact ⟨cd,T.cls⟩
 have hfo : findObj (K1 c.w) 235 (some od) name = some (.bind (.builtin "function.__get__") (.ref f)):=by
  have hown : W.ownOf cd (some od) name = some none:=by
   unfold W.ownOf
   split
   ·exact I.miss name hn
   ·rfl
  unfold findObj
  rw [hcd,Option.bind_some,hf,Option.bind_some]
  dsimp only
  rw [hg,Option.bind_some]
  dsimp only
  rw [htk,Option.bind_some]
  dsimp only
  rw [hown,Option.bind_some]
  dsimp only
  rw [hcn,Bool.false_and]
  rfl
 have X:=r₁.glob.X1
 have k₂ : Kp s₁ { s₁ with heap:=s₁.heap.push (methodObj (.ref f) (.ref a)),toks:=s₁.toks + 1 }:=kpush _ _
 obtain ⟨h1,g1,d1,t1,os1⟩:=s₁
 refine acc_get_bind X I.at_ hfo ht (wpAny_pure ?_)
 have r₂:=r₁.keeps k₂
 have hb : (h1.push (methodObj (.ref f) (.ref a))).get? h1.objs.size = some (methodObj (.ref f) (.ref a)):=Heap.get?_push_at rfl rfl
 rw [hst]
 refine ks_call (P:=fun h=>MethP (K1 c.w) h1.objs.size f (.ref a) h) rfl (fun h X=>keeps_M hfn h X) (ks_lone (WPmono (ha A _ ft r₂) fun y s₂ w0=>?_))
 obtain ⟨hy,k₃⟩:=w0
 cases hy.inv with | @mk b ys n gb mb rb=>
 have hT : s₂.TypeIs (.ref b) "tuple":=⟨_,gb,rfl⟩
 unfold StarOf notIterableAtAll
 refine wpAny_bind (wpAny_specialOf hT PySem.F.slot_tuple_iter.lookup (wpAny_pure ⟨rfl,?_⟩))
 refine wpAny_collect_seq b (.inr rfl) gb rfl rfl (fun h' hk=>?_) (by rw [rb.size]; exact hz)
 have k₄ : Kp s₂ { s₂ with heap:=h' }:=⟨⟨h',s₂.toks,rfl,hk⟩,Nat.le_refl _⟩
 have r₃:=(r₂.keeps k₃).keeps k₄
 refine ⟨⟨hk _ _ (kget k₃ hb),r₃.glob.X1⟩,?_⟩
 have hxs:=rb.keeps k₄
 have hxs' : VRs c.S0 (adr σ.mu ++ msC c) { s₂ with heap:=h' } (.mob a :: vs) (.ref a :: ys.toList):=.cons (.mob a) (hxs.mono (fun b o hb ζ e=>⟨fun q=>hb (mem_msC.mp q),e⟩) (Nat.le_refl _))
 refine wpAny_call (method_call (hk _ _ (kget k₃ hb)) ?_)
 refine codeAny_mono (hF (msC c) A _ (.ref a :: ys.toList) ft r₃.gm hxs') fun q s₄ hq=>?_
 cases q with
 | error e=>exact hq.elim
 | ok fl=>
  cases fl with
  | ret z=>
   obtain ⟨v,mu',hP,g,hz,st⟩:=hq
   obtain ⟨r₄,st₄⟩:=r₃.after hs g st
   exact ⟨v,_,hQ v mu' hP,r₄,hz.mono (fun b o hb ζ e=>⟨fun q=>hb (mem_msC.mpr q),e⟩) (Nat.le_refl _),(Step.of_keeps (ktrans k₁ (ktrans k₂ (ktrans k₃ k₄)))).trans st₄⟩
  | _=>exact hq.elim
theorem pushC_ok {w:World} {S0:Shared} {k:Nat} {gen:Bool} {a d:Addr} {vs:List V} {x y:V} {kvs:List (Str × V)} {mu:List (Addr × MO)} (h:mu.lookup a = some (.acc d vs)) (hd:mu.lookup d = some (.dict kvs)) (hn:getD kvs "append" = Option.none) (hsz:vs.length ≤ sizeLine) :
  FNC w S0 (k + 1) gen 179 [.mob a,x,y] mu (fun v mu'=>v = .none ∧ mu' = updM mu a (.acc d (vs ++ [.tup [x,y]]))):=by
 refine FNC.intro (ns:=["self","fws","string"]) (K1_of (by rfl) (by rfl)) (by kernel_rfl) (args3 fun ζ ζ ζ=>rfl) (by rfl) (by decide) (by decide) rfl rfl rfl (fun X=>?_)
 ·refine EXs.exprM (EM.appendA (a:=a) (d:=d) (ws:=vs) (v:=.tup [x,y]) (kvs:=kvs) (EV.name (by rfl)) h hd hn (EVL.cons (EV.tuple (EVL.ev (by rfl))) EVL.nil) hsz ?_ (by exact ⟨_,rfl⟩) (by rfl))
  exact EXs.nil ⟨rfl,rfl⟩
theorem EM.appendE {o e:Expr} {apos pos:Pos} {a:Addr} {Q:V → St → Prop} (ho:EV c k σ o (.mob a)) (hm:∃ vs,σ.mu.lookup a = some (.list vs)) (he:EM c k σ e fun v σ₁=>∃ vs,σ₁.mu.lookup a = some (.list vs) ∧ vs.length ≤ sizeLine ∧ Q .none ⟨σ₁.loc,updM σ₁.mu a (.list (vs ++ [v]))⟩)
  (S:Site c o "append" [e] apos pos:=by exact ⟨rfl,rfl,rfl,rfl⟩) (hst:starEach [e] c.env = (false,eval e c.env) :: starEach [] c.env:=by rfl) : EM c k σ (.Call (.Attribute o "append" apos) [e] [] pos) Q:=by
 intro A s f r
 obtain ⟨vs₀,hm⟩:=hm
 refine wpAny_Call_method S.base S.few S.line m_append.pa m_append.slot m_append.hty (WPmono (ho A s f r) fun x s₁ w0=>?_)
 obtain ⟨hx,k₁⟩:=w0
 w_dflts hx
 have r₁:=r.keeps k₁
 obtain ⟨ys₀,n₀,ge₀,_⟩:=r₁.at hm
 refine ⟨⟨_,ge₀,rfl⟩,fun b hb=>by cases hb; exact ⟨_,ge₀,rfl⟩,?_⟩
 refine callWith_of (P:=fun h=>True) (by rw [plainArgs S.plain]; rfl) (fun h ζ=>⟨.machine,.inr (.inl rfl),Looks.of_pure rfl⟩) ?_
 refine wp_evalArgs (plainArgs S.plain) ?_
 rw [hst]
 refine spliced_cons (WPmono (he A s₁ f r₁) fun x s₂ w0=>?_)
 obtain ⟨v,σ₁,hv,r₂,hx,st₂⟩:=w0
 obtain ⟨vs,hm₁,hsz,hQ⟩:=hv
 refine spliced_nil ⟨trivial,?_⟩
 exact r₂.append hm₁ hsz hx fun s' r₃ st₃ ζ=>⟨.none,_,hQ,r₃,.none,(Step.of_keeps k₁).trans (st₂.trans st₃)⟩
end
end Mine.Internal
end
section
namespace Mine.Internal
noncomputable def kvsF (M:Int) (L A:Addr) : List (Str × V):=[("_maxlen",.int M),("_continuation_ws",.str " "),("_continuation_ws_len",.int 1),("_splitchars",.str " "),("_lines",.mob L),("_current_line",.mob A)]
structure Fm (mu:List (Addr × MO)) (F df L A da:Addr) (M:Int) (lines:List V) (ps:List (Str × Str)) : Prop where
 f : mu.lookup F = some (.inst 151 df)
 fd : mu.lookup df = some (.dict (kvsF M L A))
 l : mu.lookup L = some (.list lines)
 a : mu.lookup A = some (.acc da (ps.map pairV))
 ad : mu.lookup da = some (.dict [(isV,.int 0)])
section
variable {w:World} {S0:Shared} {k:Nat} {gen:Bool}
theorem tk151 (w:World) : ∀ x ∈ (["_maxlen","_continuation_ws","_continuation_ws_len","_splitchars","_lines","_current_line"] : List Str),takerIn (K1 w) 151 x = some none:=by
 intro x hx
 simp only [List.mem_cons,List.not_mem_nil,or_false] at hx
 rcases hx with rfl | rfl | rfl | rfl | rfl | rfl <;> kernel_rfl
structure UpdAt (mu:List (Addr × MO)) (d:Addr) (o:MO) (m:List (Addr × MO)) : Prop where
 self : m.lookup d = some o
 ne : ∀ {b},b ≠ d → m.lookup b = mu.lookup b
theorem setG {c:Cx} {σ:St} {e ve:Expr} {name:Str} {pos' pos:Pos} {a d:Addr} {kvs:List (Str × V)} {v:V} {cd:ClassData} {rest:List Stmt} {Q:AF → St → Prop} (T:Takes (K1 c.w) 151 cd) (ht:takerIn (K1 c.w) 151 name = some Option.none) (h:σ.mu.lookup a = some (.inst 151 d)) (hd:σ.mu.lookup d = some (.dict kvs)) (hv:EV c k σ ve v) (he:EV c k σ e (.mob a))
  (hQ:∀ m,UpdAt σ.mu d (.dict (putD kvs name v)) m → EXs c k ⟨σ.loc,m⟩ rest Q) (hl:kvs.length ≤ 900:=by exact Nat.le_of_ble_eq_true rfl) (hs:swapsWith ve (some (.Attribute e name pos')) pos.line c.env = pure false:=by rfl) : EXs c k σ (.Assign [.Attribute e name pos'] ve pos :: rest) Q:=
 EXs.cons (EX.setAttr hv he h rfl hd hl T ht (hQ _ ⟨lookup_upd_self hd,fun hb=>lookup_upd_ne hb⟩) hs)
inductive NewF (M:Int) (v:V) (mu:List (Addr × MO)) : Prop
 | mk (F df L A da:Addr) (e:v = .mob F) (f:Fm mu F df L A da M [] []) : NewF M v mu
theorem ne_out {mu:List (Addr × MO)} {b c:Addr} {o:MO} (hb:b ∉ adr mu) (hc:mu.lookup c = some o) : c ≠ b:=fun q=>hb (q ▸ lookup_adr hc)
theorem lk_new {mu:List (Addr × MO)} {b c:Addr} {o o':MO} (hb:b ∉ adr mu) (hc:mu.lookup c = some o) : List.lookup c ((b,o') :: mu) = some o:=(lk_tail (ne_out hb hc)).trans hc
set_option maxHeartbeats 4000000 in
theorem fmt_new_ok {M:Int} : FNM w S0 (k + 5) gen (fun xs=>call (.ref 151) xs) [.int 0,.int M,.str " ",.str " "] [] (NewF M):=by
 obtain ⟨cd,T⟩:=takes151 w
 have tk:=tk151 w
 refine FNM.make (k:=k + 3) (ns:=["self","headerlen","maxlen","continuation_ws","splitchars"]) (us:=[.int 0,.int M,.str " ",.str " "]) (mo:=fun d=>.inst 151 d) made151 (fun ζ=>rfl) (fun a d ms s e=>e) (K1_of (by rfl) (by rfl)) (by kernel_rfl) (fun a ms s xs g hx=>⟨xs,hx,BindsTo.of_eq (args5 (P:=fun xs=>bindArgs _ ⟨xs,[]⟩ = pure (List.zip _ xs)) (fun ζ ζ ζ ζ ζ=>rfl) xs hx.length)⟩) (by rfl) (by decide) (by decide) rfl rfl rfl (fun F df hF hdf hFd X=>?_)
 have l1 : List.lookup F [(F,MO.inst 151 df),(df,.dict [])] = some (.inst 151 df):=lk_head
 have l2 : List.lookup df [(F,MO.inst 151 df),(df,.dict [])] = some (.dict []):=(lk_tail (Ne.symm hFd)).trans lk_head
 generalize [(F,MO.inst 151 df),(df,.dict [])] = m0 at *
 refine setG T (tk _ (by decide)) l1 l2 (EV.name (v:=.int M) (by rfl)) (EV.name (by rfl)) fun m1 u1=>?_
 refine setG T (tk _ (by decide)) ((u1.ne hFd).trans l1) u1.self (EV.name (v:=.str " ") (by rfl)) (EV.name (by rfl)) fun m2 u2=>?_
 refine setG T (tk _ (by decide)) ((u2.ne hFd).trans ((u1.ne hFd).trans l1)) u2.self (EV.callv (v:=.int 1) (vs:=[.str " "]) (EV.boot (v:=.builtin "len") (by kernel_rfl) (by rfl) (by rfl)) (EVL.ev (by rfl)) .builtin (op_lenS (by decide))) (EV.name (by rfl)) fun m3 u3=>?_
 refine setG T (tk _ (by decide)) ((u3.ne hFd).trans ((u2.ne hFd).trans ((u1.ne hFd).trans l1))) u3.self (EV.name (v:=.str " ") (by rfl)) (EV.name (by rfl)) fun m4 u4=>?_
 have l4:=(u4.ne hFd).trans ((u3.ne hFd).trans ((u2.ne hFd).trans ((u1.ne hFd).trans l1)))
 have d4:=u4.self
 clear u1 u2 u3 u4 l1 l2
 refine EXs.cons (EX.setAttrM (EM.newList fun L hL=>⟨F,151,df,_,_,cd,EV.name (by rfl),lk_new hL l4,rfl,lk_new hL d4,Nat.le_of_ble_eq_true rfl,T,tk _ (by decide),?_⟩))
 have kv5:=lookup_upd_self (o':=.dict (putD (putD (putD (putD (putD [] "_maxlen" (.int M)) "_continuation_ws" (.str " ")) "_continuation_ws_len" (.int 1)) "_splitchars" (.str " ")) "_lines" (.mob L))) (lk_new (o':=.list []) hL d4)
 have f5:=(lookup_upd_ne (o':=.dict (putD (putD (putD (putD (putD [] "_maxlen" (.int M)) "_continuation_ws" (.str " ")) "_continuation_ws_len" (.int 1)) "_splitchars" (.str " ")) "_lines" (.mob L))) hFd).trans (lk_new (o':=.list []) hL l4)
 have hLd:=Ne.symm (ne_out hL d4)
 have L5:=(lookup_upd_ne (mu:=(L,MO.list []) :: m4) (o':=.dict (putD (putD (putD (putD (putD [] "_maxlen" (.int M)) "_continuation_ws" (.str " ")) "_continuation_ws_len" (.int 1)) "_splitchars" (.str " ")) "_lines" (.mob L))) hLd).trans lk_head
 show EXs _ _ ⟨_,_⟩ _ _
 generalize updM ((L,MO.list []) :: m4) df (.dict (putD (putD (putD (putD (putD [] "_maxlen" (.int M)) "_continuation_ws" (.str " ")) "_continuation_ws_len" (.int 1)) "_splitchars" (.str " ")) "_lines" (.mob L))) = m5 at *
 refine EXs.cons (EX.setAttrM (EM.callE (EV.glob (v:=.ref 235) (by kernel_rfl) (by rfl)) (.top (by kernel_rfl)) (EML.of (EVL.ev (by rfl)) (FNM.weaken (acc_new_ok (k:=k + 1) (.inl rfl)) fun v mu' w0=>?_)) (hs:=by cases gen <;> rfl)))
 obtain ⟨A,da,e1,e2,hA,hda,hAd⟩:=w0
 subst e1 e2
 have t5 : ∀ {c:Addr} {o:MO},List.lookup c m5 = some o → List.lookup c ((A,MO.acc da []) :: (da,.dict [(isV,.int 0)]) :: m5) = some o:=fun hc=>(lk_tail (ne_out hA hc)).trans (lk_new hda hc)
 refine ⟨F,151,df,_,_,cd,EV.name (by rfl),t5 f5,rfl,t5 kv5,Nat.le_of_ble_eq_true rfl,T,tk _ (by decide),?_⟩
 exact EXs.nil ⟨rfl,F,df,L,A,da,rfl,⟨(lookup_upd_ne hFd).trans (t5 f5),lookup_upd_self (t5 kv5),(lookup_upd_ne hLd).trans (t5 L5),(lookup_upd_ne (fun q=>ne_out hA kv5 q.symm)).trans lk_head,(lookup_upd_ne (fun q=>ne_out hda kv5 q.symm)).trans ((lk_tail (Ne.symm hAd)).trans lk_head)⟩⟩
end
end Mine.Internal
end
section
namespace Mine.Internal
theorem ne_of_lookup {mu:List (Addr × MO)} {a b:Addr} {x y:MO} (ha:mu.lookup a = some x) (hb:mu.lookup b = some y) (h:x ≠ y) : a ≠ b:=fun q=>by
 subst q
 rw [ha] at hb
 exact h (Option.some.inj hb)
structure FmTo (mu mu':List (Addr × MO)) (F df L A da:Addr) (M:Int) (lines:List V) (ps:List (Str × Str)) : Prop where
 fm : Fm mu' F df L A da M lines ps
 adr : adr mu' = adr mu
 kept : ∀ b,b ≠ L → b ≠ A → b ≠ da → mu'.lookup b = mu.lookup b
section
variable {mu mu':List (Addr × MO)} {F df L A da:Addr} {M:Int} {lines:List V} {ps:List (Str × Str)}
theorem kvs_ne (M:Int) (L A:Addr) : MO.dict (kvsF M L A) ≠ MO.dict [(isV,.int 0)]:=fun h=>by
 injection h with h
 exact absurd (congrArg List.length h) (by decide:¬ (6 = 1))
theorem Fm.nes (f:Fm mu F df L A da M lines ps) : F ≠ L ∧ F ≠ A ∧ F ≠ da ∧ df ≠ L ∧ df ≠ A ∧ df ≠ da ∧ L ≠ A ∧ L ≠ da ∧ A ≠ da:=
 ⟨ne_of_lookup f.f f.l nofun,ne_of_lookup f.f f.a nofun,ne_of_lookup f.f f.ad nofun,ne_of_lookup f.fd f.l nofun,ne_of_lookup f.fd f.a nofun,ne_of_lookup f.fd f.ad (kvs_ne M L A),ne_of_lookup f.l f.a nofun,ne_of_lookup f.l f.ad nofun,ne_of_lookup f.a f.ad nofun⟩
theorem FmTo.refl (f:Fm mu F df L A da M lines ps) : FmTo mu mu F df L A da M lines ps:=⟨f,rfl,fun ζ ζ ζ ζ=>rfl⟩
theorem FmTo.setA {ps':List (Str × Str)} (t:FmTo mu mu' F df L A da M lines ps) : FmTo mu (updM mu' A (.acc da (ps'.map pairV))) F df L A da M lines ps':=by
 obtain ⟨n1,n2,n3,n4,n5,n6,n7,n8,n9⟩:=t.fm.nes
 exact ⟨⟨(lookup_upd_ne n2).trans t.fm.f,(lookup_upd_ne n5).trans t.fm.fd,(lookup_upd_ne n7).trans t.fm.l,lookup_upd_self t.fm.a,(lookup_upd_ne (Ne.symm n9)).trans t.fm.ad⟩,(adr_upd ..).trans t.adr,fun b h1 h2 h3=>(lookup_upd_ne h2).trans (t.kept b h1 h2 h3)⟩
theorem FmTo.setL {lines':List V} (t:FmTo mu mu' F df L A da M lines ps) : FmTo mu (updM mu' L (.list lines')) F df L A da M lines' ps:=by
 obtain ⟨n1,n2,n3,n4,n5,n6,n7,n8,n9⟩:=t.fm.nes
 exact ⟨⟨(lookup_upd_ne n1).trans t.fm.f,(lookup_upd_ne n4).trans t.fm.fd,lookup_upd_self t.fm.l,(lookup_upd_ne (Ne.symm n7)).trans t.fm.a,(lookup_upd_ne (Ne.symm n8)).trans t.fm.ad⟩,(adr_upd ..).trans t.adr,fun b h1 h2 h3=>(lookup_upd_ne h1).trans (t.kept b h1 h2 h3)⟩
theorem FmTo.setD (t:FmTo mu mu' F df L A da M lines ps) : FmTo mu (updM mu' da (.dict [(isV,.int 0)])) F df L A da M lines ps:=by
 obtain ⟨n1,n2,n3,n4,n5,n6,n7,n8,n9⟩:=t.fm.nes
 exact ⟨⟨(lookup_upd_ne n3).trans t.fm.f,(lookup_upd_ne n6).trans t.fm.fd,(lookup_upd_ne n8).trans t.fm.l,(lookup_upd_ne n9).trans t.fm.a,lookup_upd_self t.fm.ad⟩,(adr_upd ..).trans t.adr,fun b h1 h2 h3=>(lookup_upd_ne h3).trans (t.kept b h1 h2 h3)⟩
end
section
variable {w:World} {S0:Shared} {k:Nat} {c:Cx} {σ:St}
variable {F df L A da:Addr} {M:Int} {lines:List V} {ps:List (Str × Str)}
theorem EMB.valB {e:Expr} {P:Bool → St → Prop} (he:EM c k σ e fun v σ₁=>∃ b,v = .bool b ∧ P b σ₁) (hi:isTrue e c.env (eval e c.env) = (do let v ← eval e c.env; standAt e.pos; holding [v] (truthy v)):=by rfl) : EMB c k σ e P:=by
 intro A s f r
 rw [hi]
 refine wpAny_bind (WPmono (he A s f r) fun x s₁ w0=>?_)
 obtain ⟨v,σ₁,hb,r₁,hx,st₁⟩:=w0
 obtain ⟨b,rfl,hP⟩:=hb
 refine wpAny_bind (wpAny_standAt (wpAny_holding ?_))
 w_dflts hx
 exact truthy_bool ⟨σ₁,hP,r₁,st₁⟩
theorem attr151 (w:World) : ∀ x ∈ (["_maxlen","_splitchars","_lines","_current_line"] : List Str),findIn (K1 w) (.ref 151) x = some none:=by
 intro x hx
 simp only [List.mem_cons,List.not_mem_nil,or_false] at hx
 rcases hx with rfl | rfl | rfl | rfl <;> kernel_rfl
theorem ga151 (w:World) : findIn (K1 w) (.ref 151) "__getattribute__" = some (some (.builtin "object.__getattribute__")):=by kernel_rfl
theorem hd151 (w:World) : (clsIn (K1 w) 151).any (·.hasDict) = true:=by kernel_rfl
theorem ev_curr {y:Str} {yp pos:Pos} (he:EV c k σ (.Name y yp) (.mob F)) (f:Fm σ.mu F df L A da M lines ps) : EV c k σ (.Attribute (.Name y yp) "_current_line" pos) (.mob A):=
 ev_attr he f.f rfl f.fd (by rfl) rfl (ga151 _) (attr151 _ _ (by decide)) (hd151 _)
theorem ev_lines {y:Str} {yp pos:Pos} (he:EV c k σ (.Name y yp) (.mob F)) (f:Fm σ.mu F df L A da M lines ps) : EV c k σ (.Attribute (.Name y yp) "_lines" pos) (.mob L):=
 ev_attr he f.f rfl f.fd (by rfl) rfl (ga151 _) (attr151 _ _ (by decide)) (hd151 _)
theorem ev_maxlen {y:Str} {yp pos:Pos} (he:EV c k σ (.Name y yp) (.mob F)) (f:Fm σ.mu F df L A da M lines ps) : EV c k σ (.Attribute (.Name y yp) "_maxlen" pos) (.int M):=
 ev_attr he f.f rfl f.fd (by rfl) rfl (ga151 _) (attr151 _ _ (by decide)) (hd151 _)
theorem ev_splitc {y:Str} {yp pos:Pos} (he:EV c k σ (.Name y yp) (.mob F)) (f:Fm σ.mu F df L A da M lines ps) : EV c k σ (.Attribute (.Name y yp) "_splitchars" pos) (.str " "):=
 ev_attr he f.f rfl f.fd (by rfl) rfl (ga151 _) (attr151 _ _ (by decide)) (hd151 _)
end
end Mine.Internal
end
section
namespace Mine.Internal
theorem find195 (w:World) : findIn (K1 w) (.ref 235) "pop" = some (some (.ref 195)):=by kernel_rfl
theorem find179 (w:World) : findIn (K1 w) (.ref 235) "push" = some (some (.ref 179)):=by kernel_rfl
theorem find187 (w:World) : findIn (K1 w) (.ref 235) "pop_from" = some (some (.ref 187)):=by kernel_rfl
theorem find217 (w:World) : findIn (K1 w) (.ref 235) "reset" = some (some (.ref 217)):=by kernel_rfl
theorem find224 (w:World) : findIn (K1 w) (.ref 235) "is_onlyws" = some (some (.ref 224)):=by kernel_rfl
theorem ty195 (w:World) : typeIn (K1 w) (.ref 195) = some (.type "function"):=by kernel_rfl
theorem ty179 (w:World) : typeIn (K1 w) (.ref 179) = some (.type "function"):=by kernel_rfl
theorem ty187 (w:World) : typeIn (K1 w) (.ref 187) = some (.type "function"):=by kernel_rfl
theorem ty217 (w:World) : typeIn (K1 w) (.ref 217) = some (.type "function"):=by kernel_rfl
theorem ty224 (w:World) : typeIn (K1 w) (.ref 224) = some (.type "function"):=by kernel_rfl
theorem keep195 (w:World) : keepIn (K1 w) (.ref 195) = true:=by kernel_rfl
theorem keep179 (w:World) : keepIn (K1 w) (.ref 179) = true:=by kernel_rfl
theorem keep187 (w:World) : keepIn (K1 w) (.ref 187) = true:=by kernel_rfl
theorem keep217 (w:World) : keepIn (K1 w) (.ref 217) = true:=by kernel_rfl
theorem keep224 (w:World) : keepIn (K1 w) (.ref 224) = true:=by kernel_rfl
noncomputable abbrev sp (c:Str) : Str × Str:=(" ",c)
theorem size_snoc (ps:List (Str × Str)) (c:Str) : 0 < sizeP (ps ++ [sp c]):=by
 have h:=sizeP_nn ps
 unfold sizeP at h ⊢
 rw [List.map_append,List.sum_append]
 have e : (" ":Str).length = 1:=rfl
 simp only [List.map_cons,List.map_nil,List.sum_cons,List.sum_nil,e]
 w_left
theorem FmTo.trans {mu mu₁ mu₂:List (Addr × MO)} {F df L A da:Addr} {M:Int} {l1 l2:List V} {p1 p2:List (Str × Str)} (x:FmTo mu mu₁ F df L A da M l1 p1) (y:FmTo mu₁ mu₂ F df L A da M l2 p2) : FmTo mu mu₂ F df L A da M l2 p2:=
 ⟨y.fm,y.adr.trans x.adr,fun b h1 h2 h3=>(y.kept b h1 h2 h3).trans (x.kept b h1 h2 h3)⟩
section
variable {w:World} {S0:Shared} {k:Nat}
set_option maxHeartbeats 4000000 in
theorem newline_ok {mu:List (Addr × MO)} {F df L A da:Addr} {M:Int} {lines:List V} {ps:List (Str × Str)} {c:Str} (f:Fm mu F df L A da M lines (ps ++ [sp c])) (hc:(c == ("":Str)) = false) (hs:Small (ps ++ [sp c])) (hsp:Txt.isspace (textP (ps ++ [sp c])) = false) (hl:lines.length ≤ 1000) :
  FNM w S0 (k + 8) true (fun xs=>call (.ref 113) xs) [.mob F] mu (fun v mu'=>v = .none ∧ FmTo mu mu' F df L A da M (lines ++ [.str (textP (ps ++ [sp c]))]) []):=by
 have hpos:=size_snoc ps c
 have hlt:=hs.size
 have hlen : (ps ++ [sp c]).length ≤ 1000:=hs.len
 rw [List.length_append,List.length_singleton] at hlen
 refine FNM.intro (ns:=["self"]) (K1_of (by rfl) (by rfl)) (by kernel_rfl) (args1 fun ζ=>rfl) (by rfl) (by decide) (by decide) rfl rfl rfl (fun X=>?_)
 ·refine EXs.assignM (EM.methA (a:=A) (d:=da) (f:=195) (ev_curr (EV.name (by rfl)) f) f.a f.ad (by rfl) EVL.nil (pop_ok (k:=k + 5) f.a f.ad (by rfl) (by rw [List.length_map,List.length_append,List.length_singleton]; exact Nat.lt_of_le_of_lt hlen (by decide))) (fun v mu' h=>?_) (find195 w) (ty195 w) (keep195 w)) (.inl (by rfl))
  obtain ⟨us,u,e,rfl,rfl⟩ : ∃ us u,(ps ++ [sp c]).map pairV = us ++ [u] ∧ v = u ∧ mu' = updM mu A (.acc da us):=by
   rcases h with ⟨e,_⟩ | h
   ·simp at e
   ·exact h
  rw [List.map_append] at e
  obtain ⟨e1,e2⟩:=List.append_inj' e rfl
  have e2:=(List.cons.inj e2).1
  subst e1 e2
  have t1:=(FmTo.refl f).setA (ps':=ps)
  refine EXs.ite (b:=true) (EVB.cmp (EV.name (v:=.tup [.str " ",.str c]) (by rfl)) (EV.tuple (EVL.ev (by rfl))) (by
   have:=op_ne_tup (w:=w) (S0:=S0) (k:=k + 7) (n:=3) (Eqvs.cons (fl:=false) (Eqv.str 3 " " " ") (Eqvs.cons (Eqv.str 3 c "") (Eqvs.nil 3)))
   rw [hc] at this
   exact this)) (fun ζ=>?_) nofun
  refine EXs.exprM (EM.methAS (a:=A) (d:=da) (f:=179) (ws:=ps.map pairV) (vs:=[.str " ",.str c]) (ev_curr (EV.name (by rfl)) t1.fm) t1.fm.a t1.fm.ad (by rfl) (EV.name (by rfl)) (Nat.le_of_ble_eq_true rfl) (pushC_ok t1.fm.a t1.fm.ad (by rfl) (by rw [List.length_map]; exact Nat.le_trans (by w_left) (show 1000 ≤ sizeLine by decide))) (fun v mu' w0=>?_) (find179 w) (ty179 w) (by kernel_rfl) (by kernel_rfl) (by decide) (by kernel_rfl) (by rfl) (by rfl) (by rfl))
  obtain ⟨e1,e2⟩:=w0
  subst e1 e2
  have t2:=t1.setA (ps':=ps ++ [sp c])
  rw [show (ps ++ [sp c]).map pairV = ps.map pairV ++ [.tup [.str " ",.str c]] by simp] at t2
  refine EXs.nil ?_
  refine EXs.mcons (EX.iteM (EMB.cmp (EM.callE (EV.boot (v:=.builtin "len") (by kernel_rfl) (by rfl) (by rfl)) .builtin (EML.of (EVL.cons (ev_curr (EV.name (by rfl)) t2.fm) EVL.nil) (fnmLen t2.fm.a t2.fm.ad (FNM.weaken (accLen_ok (k:=k + 4) t2.fm.a t2.fm.ad hs.each) fun v mu' ⟨e1,e2⟩=>⟨_,e1,by w_left,by w_left,.int 0,true,EV.int,?_,?_⟩))))))
  ·have:=op_gt (w:=w) (S0:=S0) (k:=k + 7) (a:=sizeP (ps ++ [sp c])) (b:=0)
   rw [show decide (sizeP (ps ++ [sp c]) > 0) = true by simpa using hpos] at this
   exact this
  subst e2
  refine EXs.mcons (EX.iteM (EMB.and2 (EMB.valB (EM.methA (a:=A) (d:=da) (f:=224) (ev_curr (EV.name (by rfl)) t2.fm) t2.fm.a t2.fm.ad (by rfl) EVL.nil (onlyws_ok (k:=k + 2) t2.fm.a t2.fm.ad hs (by w_left)) (fun v mu' w0=>?_) (find224 w) (ty224 w) (keep224 w)))))
  obtain ⟨e1,e2⟩:=w0
  subst e2
  rw [hsp] at e1
  refine ⟨false,e1,?_⟩
  refine EXs.exprM (EM.appendE (a:=L) (ev_lines (EV.name (by rfl)) t2.fm) ⟨_,t2.fm.l⟩ (EM.callE (EV.boot (v:=.type "str") (by kernel_rfl) (by rfl) (by rfl)) .type (EML.of (EVL.cons (ev_curr (EV.name (by rfl)) t2.fm) EVL.nil) (fnmStr t2.fm.a t2.fm.ad (FNM.weaken (accStr_ok (k:=k + 3) t2.fm.a hs.each hs.join (Nat.le_trans hs.len (by decide))) fun v mu' ⟨e1,e2⟩=>⟨_,e1,lines,by rw [e2]; exact t2.fm.l,Nat.le_trans hl (by decide),?_⟩)))))
  subst e2
  have t3:=t2.setL (lines':=lines ++ [.str (textP (ps ++ [sp c]))])
  refine EXs.nil (EXs.nil ?_)
  refine EXs.exprM (EM.methA (a:=A) (d:=da) (f:=217) (ev_curr (EV.name (by rfl)) t3.fm) t3.fm.a t3.fm.ad (by rfl) EVL.nil (reset_ok (ws:=[]) t3.fm.a t3.fm.ad (.inr ⟨rfl,rfl⟩) (by rw [List.length_map,List.length_append]; exact Nat.le_trans (by simp; w_left) (show 1001 ≤ sizeLine by decide))) (fun v mu' w0=>?_) (find217 w) (ty217 w) (keep217 w))
  obtain ⟨e1,e2⟩:=w0
  subst e1 e2
  have t4:=(t3.setA (ps':=[])).setD
  exact EXs.nil ⟨rfl,t4⟩
end
end Mine.Internal
end
section
namespace Mine.Internal
section
variable {w:World} {S0:Shared} {k:Nat} {c:Cx} {σ:St}
theorem ev_joinM {o e:Expr} {apos pos:Pos} {x:Str} {L:Addr} {ns:List Str} (ho:EV c k σ o (.str x)) (he:EV c k σ e (.mob L)) (hm:σ.mu.lookup L = some (.list (ns.map V.str))) (h:JoinOk x ns = true)
  (S:Site c o "join" [e] apos pos) (hst:starEach [e] c.env = (false,eval e c.env) :: starEach [] c.env) : EV c k σ (.Call (.Attribute o "join" apos) [e] [] pos) (.str (Txt.join x ns)):=by
 intro A s f r
 refine wpAny_Call_method S.base S.few S.line m_join.pa m_join.slot m_join.hty (WPmono (ho A s f r) fun y s₁ w0=>?_)
 obtain ⟨hy,k₁⟩:=w0
 cases hy.inv with | mk t=>
 have r₁:=r.keeps k₁
 refine ⟨typeIs_str _ _ _,nofun,?_⟩
 refine callWith_of (P:=fun h=>True) (by rw [plainArgs S.plain]; rfl) (fun h ζ=>⟨.machine,.inr (.inl rfl),Looks.of_pure rfl⟩) ?_
 refine wp_evalArgs (plainArgs S.plain) ?_
 rw [hst]
 refine spliced_cons (WPmono (he A s₁ f r₁) fun z s₂ ⟨hz,k₂⟩=>spliced_nil ⟨trivial,?_⟩)
 w_dflts hz
 have r₂:=r₁.keeps k₂
 obtain ⟨xs,n,ge,hr⟩:=r₂.at hm
 obtain ⟨ps,h1,h2⟩:=VRs.strs hr
 refine WPtk (SC.join (l:=ps) (texts:=ns) ⟨_,ge,rfl,n,by rw [← h1]⟩ h2 h fun t' k' ht=>⟨.str _ _,ktrans k₁ (ktrans k₂ (ktoks _ ht))⟩)
set_option maxHeartbeats 4000000 in
theorem str_ok {mu:List (Addr × MO)} {F df L A da:Addr} {M:Int} {ls:List Str} {ps:List (Str × Str)} {c sep:Str} (f:Fm mu F df L A da M (ls.map V.str) (ps ++ [sp c])) (hc:(c == ("":Str)) = false) (hs:Small (ps ++ [sp c])) (hsp:Txt.isspace (textP (ps ++ [sp c])) = false) (hl:ls.length ≤ 1000) (hj:JoinOk sep (ls ++ [textP (ps ++ [sp c])]) = true) :
  FNM w S0 (k + 9) true (fun xs=>call (.ref 99) xs) [.mob F,.str sep] mu (fun v mu'=>v = .str (Txt.join sep (ls ++ [textP (ps ++ [sp c])])) ∧ FmTo mu mu' F df L A da M ((ls ++ [textP (ps ++ [sp c])]).map V.str) []):=by
 refine FNM.intro (ns:=["self","linesep"]) (K1_of (by rfl) (by rfl)) (by kernel_rfl) (args2 fun ζ ζ=>rfl) (by rfl) (by decide) (by decide) rfl rfl rfl (fun X=>?_)
 ·refine EXs.exprM (EM.methI (a:=F) (C:=151) (d:=df) (f:=113) (EV.name (by rfl)) f.f rfl f.fd (by rfl) EVL.nil (newline_ok f hc hs hsp (by rw [List.length_map]; exact hl)) (fun v mu' w0=>?_) (ga151 w) (by kernel_rfl) (by kernel_rfl) (by kernel_rfl) (by kernel_rfl))
  obtain ⟨e1,t⟩:=w0
  have e : ls.map V.str ++ [.str (textP (ps ++ [sp c]))] = (ls ++ [textP (ps ++ [sp c])]).map V.str:=by rw [List.map_append]; rfl
  rw [e] at t
  exact EXs.ret (ev_joinM (EV.name (v:=.str sep) (by rfl)) (ev_lines (EV.name (by rfl)) t.fm) t.fm.l hj (by exact ⟨rfl,rfl,rfl,rfl⟩) (by rfl)) ⟨rfl,t⟩
theorem opt_str {x:Str} (h:x.length ≤ 16777216) : OPT w S0 k (.str x) ((x.length:Int) != 0):=fun ms A s y f g hx=>by
 w_dflts hx
 exact WPtk (KXt.truthy rfl h fun k' ht=>⟨rfl,ktoks _ ht⟩)
end
end Mine.Internal
end
section
namespace Mine.Internal
section
variable {w:World} {S0:Shared} {k:Nat}
set_option maxHeartbeats 4000000 in
theorem chunk_fits {mu:List (Addr × MO)} {F df L A da:Addr} {M:Int} {lines:List V} {ps:List (Str × Str)} {c:Str} (f:Fm mu F df L A da M lines ps) (hs:Small (ps ++ [sp c])) (hM:sizeP (ps ++ [sp c]) ≤ M) :
  FNM w S0 (k + 8) true (fun xs=>call (.ref 148) xs) [.mob F,.str " ",.str c] mu (fun v mu'=>v = .none ∧ FmTo mu mu' F df L A da M lines (ps ++ [sp c])):=by
 have hpos:=size_snoc ps c
 have hlt:=hs.size
 have hlen : (ps ++ [sp c]).length ≤ 1000:=hs.len
 rw [List.length_append,List.length_singleton] at hlen
 refine FNM.intro (ns:=["self","fws","string"]) (K1_of (by rfl) (by rfl)) (by kernel_rfl) (args3 fun ζ ζ ζ=>rfl) (by rfl) (by decide) (by decide) rfl rfl rfl (fun X=>?_)
 ·refine EXs.exprM (EM.methA (a:=A) (d:=da) (f:=179) (vs:=[.str " ",.str c]) (ev_curr (EV.name (by rfl)) f) f.a f.ad (by rfl) (EVL.ev (by rfl)) (push_ok f.a f.ad (by rfl) (by rw [List.length_map]; exact Nat.le_trans (by w_left) (show 1000 ≤ sizeLine by decide))) (fun v mu' w0=>?_) (find179 w) (ty179 w) (keep179 w))
  obtain ⟨e1,e2⟩:=w0
  subst e1 e2
  have t2:=(FmTo.refl f).setA (ps':=ps ++ [sp c])
  rw [show (ps ++ [sp c]).map pairV = ps.map pairV ++ [.tup [.str " ",.str c]] by simp] at t2
  refine EXs.mcons (EX.iteM (EMB.cmp (EM.callE (EV.boot (v:=.builtin "len") (by kernel_rfl) (by rfl) (by rfl)) .builtin (EML.of (EVL.cons (ev_curr (EV.name (by rfl)) t2.fm) EVL.nil) (fnmLen t2.fm.a t2.fm.ad (FNM.weaken (accLen_ok (k:=k + 4) t2.fm.a t2.fm.ad hs.each) fun v mu' ⟨e1,e2⟩=>⟨_,e1,by w_left,by w_left,.int M,false,?_,?_,?_⟩))))))
  ·rw [e2]; exact ev_maxlen (EV.name (by rfl)) t2.fm
  ·have:=op_gt (w:=w) (S0:=S0) (k:=k + 7) (a:=sizeP (ps ++ [sp c])) (b:=M)
   rw [show decide (sizeP (ps ++ [sp c]) > M) = false by simpa using hM] at this
   exact this
  subst e2
  exact EXs.nil (EXs.nil ⟨rfl,t2⟩)
end
end Mine.Internal
end
section
namespace Mine.Internal
theorem blank_chars : chars " " = [.str " "]:=by rfl
theorem blank_space : Txt.isspace " " = true:=by decide +kernel
theorem small_down (n:Nat) (h:n + 1 ≤ 1000) : Builtin.Range.small (n:Int) 0 (-1) = true:=by
 have : ∀ m : Nat,m < 1000 → Builtin.Range.small (m:Int) 0 (-1) = true:=by decide +kernel
 exact this n (by w_left)
section
variable {w:World} {S0:Shared} {k:Nat}
set_option maxHeartbeats 8000000 in
theorem chunk_splits {mu:List (Addr × MO)} {F df L A da:Addr} {M:Int} {lines:List V} {ps:List (Str × Str)} {c:Str} (f:Fm mu F df L A da M lines ps) (hs:Small (ps ++ [sp c])) (hM:M < sizeP (ps ++ [sp c])) (h1:1 ≤ ps.length) (hl:lines.length ≤ 1000) :
  FNM w S0 (k + 8) true (fun xs=>call (.ref 148) xs) [.mob F,.str " ",.str c] mu (fun v mu'=>v = .none ∧ FmTo mu mu' F df L A da M (lines ++ [.str (textP ps)]) [sp c]):=by
 have hpos:=size_snoc ps c
 have hlt:=hs.size
 have hlen : (ps ++ [sp c]).length ≤ 1000:=hs.len
 rw [List.length_append,List.length_singleton] at hlen
 have hs' : Small ps:=⟨fun p hp=>hs.each p (memL _ hp),by w_left⟩
 refine FNM.intro (ns:=["self","fws","string"]) (K1_of (by rfl) (by rfl)) (by kernel_rfl) (args3 fun ζ ζ ζ=>rfl) (by rfl) (by decide) (by decide) rfl rfl rfl (fun X=>?_)
 ·refine EXs.exprM (EM.methA (a:=A) (d:=da) (f:=179) (vs:=[.str " ",.str c]) (ev_curr (EV.name (by rfl)) f) f.a f.ad (by rfl) (EVL.ev (by rfl)) (push_ok f.a f.ad (by rfl) (by rw [List.length_map]; exact Nat.le_trans (by w_left) (show 1000 ≤ sizeLine by decide))) (fun v mu' w0=>?_) (find179 w) (ty179 w) (keep179 w))
  obtain ⟨e1,e2⟩:=w0
  subst e1 e2
  have t2:=(FmTo.refl f).setA (ps':=ps ++ [sp c])
  rw [show (ps ++ [sp c]).map pairV = ps.map pairV ++ [.tup [.str " ",.str c]] by simp] at t2
  generalize updM mu A (.acc da (ps.map pairV ++ [.tup [.str " ",.str c]])) = m2 at *
  refine EXs.mcons (EX.iteM (EMB.cmp (EM.callE (EV.boot (v:=.builtin "len") (by kernel_rfl) (by rfl) (by rfl)) .builtin (EML.of (EVL.cons (ev_curr (EV.name (by rfl)) t2.fm) EVL.nil) (fnmLen t2.fm.a t2.fm.ad (FNM.weaken (accLen_ok (k:=k + 4) t2.fm.a t2.fm.ad hs.each) fun v mu' ⟨e1,e2⟩=>⟨_,e1,by w_left,by w_left,.int M,true,?_,?_,?_⟩))))))
  ·rw [e2]; exact ev_maxlen (EV.name (by rfl)) t2.fm
  ·have:=op_gt (w:=w) (S0:=S0) (k:=k + 7) (a:=sizeP (ps ++ [sp c])) (b:=M)
   rw [show decide (sizeP (ps ++ [sp c]) > M) = true by simpa using hM] at this
   exact this
  rw [e2]
  clear e2 e1
  refine EXs.mcons (EX.for (vs:=chars " ") (I:=fun j σ=>j = 0 ∧ σ = ⟨[("self",.mob F),("fws",.str " "),("string",.str c)],m2⟩) (SRC.of (ev_splitc (EV.name (by rfl)) t2.fm) ITER.str) ⟨rfl,rfl⟩ ?_ ?_ (fun ζ=>rfl))
  ·rintro j v σ₁ hv ⟨rfl,rfl⟩ out2
   rw [blank_chars] at hv
   w_dflts hv
   refine ⟨_,ASG.name (.inl (by rfl)),?_⟩
   refine EXs.mcons (EX.forM (SRCM.range (EV.boot (v:=.type "range") (by kernel_rfl) (by rfl) (by rfl)) (EML.cons (EM.bin (EM.methA (a:=A) (d:=da) (f:=232) (ev_curr (EV.name (by rfl)) t2.fm) t2.fm.a t2.fm.ad (by rfl) EVL.nil (part_count_ok t2.fm.a t2.fm.ad) (fun v mu' w0=>?_) (find232 w) (ty232 w) (keep232 w)))) (fun ζ ζ=>rfl) (by rfl) (by rfl)))
   obtain ⟨e1,e2⟩:=w0
   rw [e1,e2]
   clear e1 e2
   refine ⟨.int 1,.int ps.length,EV.int,?_,EML.of (EVL.cons EV.int (EVL.cons (EV.un EV.int op_neg) EVL.nil)) ⟨ps.length,0,-1,ps.length,fun ζ ζ ζ ζ ζ hxs hQ=>range3 (by decide) (PyProof.noPylong_small (by decide)) hxs hQ,?_,?_,?_⟩⟩
   ·have:=op_sub (w:=w) (S0:=S0) (k:=k + 7) (a:=(((ps ++ [sp c]).map pairV).length : Int)) (b:=1)
    rw [show (((ps ++ [sp c]).map pairV).length : Int) - 1 = ps.length by simp] at this
    exact this
   ·unfold Builtin.Range.rangeSize
    rw [if_neg (by decide),if_pos (by w_left)]
    rw [show (-(-1) : Int) = 1 by decide,Int.ediv_one]
    w_left
   ·exact small_down _ hlen
   ·refine ⟨fun j σ=>j = 0 ∧ σ = (⟨[("self",.mob F),("fws",.str " "),("string",.str c)],m2⟩ : St).set "ch" (.str " "),⟨rfl,rfl⟩,?_,?_⟩
    ·rintro j v σ₁ hv ⟨rfl,rfl⟩ out3
     rw [rngV_get (by simp [rngV]; w_left)] at hv
     have hv:=Option.some.inj hv
     rw [show (ps.length:Int) + ((0:Nat) : Int) * -1 = ps.length by w_left] at hv
     subst hv
     refine ⟨_,ASG.name (.inl (by rfl)),?_⟩
     refine EXs.ite (b:=true) (EVB.val (EV.meth (EV.name (v:=.str " ") (by rfl)) rfl m_isspace EVL.nil (by have:=op_isspace (w:=w) (S0:=S0) (k:=k + 7) (x:=" "); rw [blank_space] at this; exact this)) opt_bool) (fun ζ=>?_) nofun
     refine EXs.assign (v:=.str " ") (EV.sub (a:=pairV (sp c)) (ev_itemA (a:=A) (d:=da) (n:=(ps.length:Int)) (ev_curr (EV.name (by rfl)) t2.fm) t2.fm.a (EV.name (by rfl)) (by (first | lia | omega)) (by (first | lia | omega)) ?_) rfl ⟨_,PySem.F.slot_tuple_getitem.lookup⟩ EV.int (op_itemT (by decide) (by decide) rfl)) (.inl (by rfl)) ?_
     ·simp
     refine EXs.ite (b:=true) (EVB.and2 (a:=true) (EVB.val (EV.name (v:=.str " ") (by rfl)) (opt_str (by decide))) (fun ζ=>EVB.cmp (EV.sub (EV.name (v:=.str " ") (by rfl)) rfl ⟨_,PySem.F.slot_str_getitem.lookup⟩ EV.int (op_itemS (x:=" ") (i:=0) (c:=32) (by decide) (by rfl))) (EV.name (v:=.str " ") (by rfl)) (op_eqv (Eqv.str 3 " " " "))) nofun) (fun ζ=>?_) nofun
     refine EXs.cons (EX.brk ?_)
     refine EXs.cons (EX.brk ?_)
     refine EXs.assignM (EM.methA (a:=A) (d:=da) (f:=187) (vs:=[.int ps.length]) (ev_curr (EV.name (by rfl)) t2.fm) t2.fm.a t2.fm.ad (by rfl) (EVL.ev (by rfl)) (pop_from_ok t2.fm.a t2.fm.ad (by simp) (by rw [List.length_map,List.length_append,List.length_singleton]; exact Nat.le_trans hlen (by decide))) (fun v mu' w0=>?_) (find187 w) (ty187 w) (keep187 w)) (.inl (by rfl))
     obtain ⟨e1,e2⟩:=w0
     rw [show ((ps ++ [sp c]).map pairV).drop ps.length = [sp c].map pairV by rw [List.map_append,List.drop_left' (by simp)]] at e1
     rw [show ((ps ++ [sp c]).map pairV).take ps.length = ps.map pairV by rw [List.map_append,List.take_left' (by simp)]] at e2
     have t3:=t2.setA (ps':=ps)
     rw [e1,e2]
     clear e1 e2
     refine EXs.exprM (EM.appendE (a:=L) (ev_lines (EV.name (by rfl)) t3.fm) ⟨_,t3.fm.l⟩ (EM.callE (EV.boot (v:=.type "str") (by kernel_rfl) (by rfl) (by rfl)) .type (EML.of (EVL.cons (ev_curr (EV.name (by rfl)) t3.fm) EVL.nil) (fnmStr t3.fm.a t3.fm.ad (FNM.weaken (accStr_ok (k:=k + 3) t3.fm.a hs'.each hs'.join (Nat.le_trans hs'.len (by decide))) fun v mu' ⟨e1,e2⟩=>⟨_,e1,lines,by rw [e2]; exact t3.fm.l,Nat.le_trans hl (by decide),?_⟩)))))
     have t4:=t3.setL (lines':=lines ++ [.str (textP ps)])
     rw [e2]
     clear e1 e2
     refine EXs.exprM (EM.methA (a:=A) (d:=da) (f:=217) (vs:=[.lst ([sp c].map pairV)]) (ev_curr (EV.name (by rfl)) t4.fm) t4.fm.a t4.fm.ad (by rfl) (EVL.ev (by rfl)) (reset_ok (ws:=[sp c].map pairV) t4.fm.a t4.fm.ad (.inl rfl) (by rw [List.length_map,List.length_map]; exact Nat.le_trans (show ps.length + 1 ≤ 1000 by w_left) (show 1000 ≤ sizeLine by decide))) (fun v mu' w0=>?_) (find217 w) (ty217 w) (keep217 w))
     obtain ⟨e1,e2⟩:=w0
     have t5:=(t4.setA (ps':=[sp c])).setD
     rw [e2]
     exact EXs.nil (EXs.nil ⟨rfl,t5⟩)
    ·rintro σ₁ ⟨h,_⟩
     have e : (rngV (ps.length:Int) (-1) ps.length).length = ps.length:=by simp [rngV]
     w_left
  ·rintro σ₁ ⟨h,_⟩
   rw [blank_chars] at h
   cases h
end
end Mine.Internal
end
section
namespace Mine.Internal
open Builtin
theorem forIn_walk {σ:Type} {f:Nat → σ → Sem (ForInStep σ)} {S:Nat → σ} {n:Nat} (h:∀ i j,j < n → f i (S j) = pure (.yield (S (j + 1)))) : ∀ (l:List Nat) (j:Nat),j + l.length ≤ n → forIn l (S j) f = (pure (S (j + l.length)) : Sem σ)
 | [],j,_=>rfl
 | i :: l,j,hl=>by
  rw [List.length_cons] at hl
  rw [List.forIn_cons,h i j (by w_left)]
  show forIn l (S (j + 1)) f = _
  rw [forIn_walk h l (j + 1) (by w_left),List.length_cons,Nat.add_assoc,Nat.add_comm 1]
theorem run_ascii {id:String} {b:Array UInt8} (hb:∀ x ∈ b.toList,x.toNat < 128) (hs:b.size ≤ sizeLine) : _codecs.runDecoder id _codecs.asciiDecoder none true b 0 [] = pure ((b.toList.map (·.toNat)).toArray,b.size):=by
 unfold _codecs.runDecoder
 simp only [Std.Legacy.Range.forIn_eq_forIn_range']
 have hr : (List.range' 0 [:b.size].size).length = b.size:=by simp [Std.Legacy.Range.size]
 refine (congrArg (fun t=>t >>= fun s=>(pure (s.2.1,s.1) : Sem (Array Nat × Nat))) (forIn_walk (σ:=Nat × Array Nat × _codecs.Faults) (S:=fun j=>(j,((b.toList.take j).map (·.toNat)).toArray,{})) (n:=b.size) (fun i j hj=>?_) (List.range' 0 [:b.size].size) 0 (by rw [hr]; w_left))).trans ?_
 ·dsimp only
  have h1 : (((b.toList.take j).map (·.toNat)).toArray).size = j:=by simp; w_left
  rw [if_neg (by rw [h1]; w_left),if_neg (by w_left)]
  have hx : b.getD j 0 = b[j]:=by simp [hj]
  have hlt:=hb b[j] (by simp)
  have hf : _codecs.asciiDecoder.find true b j = _codecs.Found.text [b[j].toNat] (j + 1):=by
   show (if (b.getD j 0).toNat < 128 then _ else _) = _
   rw [hx,if_pos hlt]
   rfl
  rw [hf]
  show pure _ = pure _
  congr 2
  simp [List.take_add_one,hj]
 ·rw [hr,Nat.zero_add]
  show (pure _:Sem _) = pure _
  simp [← Array.length_toList]
theorem road_ascii {id:String} {b:Array UInt8} : _codecs.decodeRoad id b (PySem.Str.ofString "ascii") none [] = (_codecs.runDecoder id _codecs.asciiDecoder none true b 0 [] >>= fun r=>mkStr ⟨r.1⟩):=by kernel_rfl
theorem dec_entry {c:UInt8} {cs:List UInt8} {t u:Tok} : «bytes.decode» ⟨[.bytes (c :: cs).toArray t,.str (PySem.Str.ofString "ascii") u],[]⟩ = (mkStr (PySem.Str.ofString "utf-8") >>= fun ζ=>mkStr (PySem.Str.ofString "ascii") >>= fun e=>mkStr (PySem.Str.ofString "bytes.decode") >>= fun d=>
  call (.builtin "_codecs.decode.text") [.bytes (c :: cs).toArray t,e,.none,d] >>= fun v=>ret v):=by kernel_rfl
noncomputable def decS (b:List UInt8) : Str:=⟨(b.map (·.toNat)).toArray⟩
section
variable {c:UInt8} {cs:List UInt8} {t:Tok}
theorem meets_textA {b:List UInt8} {t1 t2:Tok} {d:PySem.Str} (hb:∀ x ∈ b,x.toNat < 128) (hs:b.length ≤ sizeLine) :
  Meets («_codecs.decode.text» ⟨[.bytes b.toArray t,.str (PySem.Str.ofString "ascii") t1,.none,.str d t2],[]⟩) (fun ζ R s=>R (.ok (.ret (.str (decS b) s.toks))) { s with toks:=s.toks + 1 }):=by
 refine .of_wp fun prog w A R s h=>?_
 show wpAny _ _ (Bytes.bytesLike _ (.bytes b.toArray t) >>= fun r=>_) _ _ s
 refine wpAny_bind (wpAny_of_eq KBd.like_eq ?_)
 refine wpAny_bind (wpAny_of_eq KBd.held_eq ?_)
 show wpAny _ _ (_codecs.decodeRoad _ b.toArray (PySem.Str.ofString "ascii") none [] >>= fun v=>_) _ _ s
 rw [road_ascii,run_ascii (b:=b.toArray) (by simpa using hb) (by simpa using hs)]
 refine wpAny_bind (wpAny_bind (wpAny_pure ?_))
 refine wpAny_mkStr (wpAny_pure ⟨_,rfl,?_⟩) ?_
 ·exact h
 ·show ((b.toArray.toList.map (·.toNat)).toArray).size ≤ sizeLine
  simpa using hs
theorem dec_meets {u:Tok} (hb:∀ x ∈ c :: cs,x.toNat < 128) (hs:(c :: cs).length ≤ sizeLine) :
  Meets («bytes.decode» ⟨[.bytes (c :: cs).toArray t,.str (PySem.Str.ofString "ascii") u],[]⟩) (fun ζ R s=>∀ t' k,R (.ok (.ret (.str (decS (c :: cs)) t'))) { s with toks:=k }):=by
 refine .of_wp fun prog w A R s h=>?_
 rw [dec_entry]
 refine wpAny_bind (wpAny_mkStr ?_ (by decide))
 refine wpAny_bind (wpAny_mkStr ?_ (by decide))
 refine wpAny_bind (wpAny_mkStr ?_ (by decide))
 exact wpAny_bind (call_function_meets KBd.kind_text KBd.plain_text KBd.entry_text (KBd.args_text _ _ _ _) (meets_textA hb hs) (wpAny_pure ⟨_,rfl,h _ _⟩))
theorem args_dec2 (a b:Value) : argsOk "bytes.decode" ⟨[a,b],[]⟩:=by unfold argsOk; kernel_rfl
theorem m_decode : Meth "bytes" "decode" "bytes.decode":=⟨FB.plainAttrs_bytes,FB.slot_bytes_decode,FB.type_bytes_decode⟩
theorem op_decode {w:World} {S0:Shared} {k:Nat} (hb:∀ x ∈ c :: cs,x.toNat < 128) (hs:(c :: cs).length ≤ sizeLine) : OPn w S0 k (fun xs=>call (.builtin "bytes.decode") xs) [.byt (c :: cs).toArray,.str "ascii"] (.str (decS (c :: cs))):=fun ms A s xs f g h=>by
 obtain ⟨x,y,rfl,hx,hy⟩:=h.two
 w_dflts hx; w_dflts hy
 refine WPtk (call_meets FB.slot_bytes_decode (typeIs_bytes _ _ _) FB.entry_bytes_decode (args_dec2 _ _) (dec_meets hb hs) fun t' k' ht=>⟨.str _ _,ktoks _ ht⟩)
end
end Mine.Internal
end
section
namespace Mine.Internal
noncomputable def digit (sh t:Int) : Nat:=((sh + t).fmod 16).toNat
theorem digit_lt (sh t:Int) : digit sh t < 16:=by
 have h1:=Int.fmod_nonneg_of_pos (sh + t) (show (0:Int) < 16 by decide)
 have h2:=Int.fmod_lt_of_pos (sh + t) (show (0:Int) < 16 by decide)
 exact toNat_lt h1 h2
theorem digit_int (sh t:Int) : (sh + t).fmod 16 = digit sh t:=by
 have h1:=Int.fmod_nonneg_of_pos (sh + t) (show (0:Int) < 16 by decide)
 exact toNat_eq h1
noncomputable def digs (sh:Int) (T:List (List Int)) : List Nat:=T.flatten.map (digit sh)
noncomputable def stepC (st:List Str × List (Str × Str)) (c:Str) : List Str × List (Str × Str):=if st.2.length < 5 then (st.1,st.2 ++ [sp c]) else (st.1 ++ [textP st.2],[sp c])
noncomputable def stC (cs:List Str) : List Str × List (Str × Str):=cs.foldl stepC ([],[])
structure StOk (st:List Str × List (Str × Str)) (i:Nat) : Prop where
 le : st.2.length ≤ 5
 one : ∀ p ∈ st.2,∃ n,(65 ≤ n ∧ n ≤ 80) ∧ p = sp (chr n)
 lines : st.1.length ≤ i
 pos : 0 < i → 0 < st.2.length
theorem StOk.step {st:List Str × List (Str × Str)} {i n:Nat} (hn:65 ≤ n ∧ n ≤ 80) (h:StOk st i) : StOk (stepC st (chr n)) (i + 1):=by
 unfold stepC
 split
 ·rename_i q
  refine ⟨by simp; w_left,fun p hp=>?_,Nat.le_succ_of_le h.lines,fun ζ=>by simp⟩
  rcases mema hp with hp | hp
  ·exact h.one p hp
  ·exact ⟨n,hn,mem1 hp⟩
 ·exact ⟨by simp,fun p hp=>⟨n,hn,mem1 hp⟩,by simp; exact h.lines,fun ζ=>by simp⟩
theorem stC_snoc (cs:List Str) (c:Str) : stC (cs ++ [c]) = stepC (stC cs) c:=by unfold stC; rw [List.foldl_append]; rfl
theorem stC_ok : ∀ (ns:List Nat),(∀ n ∈ ns,65 ≤ n ∧ n ≤ 80) → StOk (stC (ns.map chr)) ns.length:=by
 intro ns hns
 have key : ∀ (l:List Nat) (st:List Str × List (Str × Str)) (i:Nat),(∀ n ∈ l,65 ≤ n ∧ n ≤ 80) → StOk st i → StOk ((l.map chr).foldl stepC st) (i + l.length):=by
  intro l
  induction l with
  | nil=>intro st i _ h; exact h
  | cons n l ih=>
   intro st i hl h
   rw [List.map_cons,List.foldl_cons,List.length_cons]
   have:=ih _ _ (fun m hm=>hl m (.tail _ hm)) (h.step (n:=n) (hl n (.head _)))
   rw [show i + (l.length + 1) = i + 1 + l.length by w_left]
   exact this
 have:=key ns ([],[]) 0 hns ⟨by simp,fun p hp=>(by cases hp),Nat.le_refl _,fun h=>(by w_left)⟩
 rw [Nat.zero_add] at this
 exact this
theorem size_one : ∀ {ps:List (Str × Str)},(∀ p ∈ ps,∃ n,p = sp (chr n)) → sizeP ps = 2 * ps.length
 | [],_=>rfl
 | p :: ps,h=>by
  have ih:=size_one fun q hq=>h q (.tail _ hq)
  obtain ⟨n,e⟩:=h p (.head _)
  unfold sizeP at ih ⊢
  rw [List.map_cons,List.sum_cons,ih,e,List.length_cons]
  have e1 : (sp (chr n)).1.length = 1:=rfl
  have e2 : (sp (chr n)).2.length = 1:=rfl
  rw [e1,e2]
  push_cast
  w_left
theorem small_one {ps:List (Str × Str)} (h:∀ p ∈ ps,∃ n,p = sp (chr n)) (hl:ps.length ≤ 6) : Small ps:=by
 refine ⟨fun p hp=>?_,by w_left⟩
 obtain ⟨n,e⟩:=h p hp
 rw [e]
 exact ⟨by show 1 < 1000; decide,by show 1 < 1000; decide⟩
section
variable {w:World} {S0:Shared} {k:Nat}
theorem chunk_ok {mu:List (Addr × MO)} {F df L A da:Addr} {M:Int} {st:List Str × List (Str × Str)} {n i:Nat} (f:Fm mu F df L A da M (st.1.map V.str) st.2) (h:StOk st i) (hn:65 ≤ n ∧ n ≤ 80) (hi:i ≤ 25) (hM:M = 10 ∨ M = 11) :
  FNM w S0 (k + 8) true (fun xs=>call (.ref 148) xs) [.mob F,.str " ",.str (chr n)] mu (fun v mu'=>v = .none ∧ FmTo mu mu' F df L A da M ((stepC st (chr n)).1.map V.str) (stepC st (chr n)).2):=by
 have hs:=small_one (ps:=st.2 ++ [sp (chr n)]) (fun p hp=>by
  rcases mema hp with hp | hp
  ·obtain ⟨m,_,e⟩:=h.one p hp; exact ⟨m,e⟩
  ·exact ⟨n,mem1 hp⟩) (by have:=h.le; simp; w_left)
 have hsz:=size_one (ps:=st.2 ++ [sp (chr n)]) (fun p hp=>by
  rcases mema hp with hp | hp
  ·obtain ⟨m,_,e⟩:=h.one p hp; exact ⟨m,e⟩
  ·exact ⟨n,mem1 hp⟩)
 rw [List.length_append,List.length_singleton] at hsz
 unfold stepC
 split
 ·rename_i q
  exact chunk_fits f hs (by rw [hsz]; push_cast; w_left)
 ·rename_i q
  have e : (st.1 ++ [textP st.2]).map V.str = st.1.map V.str ++ [.str (textP st.2)]:=by rw [List.map_append]; rfl
  have:=chunk_splits (w:=w) (S0:=S0) (k:=k) (c:=chr n) f hs (by rw [hsz]; push_cast; w_left) (by w_left) (by rw [List.length_map]; have:=h.lines; w_left)
  refine this.weaken fun v mu' ⟨e1,t⟩=>⟨e1,?_⟩
  rw [e]; exact t
theorem FNM.frozen {gen:Bool} {t:List Value → Sem Value} {vs:List V} {P:Str → List V → Prop} (h:FNM w S0 k gen t vs [] (fun v mu'=>∃ x a us,v = .tup [.str x,.mob a] ∧ mu'.lookup a = some (.list us) ∧ P x us)) :
  FNM w S0 k gen t vs [] (fun v mu'=>mu' = [] ∧ ∃ x us,v = .tup [.str x,.lst us] ∧ P x us):=by
 intro ms A s xs f g hx
 refine WPmono (h ms A s xs f g hx) fun z s' w0=>?_
 obtain ⟨v,mu',⟨x,a,us,e,ha,hP⟩,g',hz,st⟩:=w0
 subst e
 have up : Up (adr mu' ++ ms) (adr [] ++ ms) s' s':=fun b o hb ζ e=>⟨fun q=>hb (memR _ q),e⟩
 cases hz.inv with | @mk b ys n gb mb rb=>
 obtain ⟨y1,y2,ey,hy1,hy2⟩:=rb.two
 w_dflts hy2
 obtain ⟨lx,m,gl,rl⟩:=g'.muok _ (mem_of_lookupA ha)
 have hlive : Live ms s'.heap:=g'.live
 refine ⟨.tup [.str x,.lst us],[],⟨rfl,x,us,rfl,hP⟩,⟨g'.glob,hlive,fun p hp=>(by cases hp),List.nodup_nil,fun b hb=>(by cases hb),fun b hb=>(by cases hb)⟩,?_,⟨st.kept,fun b hb=>(by cases hb),st.there,st.gens,st.drawn,st.toks⟩⟩
 refine .tup gb (fun q=>mb (memR _ q)) ?_
 rw [ey]
 refine .cons (hy1.mono up (Nat.le_refl _)) (.cons (.lst gl (fun q=>g'.disj a (lookup_adr ha) q) (rl.mono up (Nat.le_refl _))) .nil)
end
end Mine.Internal
end
section
namespace Mine.Internal
theorem empty_wrd : ("":Str) = wrd []:=rfl
theorem join_wrd (ls:List (List Nat)) : Txt.join "" (ls.map wrd) = wrd ls.flatten:=by
 rw [txt_join]
 induction ls with
 | nil=>rfl
 | cons a r ih=>
  cases r with
  | nil=>show wrd a = _; simp
  | cons b r=>
   show wrd a ++ ("":Str) ++ Str.join "" (((b :: r)).map wrd) = _
   rw [ih,empty_wrd,wrd_app,wrd_app]
   simp
theorem textP_wrd (ns:List Nat) : textP (ns.map fun n=>sp (chr n)) = wrd (ns.flatMap fun n=>[32,n]):=by
 unfold textP
 have e : ((ns.map fun n=>sp (chr n)).map fun p=>Txt.join "" [p.1,p.2]) = (ns.map fun n=>[32,n]).map wrd:=by
  rw [List.map_map,List.map_map]
  apply List.map_congr_left
  intro n _
  show Txt.join "" ([[32],[n]].map wrd) = wrd [32,n]
  rw [join_wrd]; rfl
 rw [e,join_wrd]
 rfl
theorem not_space {n:Nat} (h:65 ≤ n ∧ n ≤ 80) : Unicode.isSpace n = false:=by
 have : ∀ m : Nat,m < 81 → 65 ≤ m → Unicode.isSpace m = false:=by decide +kernel
 exact this n (by w_left) h.1
theorem ones_of {ps:List (Str × Str)} (h:∀ p ∈ ps,∃ n,(65 ≤ n ∧ n ≤ 80) ∧ p = sp (chr n)) : ∃ ns : List Nat,(∀ n ∈ ns,65 ≤ n ∧ n ≤ 80) ∧ ps = ns.map fun n=>sp (chr n):=by
 induction ps with
 | nil=>exact ⟨[],fun ζ h=>(by cases h),rfl⟩
 | cons p ps ih=>
  obtain ⟨ns,h1,h2⟩:=ih fun q hq=>h q (.tail _ hq)
  obtain ⟨n,hn,e⟩:=h p (.head _)
  refine ⟨n :: ns,fun m hm=>?_,by rw [e,h2]; rfl⟩
  rcases memc hm with rfl | hm
  ·exact hn
  ·exact h1 m hm
theorem text_not_space {ns:List Nat} (h:∀ n ∈ ns,65 ≤ n ∧ n ≤ 80) (h0:ns ≠ []) : Txt.isspace (textP (ns.map fun n=>sp (chr n))) = false:=by
 rw [textP_wrd]
 unfold Txt.isspace
 rw [Bool.and_eq_false_iff]
 right
 cases ns with
 | nil=>exact absurd rfl h0
 | cons n ns=>
  rw [← Array.all_toList,wrd_cps,List.flatMap_cons,List.all_append,List.all_cons,List.all_cons,not_space (h n (.head _))]
  simp
theorem textP_len (ns:List Nat) : (textP (ns.map fun n=>sp (chr n))).length = 2 * ns.length:=by
 rw [textP_wrd,wrd_len]
 induction ns with
 | nil=>rfl
 | cons n ns ih=>rw [List.flatMap_cons,List.length_append,ih]; simp; w_left
noncomputable def pageOf (cs:List Str) : Str:=Txt.join "/" ((stC cs).1 ++ [textP (stC cs).2])
section
variable {w:World} {S0:Shared} {k:Nat} {c:Cx} {σ:St}
theorem ev_sliceSC {e:Expr} {lo hi:Option Expr} {p pos:Pos} {l u:Option Int} {x:Str} (he:EV c k σ e (.str x)) (hl:EVP c k σ lo l) (hu:EVP c k σ hi u) (hs:(strPick x l u).length ≤ sizeLine)
  (ht:∀ (a:Str) (t:Tok) r,letTemporaryGo e (.str a t) r = pure ():=by intro _ _ _; rfl) : EV c k σ (.Subscript e (.Slice lo hi none p) pos) (.str (strPick x l u)):=by
 intro A s f r
 rw [eval_Subscript]
 refine wpAny_bind (WPmono (he A s f r) fun y s₁ w0=>?_)
 obtain ⟨hx,k₁⟩:=w0
 cases hx.inv with | mk t=>
 refine wpAny_bind (wpAny_holding (wpAny_Slice (WPmono (hl.ev f (r.keeps k₁)) fun vl s₂ ⟨hvl,k₂⟩=>WPmono (hu.ev f ((r.keeps k₁).keeps k₂)) fun vu s₃ w0=>?_)))
 obtain ⟨hvu,k₃⟩:=w0
 rw [evalPart_none]
 have k13:=ktrans k₁ (ktrans k₂ k₃)
 obtain ⟨pl,rfl,e1⟩:=IsPart.val hvl
 obtain ⟨pu,rfl,e2⟩:=IsPart.val hvu
 have k4 : Kp s₃ { s₃ with heap:=s₃.heap.push { cls:=.type "slice",data:=.fields #[partValue pl,partValue pu,.none] } }:=kpush _ _
 refine wpAny_pure (wpAny_bind (wpAny_standAt (wpAny_bind ?_)))
 rw [getitemInPython_of_ne (o:=.str x t) (by intro h; cases h)]
 refine wpAny_bind (wpAny_specialOf (typeIs_str _ _ _) F.slot_str_getitem.lookup (wpAny_pure (wpAny_bind ?_)))
 show wpAny _ _ (operate [.ref s₃.heap.objs.size,.str x t] (getItem (.str x t) (.ref s₃.heap.objs.size))) _ _ _
 refine wpAny_operating (wpAny_getItem_str_slice (l:=pl) (u:=pu) (st:=none) ⟨_,Heap.get?_push_size _ rfl,rfl,rfl⟩ rfl ?_)
 unfold sliceMade slicePicked
 rw [e1,e2]
 unfold strPick at hs ⊢
 show (if (true && ((Builtin.Str.strSliceIndices l u 1 x.length).length == x.length)) = true then Made.val (.str x t) else Made.str ⟨((Builtin.Str.strSliceIndices l u 1 x.length).filterMap (x.cps[·]?)).toArray⟩).post _ _
 rw [Bool.true_and]
 split
 ·exact wpAny_bind (wpAny_of_eq (ht _ _ _) (wpAny_pure ⟨.str _ _,ktrans k13 k4⟩))
 ·rename_i h
  rw [if_neg h] at hs
  exact ⟨hs,wpAny_bind (wpAny_of_eq (ht _ _ _) (wpAny_pure ⟨.str _ _,ktrans k13 (ktrans k4 (ktoks _))⟩))⟩
end
end Mine.Internal
end
section
namespace Mine.Internal
noncomputable def lettersOf (sh:Int) (T:List (List Int)) : List Str:=(digs sh T).map fun d=>chr (65 + d)
theorem bits16 : Builtin.Int.intBits 16 ≤ 64:=by decide +kernel
theorem digs_len {sh:Int} {T:List (List Int)} (hT:T.length = 5) (hR:∀ r ∈ T,r.length = 5) : (digs sh T).length = 25:=by
 unfold digs
 rw [List.length_map,List.length_flatten,List.map_congr_left (g:=fun ζ=>5) hR,List.map_const',hT]; rfl
theorem digs_snoc (sh:Int) (T:List (List Int)) (row:List Int) : digs sh (T ++ [row]) = digs sh T ++ row.map (digit sh):=by
 unfold digs
 rw [List.flatten_append,List.map_append]
 simp
theorem ap_nat {d:Nat} (h:d < 16) : (apOf d).toNat = 65 + d:=by
 have : ∀ m : Nat,m < 16 → (apOf m).toNat = 65 + m:=by decide +kernel
 exact this d h
theorem dec_ap {ds:List Nat} (h:∀ d ∈ ds,d < 16) : decS (ds.map apOf) = wrd (ds.map (65 + ·)):=by
 unfold decS wrd
 congr 2
 rw [List.map_map]
 apply List.map_congr_left
 intro d hd
 exact ap_nat (h d hd)
theorem ap_ascii {ds:List Nat} (h:∀ d ∈ ds,d < 16) : ∀ x ∈ ds.map apOf,x.toNat < 128:=by
 intro x hx
 obtain ⟨d,hd,rfl⟩:=memm hx
 rw [ap_nat (h d hd)]
 have:=h d hd
 w_left
theorem stC_short (ns:List Nat) (hns:∀ n ∈ ns,65 ≤ n ∧ n ≤ 80) : ∀ l ∈ (stC (ns.map chr)).1,l.length ≤ 10:=by
 have key : ∀ (l:List Nat) (st:List Str × List (Str × Str)) (i:Nat),(∀ n ∈ l,65 ≤ n ∧ n ≤ 80) → StOk st i → (∀ x ∈ st.1,x.length ≤ 10) → ∀ x ∈ ((l.map chr).foldl stepC st).1,x.length ≤ 10:=by
  intro l
  induction l with
  | nil=>intro st i _ _ h; exact h
  | cons n l ih=>
   intro st i hl h hx
   rw [List.map_cons,List.foldl_cons]
   refine ih _ (i + 1) (fun m hm=>hl m (.tail _ hm)) (h.step (hl n (.head _))) ?_
   unfold stepC
   split
   ·exact hx
   ·intro x hm
    rcases mema hm with hm | hm
    ·exact hx x hm
    ·rw [mem1 hm]
     obtain ⟨ms,_,e⟩:=ones_of h.one
     have h5:=h.le
     rw [e] at h5 ⊢
     rw [textP_len]
     rw [List.length_map] at h5
     w_left
 exact key ns ([],[]) 0 hns ⟨by simp,fun p hp=>(by cases hp),Nat.le_refl _,fun h=>(by w_left)⟩ (fun x hx=>by w_dflts hx)
section
variable {w:World} {S0:Shared} {k:Nat}
structure PgI (F df L A da Ans:Addr) (M:Int) (st:List Str × List (Str × Str)) (i:Nat) (m:List (Addr × MO)) : Prop where
 fm : Fm m F df L A da M (st.1.map V.str) st.2
 an : m.lookup Ans = some (.list (List.replicate i .none))
set_option maxHeartbeats 8000000 in
theorem page_raw {T:List (List Int)} (hT:T.length = 5) (hR:∀ r ∈ T,r.length = 5) {sh minus room:Int} (hm:minus = 0 ∨ minus = 1) (hr:room = 0 ∨ room = 1) :
  FNM w S0 (k + 12) true (fun xs=>call (.ref 263) xs) [tabV T,.int sh,.int minus,.int room] [] (fun v mu'=>∃ x a us,v = .tup [.str x,.mob a] ∧ mu'.lookup a = some (.list us) ∧ x = pageOf (lettersOf sh T) ∧ us = List.replicate 25 .none):=by
 refine FNM.intro (ns:=["table","shift","minus","room"]) (K1_of (by rfl) (by rfl)) (by kernel_rfl) (args4 fun ζ ζ ζ ζ=>rfl) (by rfl) (by decide) (by decide) rfl rfl rfl (fun X=>?_)
 ·refine EXs.assign (v:=.int 1) EV.int (.inl (by rfl)) ?_
  refine EXs.norm (l':=[("number",.int (val16 (1 :: digs sh (T.take 0)))),("table",tabV T),("shift",.int sh),("minus",.int minus),("room",.int room)]) (.ev rfl) ?_
  refine EXs.forS (fun i=>⟨[("number",.int (val16 (1 :: digs sh (T.take i)))),("table",tabV T),("shift",.int sh),("minus",.int minus),("room",.int room)],[]⟩) (.of (EV.name (v:=tabV T) (by rfl)) ITER.lst) rfl ?_ ?_
  ·intro i v hv out1 Q1 hQ1
   rw [List.getElem?_map] at hv
   obtain ⟨row,hrow,rfl⟩:=Option.map_eq_some_iff.mp hv
   have hi : i < T.length:=(List.getElem?_eq_some_iff.mp hrow).1
   have hti : T.take (i + 1) = T.take i ++ [row]:=by rw [List.take_add_one,hrow]; rfl
   refine ⟨_,ASG.name (.inl (by rfl)),?_⟩
   show EXs _ _ _ _ _
   refine EXs.norm (l':=[("number",.int (val16 (1 :: digs sh (T.take i) ++ (row.take 0).map (digit sh)))),("row",.lst (row.map .int)),("table",tabV T),("shift",.int sh),("minus",.int minus),("room",.int room)]) (.cons (by simp; rfl) (.ev rfl)) ?_
   refine EXs.forS (fun j=>⟨[("number",.int (val16 (1 :: digs sh (T.take i) ++ (row.take j).map (digit sh)))),("row",.lst (row.map .int)),("table",tabV T),("shift",.int sh),("minus",.int minus),("room",.int room)],[]⟩) (.of (EV.name (v:=.lst (row.map .int)) (by rfl)) ITER.lst) rfl ?_ ?_
   ·intro j v hv out2 Q2 hQ2
    rw [List.getElem?_map] at hv
    obtain ⟨t,ht,rfl⟩:=Option.map_eq_some_iff.mp hv
    have htj : row.take (j + 1) = row.take j ++ [t]:=by rw [List.take_add_one,ht]; rfl
    refine ⟨_,ASG.name (.inl (by rfl)),?_⟩
    show EXs _ _ _ _ _
    refine EXs.assign (v:=.int (val16 (1 :: digs sh (T.take i) ++ (row.take (j + 1)).map (digit sh)))) ?_ (.inl (by rfl)) ?_
    ·refine EV.eq (EV.bin (EV.bin (EV.name (v:=.int (val16 (1 :: digs sh (T.take i) ++ (row.take j).map (digit sh)))) (by rfl)) EV.int (op_mul (IntMulOk.of_right bits16))) (EV.bin (EV.bin (EV.name (v:=.int sh) (by rfl)) (EV.name (v:=.int t) (by rfl)) op_add) EV.int (op_mod (by decide))) op_add) ?_
     rw [digit_int,htj,List.map_append,← List.append_assoc]
     show V.int _ = V.int _
     rw [show (List.map (digit sh) [t]) = [digit sh t] from rfl,val16_snoc]
     push_cast
     rfl
    ·refine EXs.norm (l':=[("number",.int (val16 (1 :: digs sh (T.take i) ++ (row.take (j + 1)).map (digit sh)))),("row",.lst (row.map .int)),("table",tabV T),("shift",.int sh),("minus",.int minus),("room",.int room)]) (.ev rfl) (EXs.nil hQ2)
   ·rw [List.length_map,List.take_length]
    exact EXs.norm (l':=[("number",.int (val16 (1 :: digs sh (T.take (i + 1))))),("table",tabV T),("shift",.int sh),("minus",.int minus),("room",.int room)]) (.cons (by rw [hti,digs_snoc]; rfl) (.ev rfl)) (EXs.nil hQ1)
  ·rw [List.length_map,List.take_length]
   have hds : ∀ d ∈ digs sh T,d < 16:=fun d hd=>by
    obtain ⟨t,_,rfl⟩:=memm hd
    exact digit_lt sh t
   have hds1 : ∀ d ∈ 1 :: digs sh T,d < 16:=fun d hd=>by
    rcases memc hd with rfl | hd
    ·decide
    ·exact hds d hd
   have hlen : (digs sh T).length = 25:=digs_len hT hR
   have hMr : (10 + room = 10 ∨ 10 + room = 11):=by rcases hr with rfl | rfl <;> simp
   refine EXs.assignM (EM.callE (EV.glob (v:=.ref 151) (by kernel_rfl) (by rfl)) (.top (by kernel_rfl)) (EML.of (EVL.cons EV.int (EVL.cons (EV.bin EV.int (EV.name (v:=.int room) (by rfl)) op_add) (EVL.ev (by rfl)))) (FNM.weaken (fmt_new_ok (k:=k + 6) (M:=10 + room)) fun v mu' w0=>?_))) (.inl (by rfl))
   obtain ⟨F,df,L,A,da,e,f⟩:=w0
   subst e
   refine EXs.assignM (EM.newList fun Ans hA=>?_) (.inl (by rfl))
   have hA' : Ans ∉ adr mu':=hA
   have nz : ∀ {b:Addr} {o:MO},mu'.lookup b = some o → b ≠ Ans:=fun hb q=>hA' (q ▸ lookup_adr hb)
   have f1 : Fm ((Ans,.list []) :: mu') F df L A da (10 + room) (([] : List Str).map V.str) []:=⟨(lk_tail (nz f.f)).trans f.f,(lk_tail (nz f.fd)).trans f.fd,(lk_tail (nz f.l)).trans f.l,(lk_tail (nz f.a)).trans f.a,(lk_tail (nz f.ad)).trans f.ad⟩
   have nAL : Ans ≠ L:=(nz f.l).symm
   have nAA : Ans ≠ A:=(nz f.a).symm
   have nAd : Ans ≠ da:=(nz f.ad).symm
   have hl0 : List.lookup Ans ((Ans,MO.list []) :: mu') = some (.list (List.replicate 0 .none)):=lk_head
   show EXs _ _ (St.set ⟨_,(Ans,MO.list []) :: mu'⟩ _ _) _ _
   generalize ((Ans,MO.list []) :: mu') = m1 at *
   refine EXs.norm (l':=[("answers",.mob Ans),("formatter",.mob F),("number",.int (val16 (1 :: digs sh T))),("minus",.int minus)]) (.ev rfl) ?_
   have hwl : strPick (decS ((1 :: digs sh T).map apOf)) (some 1) none = wrd ((digs sh T).map (65 + ·)):=by
    rw [dec_ap hds1]
    have:=pick_from ((1 :: digs sh T).map (65 + ·)) 1 (by simp)
    simpa using this
   refine EXs.forA (vs:=(lettersOf sh T).map V.str) (fun ζ=>[("answers",.mob Ans),("formatter",.mob F),("number",.int (val16 (1 :: digs sh T))),("minus",.int minus)]) (fun i=>PgI F df L A da Ans (10 + room) (stC ((lettersOf sh T).take i)) i) ?_ rfl ⟨f1,hl0⟩ ?_ ?_
   ·have hvs : (lettersOf sh T).map V.str = chars (strPick (decS ((1 :: digs sh T).map apOf)) (some 1) none):=by
     rw [hwl,chars_wrd]
     unfold lettersOf
     simp
    rw [hvs]
    refine .of (ev_sliceSC (l:=some 1) (u:=none) (EV.meth (EV.callv (vs:=[.int (if minus = 0 then (val16 (1 :: digs sh T) : Int) else -(val16 (1 :: digs sh T) : Int))]) (EV.glob (v:=.ref 246) (by kernel_rfl) (by rfl)) (EVL.cons (EV.sub (EV.list (EVL.cons (EV.name (v:=.int (val16 (1 :: digs sh T))) (by rfl)) (EVL.cons (EV.un (EV.name (v:=.int (val16 (1 :: digs sh T))) (by rfl)) op_neg) EVL.nil))) rfl ⟨_,PySem.F.slot_list_getitem.lookup⟩ (EV.name (v:=.int minus) (by rfl)) (op_itemL ?_ ?_ ?_)) EVL.nil) (.top (by kernel_rfl)) ((ap_ok hds (by w_left) ?_).mono (Nat.le_add_left 1 _))) rfl m_decode (EVL.ev (by rfl)) (op_decode ?_ ?_)) (show EVP _ _ _ (some _) (some 1) from EV.int) rfl ?_) ITER.str
    ·w_left
    ·w_left
    ·rcases hm with rfl | rfl <;> rfl
    ·rcases hm with rfl | rfl
     ·rw [if_pos rfl]; rfl
     ·rw [if_neg (by decide)]; simp
    ·exact ap_ascii hds1
    ·rw [List.length_cons,List.length_map,hlen]; decide
    ·have e:=hwl
     rw [List.map_cons] at e
     rw [e,wrd_len,List.length_map,hlen]; decide
   ·clear f1 hl0
    intro i v m hv pg out3 Q3 hQ3
    obtain ⟨fm,hAns⟩:=pg
    rw [List.getElem?_map] at hv
    obtain ⟨cc,hcc,rfl⟩:=Option.map_eq_some_iff.mp hv
    have hcc':=hcc
    unfold lettersOf at hcc'
    rw [List.getElem?_map] at hcc'
    obtain ⟨d,hd,rfl⟩:=Option.map_eq_some_iff.mp hcc'
    have hdm:=hds d (List.mem_of_getElem? hd)
    have hi : i < 25:=by have:=(List.getElem?_eq_some_iff.mp hd).1; w_left
    have hti : (lettersOf sh T).take (i + 1) = (lettersOf sh T).take i ++ [chr (65 + d)]:=by rw [List.take_add_one,hcc]; rfl
    have hst : StOk (stC ((lettersOf sh T).take i)) i:=by
     have e : (lettersOf sh T).take i = (((digs sh T).take i).map (65 + ·)).map chr:=by
      unfold lettersOf
      rw [List.map_map,List.map_take]
      rfl
     rw [e]
     have:=stC_ok (((digs sh T).take i).map (65 + ·)) (fun n hn=>by
      obtain ⟨x,hx,rfl⟩:=memm hn
      have:=hds x (List.mem_of_mem_take hx)
      show 65 ≤ 65 + x ∧ 65 + x ≤ 80
      w_left)
     rw [List.length_map,List.length_take,hlen,Nat.min_eq_left (by w_left)] at this
     exact this
    refine ⟨_,ASG.name (.inl (by rfl)),?_⟩
    show EXs _ _ _ _ _
    refine EXs.exprM (EM.appendE (a:=Ans) (EV.name (by rfl)) ⟨_,hAns⟩ (EM.methI (a:=F) (C:=151) (d:=df) (f:=148) (vs:=[.str " ",.str (chr (65 + d))]) (EV.name (v:=.mob F) (by rfl)) fm.f rfl fm.fd (by rfl) (EVL.ev (by rfl)) (chunk_ok (k:=k + 3) fm hst (by w_left) (by w_left) hMr) (fun v mu' w0=>?_) (ga151 w) (by kernel_rfl) (by kernel_rfl) (by kernel_rfl) (by kernel_rfl)))
    obtain ⟨e1,t⟩:=w0
    refine ⟨List.replicate i .none,(t.kept Ans nAL nAA nAd).trans hAns,by rw [List.length_replicate]; exact Nat.le_trans (show i ≤ 25 by w_left) (by decide),?_⟩
    subst e1
    rw [← stC_snoc,← hti] at t
    have nF:=ne_of_lookup t.fm.f ((t.kept Ans nAL nAA nAd).trans hAns) nofun
    have nD:=ne_of_lookup t.fm.fd ((t.kept Ans nAL nAA nAd).trans hAns) nofun
    refine EXs.norm (l':=[("answers",.mob Ans),("formatter",.mob F),("number",.int (val16 (1 :: digs sh T))),("minus",.int minus)]) (.ev rfl) (EXs.nil ?_)
    refine hQ3 _ ⟨⟨(lookup_upd_ne nF).trans t.fm.f,(lookup_upd_ne nD).trans t.fm.fd,(lookup_upd_ne (Ne.symm nAL)).trans t.fm.l,(lookup_upd_ne (Ne.symm nAA)).trans t.fm.a,(lookup_upd_ne (Ne.symm nAd)).trans t.fm.ad⟩,?_⟩
    rw [lookup_upd_self ((t.kept Ans nAL nAA nAd).trans hAns),List.replicate_succ']
   ·intro m pg
    obtain ⟨fm,hAns⟩:=pg
    have hll : ((lettersOf sh T).map V.str).length = 25:=by rw [List.length_map]; unfold lettersOf; rw [List.length_map,hlen]
    rw [hll] at fm hAns
    have htk : (lettersOf sh T).take 25 = lettersOf sh T:=List.take_of_length_le (by unfold lettersOf; rw [List.length_map,hlen]; exact Nat.le_refl _)
    rw [htk] at fm
    have hst : StOk (stC (lettersOf sh T)) 25:=by
     have e : lettersOf sh T = ((digs sh T).map (65 + ·)).map chr:=by
      unfold lettersOf
      rw [List.map_map]
      rfl
     rw [e]
     have:=stC_ok ((digs sh T).map (65 + ·)) (fun n hn=>by
      obtain ⟨x,hx,rfl⟩:=memm hn
      have:=hds x hx
      show 65 ≤ 65 + x ∧ 65 + x ≤ 80
      w_left)
     rw [List.length_map,hlen] at this
     exact this
    obtain ⟨ns,hns,ens⟩:=ones_of hst.one
    have hpos:=hst.pos (by decide)
    rcases List.eq_nil_or_concat ns with rfl | ⟨us,u,rfl⟩
    ·rw [ens] at hpos; cases hpos
    ·rw [List.concat_eq_append] at ens hns
     have ens' : (stC (lettersOf sh T)).2 = us.map (fun n=>sp (chr n)) ++ [sp (chr u)]:=by rw [ens,List.map_append]; rfl
     have hsm:=small_one (ps:=(stC (lettersOf sh T)).2) (fun p hp=>let ⟨m,_,e⟩:=hst.one p hp; ⟨m,e⟩) (by have:=hst.le; w_left)
     have hsp : Txt.isspace (textP (stC (lettersOf sh T)).2) = false:=by rw [ens]; exact text_not_space hns (by simp)
     rw [ens'] at fm hsm hsp
     have hres : pageOf (lettersOf sh T) = Txt.join "/" ((stC (lettersOf sh T)).1 ++ [textP (us.map (fun n=>sp (chr n)) ++ [sp (chr u)])]):=by unfold pageOf; rw [ens']
     refine EXs.cons (EX.retM (EM.tuple (EML.cons (EM.methI (a:=F) (C:=151) (d:=df) (f:=99) (vs:=[.str "/"]) (EV.name (v:=.mob F) (by rfl)) fm.f rfl fm.fd (by rfl) (EVL.ev (by rfl)) (str_ok (k:=k + 2) (sep:="/") fm (by rfl) hsm hsp (by have:=hst.lines; w_left) ?_) (fun v mu' ⟨e1,t⟩=>?_) (ga151 w) (by kernel_rfl) (by kernel_rfl) (by kernel_rfl) (by kernel_rfl)))))
     ·refine joinOk_of ?_
      rw [← ens']
      have hshort:=stC_short ((digs sh T).map (65 + ·)) (fun n hn=>by
       obtain ⟨x,hx,rfl⟩:=memm hn
       have:=hds x hx
       show 65 ≤ 65 + x ∧ 65 + x ≤ 80
       w_left)
      have e : lettersOf sh T = ((digs sh T).map (65 + ·)).map chr:=by
       unfold lettersOf
       rw [List.map_map]
       rfl
      rw [← e] at hshort
      have key : ∀ l : List Str,(∀ x ∈ l,x.length ≤ 10) → (l.map (·.length)).sum ≤ 10 * l.length:=by
       intro l
       induction l with
       | nil=>intro _; simp
       | cons a l ih=>
        intro h
        have h1:=h a (.head _)
        have h2:=ih fun x hx=>h x (.tail _ hx)
        rw [List.map_cons,List.sum_cons,List.length_cons]
        w_left
      have h1:=key _ hshort
      have h2:=hst.lines
      have h3 : (textP (stC (lettersOf sh T)).2).length ≤ 10:=by
       have h5:=hst.le
       rw [ens] at h5 ⊢
       rw [textP_len]
       rw [List.length_map] at h5
       w_left
      have e1 : ("/":Str).length = 1:=rfl
      rw [e1,List.map_append,List.sum_append,List.length_append]
      simp only [List.map_cons,List.map_nil,List.sum_cons,List.sum_nil,List.length_cons,List.length_nil]
      w_left
     ·refine EML.of (EVL.ev (by rfl)) ⟨by show 2 ≤ sizeLine; decide,?_⟩
      exact ⟨_,Ans,_,by rw [e1],(t.kept Ans nAL nAA nAd).trans hAns,hres.symm,rfl⟩
end
end Mine.Internal
namespace Mine.Internal
theorem page_ok {w:World} {S0:Shared} {k:Nat} {T:List (List Int)} (hT:T.length = 5) (hR:∀ r ∈ T,r.length = 5) {sh minus room:Int} (hm:minus = 0 ∨ minus = 1) (hr:room = 0 ∨ room = 1) :
  FNM w S0 (k + 12) true (fun xs=>call (.ref 263) xs) [tabV T,.int sh,.int minus,.int room] [] (fun v mu'=>mu' = [] ∧ v = .tup [.str (pageOf (lettersOf sh T)),.lst (List.replicate 25 .none)]):=
 (FNM.frozen (P:=fun x us=>x = pageOf (lettersOf sh T) ∧ us = List.replicate 25 .none) (page_raw hT hR hm hr)).weaken fun v mu' w0=>by
  obtain ⟨e,x,us,ev,e1,e2⟩:=w0
  exact ⟨e,by rw [ev,e1,e2]⟩
end Mine.Internal
end
section
namespace Mine.Internal
section
variable {w:World} {S0:Shared} {k:Nat} {c:Cx} {σ:St} {rest:List Stmt} {Q:AF → St → Prop}
theorem EX.assignTM {e t:Expr} {pos:Pos} (h:EM c k σ e fun v σ₁=>∃ σ',ASG c k σ₁ t v σ' ∧ Q .next σ') (hs:exec (.Assign [t] e pos) c.env = (do standAt pos; let v ← eval e c.env; PySem.assign t c.env v; pure .next)) : EX c k σ (.Assign [t] e pos) Q:=by
 intro A s f r
 rw [hs]
 refine wpAny_bind (wpAny_standAt (wpAny_bind (WPmono (h A s f r) fun y s₁ w0=>?_)))
 obtain ⟨v,σ₁,⟨σ',ha,hQ⟩,r₁,hy,st₁⟩:=w0
 exact wpAny_bind (WPmono (ha A s₁ y f r₁ hy) fun ζ s₂ ⟨r₂,st₂⟩=>wpAny_pure ⟨.next,_,hQ,r₂,trivial,st₁.trans st₂⟩)
theorem EXs.assignTM {e t:Expr} {pos:Pos} (h:EM c k σ e fun v σ₁=>∃ σ',ASG c k σ₁ t v σ' ∧ EXs c k σ' rest Q) (hs:exec (.Assign [t] e pos) c.env = (do standAt pos; let v ← eval e c.env; PySem.assign t c.env v; pure .next):=by rfl) : EXs c k σ (.Assign [t] e pos :: rest) Q:=.cons (.assignTM h hs)
end
noncomputable abbrev Ent:=List Nat × List Nat
noncomputable def entV (e:Ent) : V:=.tup [.str (wrd e.1),.str (wrd e.2)]
noncomputable def rgbC (p:Nat) : Nat:=[114,103,98].getD p 0
noncomputable def labelD (p i:Nat) (dom:List Nat) : List Nat:=rgbC p :: (118 + i) :: 46 :: dom
noncomputable def pushesP (dom:List Nat) (p:Nat) (parts:List (List Nat)) : List Ent:=if 1 < parts.length then parts.zipIdx.map (fun x=>(labelD p x.2 dom,x.1)) else []
noncomputable def pushesTo (T:List (List Int)) (e:Ent) : Nat → List Ent
 | 0=>[]
 | p + 1=>pushesTo T e p ++ pushesP e.1 p (partsF T e.2 (p:Int))
noncomputable def topE (pile:List Ent) : Ent:=pile.getLastD ([],[])
noncomputable def hostD (e:Ent) (kvs:List (Str × V)) : List (Str × V):=if e.2.length = 1 then putD kvs (wrd e.2) (.str (wrd (e.2 ++ 46 :: e.1))) else kvs
noncomputable def turnF (T:List (List Int)) (st:List Ent × List (Str × V)) : List Ent × List (Str × V):=(st.1.dropLast ++ pushesTo T (topE st.1) 3,hostD (topE st.1) st.2)
noncomputable abbrev localL : List Nat:=[108,111,99,97,108]
noncomputable abbrev klmnoL : List Nat:=[107,108,109,110,111]
noncomputable def hostsN (T:List (List Int)) : Nat → List Ent × List (Str × V)
 | 0=>([(localL,klmnoL)],[])
 | n + 1=>turnF T (hostsN T n)
structure EntOk (t:Nat) (e:Ent) : Prop where
 ne : e.2 ≠ []
 pt : ∀ n ∈ e.2,isPt n
 len : e.2.length ≤ 5
 dom : e.1.length ≤ 5 + 3 * t
theorem ne_part {T:List (List Int)} {paint:Int} {n:Nat} {ps:List (List Nat)} (h:∀ p ∈ ps,p ≠ []) : ∀ p ∈ partStep T paint ps n,p ≠ []:=by
 have key : ∀ (l:List (List Nat)) (r:List Nat × List (List Nat)),r.1 ≠ [] → (∀ p ∈ r.2,p ≠ []) → (∀ p ∈ l,p ≠ []) → (l.foldl (joinStep (T.getD (n - 107) []) paint) r).1 ≠ [] ∧ ∀ p ∈ (l.foldl (joinStep (T.getD (n - 107) []) paint) r).2,p ≠ []:=by
  intro l
  induction l with
  | nil=>intro r h1 h2 _; exact ⟨h1,h2⟩
  | cons a l ih=>
   intro r h1 h2 h3
   rw [List.foldl_cons]
   refine ih _ ?_ ?_ fun p hp=>h3 p (.tail _ hp)
   ·unfold joinStep; split
    ·simp [h1]
    ·exact h1
   ·unfold joinStep; split
    ·exact h2
    ·intro p hp
     rcases mema hp with hp | hp
     ·exact h2 p hp
     ·rw [mem1 hp]; exact h3 a (.head _)
 have:=key ps ([n],[]) (by simp) (fun p hp=>by cases hp) h
 intro p hp
 unfold partStep at hp
 rcases mema hp with hp | hp
 ·exact this.2 p hp
 ·rw [mem1 hp]; exact this.1
theorem ne_parts {T:List (List Int)} {paint:Int} (ms:List Nat) : ∀ ps : List (List Nat),(∀ p ∈ ps,p ≠ []) → ∀ p ∈ ms.foldl (partStep T paint) ps,p ≠ []:=by
 induction ms with
 | nil=>intro ps h; exact h
 | cons m ms ih=>intro ps h; rw [List.foldl_cons]; exact ih _ (ne_part h)
theorem mem_len_sum : ∀ {ps:List (List Nat)} {p:List Nat},p ∈ ps → p.length ≤ (ps.map List.length).sum
 | q :: ps,p,h=>by
  rw [List.map_cons,List.sum_cons]
  rcases memc h with rfl | h
  ·exact Nat.le_add_right _ _
  ·exact Nat.le_trans (mem_len_sum h) (Nat.le_add_left _ _)
theorem parts_le {T:List (List Int)} {ms:List Nat} {paint:Int} : (partsF T ms paint).length ≤ ms.length:=by
 have:=len_parts T paint ms []
 rw [List.length_nil,Nat.zero_add] at this
 exact this
theorem pushesP_ok {T:List (List Int)} {t p:Nat} {e:Ent} (he:e.2 = [] ∨ EntOk t e) : ∀ x ∈ pushesP e.1 p (partsF T e.2 (p:Int)),EntOk (t + 1) x:=by
 intro x hx
 unfold pushesP at hx
 split at hx
 ·rename_i h1
  rcases he with he | he
  ·rw [he] at h1; exact absurd h1 (Nat.not_lt_zero 1 |> fun ζ=>fun q=>by w_dflts q)
  ·obtain ⟨⟨q,i⟩,hq,rfl⟩:=memm hx
   have hq' : q ∈ partsF T e.2 (p:Int):=List.fst_mem_of_mem_zipIdx hq
   refine ⟨ne_parts e.2 [] (fun ζ h=>by cases h) q hq',fun n hn=>pt_parts T (p:Int) e.2 [] he.pt (fun ζ h=>by cases h) q hq' n hn,?_,?_⟩
   ·have h2:=mem_len_sum hq'
    have h3:=sum_parts T (p:Int) e.2 []
    rw [List.map_nil,List.sum_nil,Nat.zero_add] at h3
    exact Nat.le_trans (Nat.le_trans h2 (Nat.le_of_eq h3)) he.len
   ·show e.1.length + 3 ≤ _
    have:=he.dom
    w_left
 ·w_dflts hx
theorem pushesP_len {T:List (List Int)} {p:Nat} {e:Ent} (hl:e.2.length ≤ 5) : (pushesP e.1 p (partsF T e.2 (p:Int))).length ≤ 5:=by
 unfold pushesP
 split
 ·rw [List.length_map,List.length_zipIdx]; exact Nat.le_trans parts_le hl
 ·exact Nat.zero_le _
theorem pushesTo_ok {T:List (List Int)} {t:Nat} {e:Ent} (he:e.2 = [] ∨ EntOk t e) : ∀ p,∀ x ∈ pushesTo T e p,EntOk (t + 1) x
 | 0,x,hx=>by w_dflts hx
 | p + 1,x,hx=>by
  rcases mema hx with hx | hx
  ·exact pushesTo_ok he p x hx
  ·exact pushesP_ok he x hx
theorem pushesTo_len {T:List (List Int)} {e:Ent} (hl:e.2.length ≤ 5) : ∀ p,(pushesTo T e p).length ≤ 5 * p
 | 0=>Nat.zero_le _
 | p + 1=>by
  have h1:=pushesTo_len (T:=T) hl p
  have h2:=pushesP_len (T:=T) (p:=p) hl
  show (pushesTo T e p ++ pushesP e.1 p (partsF T e.2 (p:Int))).length ≤ _
  rw [List.length_append]
  w_left
theorem topE_ok {t:Nat} {pile:List Ent} (h:∀ e ∈ pile,EntOk t e) : ((topE pile) = ([],[]) ∧ pile = []) ∨ EntOk t (topE pile):=by
 rcases List.eq_nil_or_concat pile with rfl | ⟨us,u,rfl⟩
 ·exact .inl ⟨rfl,rfl⟩
 ·refine .inr (h _ ?_)
  unfold topE
  rw [List.concat_eq_append]
  simp
structure PileOk (t:Nat) (st:List Ent × List (Str × V)) : Prop where
 each : ∀ e ∈ st.1,EntOk t e
 len : st.1.length ≤ 1 + 15 * t
 hosts : st.2.length ≤ t
theorem PileOk.turn {T:List (List Int)} {t:Nat} {st:List Ent × List (Str × V)} (h:PileOk t st) : PileOk (t + 1) (turnF T st):=by
 have ht:=topE_ok h.each
 have he : (topE st.1).2 = [] ∨ EntOk t (topE st.1):=ht.imp (fun q=>by rw [q.1]) id
 have hl : (topE st.1).2.length ≤ 5:=he.elim (fun q=>by rw [q]; exact Nat.zero_le _) (·.len)
 refine ⟨fun e hm=>?_,?_,?_⟩
 ·rcases mema hm with hm | hm
  ·have:=h.each e (List.dropLast_subset _ hm)
   exact ⟨this.ne,this.pt,this.len,Nat.le_trans this.dom (by w_left)⟩
  ·exact pushesTo_ok he 3 e hm
 ·show (st.1.dropLast ++ pushesTo T (topE st.1) 3).length ≤ _
  have h1:=pushesTo_len (T:=T) hl 3
  have h2:=h.len
  rw [List.length_append,List.length_dropLast]
  exact Nat.le_trans (Nat.add_le_add (Nat.sub_le _ _) h1) (Nat.le_trans (Nat.add_le_add_right h2 _) (by rw [Nat.mul_succ,Nat.add_assoc]; exact Nat.le_refl _))
 ·show (hostD (topE st.1) st.2).length ≤ _
  unfold hostD
  have h2:=h.hosts
  split
  ·exact Nat.le_trans (putD_len _ _ _) (Nat.succ_le_succ h2)
  ·exact Nat.le_succ_of_le h2
theorem hostsN_ok (T:List (List Int)) : ∀ n,PileOk n (hostsN T n)
 | 0=>⟨fun e he=>by
   rw [mem1 he]
   exact ⟨by decide,fun n hn=>by unfold isPt; revert n; decide,by decide,by decide⟩,Nat.le_refl 1,Nat.le_refl 0⟩
 | n + 1=>(hostsN_ok T n).turn
end Mine.Internal
end
section
namespace Mine.Internal
structure Pm (m:List (Addr × MO)) (A d An H:Addr) (pile:List Ent) (n:Nat) (kvs:List (Str × V)) : Prop where
 a : m.lookup A = some (.acc d (pile.map entV))
 dd : m.lookup d = some (.dict [(isV,.int 0)])
 an : m.lookup An = some (.list (List.replicate n .none))
 h : m.lookup H = some (.dict kvs)
 ne : H ≠ d
theorem Pm.setA {m:List (Addr × MO)} {A d An H:Addr} {pile:List Ent} {n:Nat} {kvs:List (Str × V)} (p:Pm m A d An H pile n kvs) {pile':List Ent} {vs:List V} (e:vs = pile'.map entV) : Pm (updM m A (.acc d vs)) A d An H pile' n kvs:=
 ⟨by rw [lookup_upd_self p.a,e],(lookup_upd_ne (ne_of_lookup p.dd p.a nofun)).trans p.dd,(lookup_upd_ne (ne_of_lookup p.an p.a nofun)).trans p.an,(lookup_upd_ne (ne_of_lookup p.h p.a nofun)).trans p.h,p.ne⟩
theorem Pm.setN {m:List (Addr × MO)} {A d An H:Addr} {pile:List Ent} {n:Nat} {kvs:List (Str × V)} (p:Pm m A d An H pile n kvs) : Pm (updM m An (.list (List.replicate n .none ++ [.none]))) A d An H pile (n + 1) kvs:=
 ⟨(lookup_upd_ne (ne_of_lookup p.a p.an nofun)).trans p.a,(lookup_upd_ne (ne_of_lookup p.dd p.an nofun)).trans p.dd,by rw [lookup_upd_self p.an,List.replicate_succ'],(lookup_upd_ne (ne_of_lookup p.h p.an nofun)).trans p.h,p.ne⟩
theorem Pm.setH {m:List (Addr × MO)} {A d An H:Addr} {pile:List Ent} {n:Nat} {kvs:List (Str × V)} (p:Pm m A d An H pile n kvs) (kvs':List (Str × V)) : Pm (updM m H (.dict kvs')) A d An H pile n kvs':=
 ⟨(lookup_upd_ne (ne_of_lookup p.a p.h nofun)).trans p.a,(lookup_upd_ne (Ne.symm p.ne)).trans p.dd,(lookup_upd_ne (ne_of_lookup p.an p.h nofun)).trans p.an,lookup_upd_self p.h,p.ne⟩
theorem lsize {n m:Nat} (h:n ≤ m) (hm:m ≤ 10000) : n ≤ sizeLine:=Nat.le_trans h (Nat.le_trans hm (by decide))
theorem rgb_at {p:Nat} (h:p < 3) : (seqIndex? (p:Int) ("rgb":Str).length).bind (("rgb":Str).cps[·]?) = some (rgbC p):=
 lt_cases3 (P:=fun p=>(seqIndex? (p:Int) ("rgb":Str).length).bind (("rgb":Str).cps[·]?) = some (rgbC p)) rfl rfl rfl p h
theorem vz_at {p:Nat} (h:p < 5) : (seqIndex? (p:Int) ("vwxyz":Str).length).bind (("vwxyz":Str).cps[·]?) = some (118 + p):=
 lt_cases5 (P:=fun p=>(seqIndex? (p:Int) ("vwxyz":Str).length).bind (("vwxyz":Str).cps[·]?) = some (118 + p)) rfl rfl rfl rfl rfl p h
theorem small63 {p:Nat} (h:p < 1000) : (decide ((p:Int) < -(2 ^ 63:Int)) || decide ((p:Int) ≥ 2 ^ 63)) = false:=by
 have h1 : ¬ ((p:Int) < -(2 ^ 63:Int)):=by w_left
 have h2 : ¬ ((p:Int) ≥ 2 ^ 63):=by w_left
 rw [decide_eq_false h1,decide_eq_false h2]; rfl
section
variable {w:World} {S0:Shared} {k:Nat} {gen:Bool}
theorem op_eq_str {a b:Str} : OP2 w S0 k (compareOp .Eq) (.str a) (.str b) (.bool (a == b)):=fun ms A s x y f g hx hy=>by
 w_dflts hx; w_dflts hy; exact P.eq_str ⟨by rw [show (a.cps.toList == b.cps.toList) = (a == b) from SeqAt.str_beq _ _]; exact .bool _,krefl _⟩
theorem op_ne_self {a:Int} : OP2 w S0 k (compareOp .NotEq) (.int a) (.int a) (.bool false):=by
 have:=op_ne (w:=w) (S0:=S0) (k:=k) (a:=a) (b:=a)
 rwa [bne_self_eq_false] at this
theorem ev_cat {c:Cx} {σ:St} {e1 e2:Expr} {pos:Pos} {a b:List Nat} (h1:EV c k σ e1 (.str (wrd a))) (h2:EV c k σ e2 (.str (wrd b))) (h:a.length + b.length ≤ 10000) : EV c k σ (.BinOp e1 .Add e2 pos) (.str (wrd (a ++ b))):=
 (EV.bin h1 h2 (op_addS (by rw [wrd_len,wrd_len]; exact lsize h (Nat.le_refl _)))).eq (congrArg V.str (wrd_app a b))
theorem ev_chr {c:Cx} {σ:St} {e i:Expr} {pos:Pos} {x:Str} {n:Nat} {cc:Nat} (he:EV c k σ e (.str x)) (hi:EV c k σ i (.int (n:Int))) (hn:n < 1000) (hc:(seqIndex? (n:Int) x.length).bind (x.cps[·]?) = some cc) : EV c k σ (.Subscript e i pos) (.str (wrd [cc])):=
 EV.sub he rfl ⟨_,PySem.F.slot_str_getitem.lookup⟩ hi (op_itemS (small63 hn) hc)
theorem max0 (n:Nat) : max 0 ((n:Int) - 1) = ((n - 1:Nat) : Int):=by w_left
noncomputable def hostL (A An H:Addr) (T:List (List Int)) (n:Nat) (r:List (Str × V)) : List (Str × V):=("pile",.mob A) :: ("answers",.mob An) :: ("hosts",.mob H) :: ("held",.int (n:Int)) :: ("table",tabV T) :: r
inductive PmB (A d An H:Addr) (pile:List Ent) (b:Nat) (kvs:List (Str × V)) (m:List (Addr × MO)) : Prop
 | mk (n:Nat) (p:Pm m A d An H pile n kvs) (h:n ≤ b) : PmB A d An H pile b kvs m
theorem rng_at {n:Nat} {i:Nat} {v:V} (h:(rngV 0 1 n)[i]? = some v) : i < n ∧ v = .int (i:Int):=by
 have hi : i < n:=by
  have:=(List.getElem?_eq_some_iff.mp h).1
  simpa [rngV] using this
 have:=rngV_get (a:=0) (c:=1) (n:=n) (i:=i) (by simpa [rngV] using hi)
 rw [this] at h
 refine ⟨hi,?_⟩
 cases h
 exact congrArg V.int (by w_left)
theorem pop_pile {A d An H:Addr} {st:List Ent} {m mu':List (Addr × MO)} {n:Nat} {kvs:List (Str × V)} {v:V} (pm:Pm m A d An H st n kvs)
  (h:(st.map entV = [] ∧ v = .tup [.str "",.str ""] ∧ mu' = m) ∨ (∃ us u,st.map entV = us ++ [u] ∧ v = u ∧ mu' = updM m A (.acc d us))) : v = entV (topE st) ∧ Pm mu' A d An H st.dropLast n kvs:=by
 rcases h with ⟨e1,e2,e3⟩ | ⟨us,u,e1,e2,e3⟩
 ·have e : st = []:=List.map_eq_nil_iff.mp e1
  subst e
  rw [e2,e3]
  exact ⟨rfl,pm⟩
 ·rcases List.eq_nil_or_concat st with e | ⟨ps,p,e⟩
  ·rw [e] at e1
   exact absurd e1 (by simp)
  ·rw [List.concat_eq_append] at e
   subst e
   rw [List.map_append] at e1
   obtain ⟨e4,e5⟩:=List.append_inj' e1 rfl
   have e6 : entV p = u:=(List.cons.inj e5).1
   rw [e2,← e6,e3,List.dropLast_concat]
   refine ⟨?_,pm.setA e4.symm⟩
   unfold topE
   rw [List.getLastD_concat]
set_option maxHeartbeats 8000000 in
theorem hosts_raw {T:List (List Int)} (hT:TabOk T) : FNM w S0 (k + 3) gen (fun xs=>call (.ref 289) xs) [tabV T] [] (fun v mu'=>∃ H An n,v = .tup [.mob H,.mob An] ∧ mu'.lookup H = some (.dict (hostsN T 9).2) ∧ mu'.lookup An = some (.list (List.replicate n .none)) ∧ n ≤ 136):=by
 refine FNM.intro (ns:=["table"]) (K1_of (by rfl) (by rfl)) (by kernel_rfl) (args1 fun ζ=>rfl) (by rfl) (by decide) (by decide) rfl rfl (by cases gen <;> rfl) (fun X=>?_)
 ·refine EXs.assignM (EM.callE (EV.glob (v:=.ref 235) (by kernel_rfl) (by rfl)) (.top (by kernel_rfl)) (EML.of EVL.nil (FNM.weaken (acc_new_ok (k:=k) (.inr rfl)) fun v mu' w0=>?_)) (hs:=by cases gen <;> rfl)) (.inl (by rfl))
  obtain ⟨A,d,e1,e2,hA,hd,hAd⟩:=w0
  subst e1
  have a0 : mu'.lookup A = some (.acc d []):=by rw [e2]; exact lk_head
  have d0 : mu'.lookup d = some (.dict [(isV,.int 0)]):=by rw [e2]; exact (lk_tail (Ne.symm hAd)).trans lk_head
  clear e2
  refine EXs.assignM (EM.newListOf (EML.one (EM.methA (a:=A) (d:=d) (f:=179) (vs:=[.str "local",.str "klmno"]) (EV.name (by rfl)) a0 d0 (by rfl) (EVL.ev (by rfl)) (push_ok a0 d0 (by rfl) (Nat.zero_le _)) (fun v mu2 w0=>?_) (find179 w) (by kernel_rfl) (by kernel_rfl) (hs:=by cases gen <;> rfl)))) (.inl (by rfl))
  obtain ⟨e1,e2⟩:=w0
  subst e1
  have a1 : mu2.lookup A = some (.acc d ((hostsN T 0).1.map entV)):=by rw [e2,lookup_upd_self a0]; rfl
  have d1 : mu2.lookup d = some (.dict [(isV,.int 0)]):=by rw [e2]; exact (lookup_upd_ne (Ne.symm hAd)).trans d0
  clear e2
  refine ⟨by decide,fun An hAn=>?_⟩
  have nz : ∀ {b:Addr} {o:MO},mu2.lookup b = some o → b ≠ An:=fun hb q=>hAn (q ▸ lookup_adr hb)
  have a2:=(lk_tail (o:=.list [V.none]) (nz a1)).trans a1
  have d2:=(lk_tail (o:=.list [V.none]) (nz d1)).trans d1
  have n2 : List.lookup An ((An,MO.list [V.none]) :: mu2) = some (.list (List.replicate 1 .none)):=lk_head
  show EXs _ _ (St.set ⟨_,(An,MO.list [V.none]) :: mu2⟩ _ _) _ _
  generalize ((An,MO.list [V.none]) :: mu2) = m2 at *
  refine EXs.assignM (EM.newDict fun H hH=>?_) (.inl (by rfl))
  have hH' : H ∉ adr m2:=hH
  have nz2 : ∀ {b:Addr} {o:MO},m2.lookup b = some o → b ≠ H:=fun hb q=>hH' (q ▸ lookup_adr hb)
  have p0 : Pm ((H,MO.dict []) :: m2) A d An H (hostsN T 0).1 1 (hostsN T 0).2:=⟨(lk_tail (nz2 a2)).trans a2,(lk_tail (nz2 d2)).trans d2,(lk_tail (nz2 n2)).trans n2,lk_head,(nz2 d2).symm⟩
  show EXs _ _ (St.set ⟨_,(H,MO.dict []) :: m2⟩ _ _) _ _
  generalize ((H,MO.dict []) :: m2) = m3 at *
  refine EXs.assign (v:=.int 1) EV.int (.inl (by rfl)) ?_
  refine EXs.norm (l':=hostL A An H T ((hostsN T 0).1.length) []) (.ev rfl) ?_
  refine EXs.forA (fun i=>hostL A An H T (hostsN T i).1.length []) (fun i=>PmB A d An H (hostsN T i).1 (1 + 15 * i) (hostsN T i).2)
   (.range (vs:=[.int 9]) (n:=9) (EV.boot (by kernel_rfl) (by rfl) (by rfl)) (EVL.ev (by rfl)) (fun ms s A xs Q h hQ=>range1 h hQ) (by decide) (by decide +kernel) (fun ζ ζ=>rfl) (by rfl) (by rfl)) rfl ⟨1,p0,Nat.le_refl _⟩ ?_ ?_
  ·intro i v m hv pm out1 Q1 hQ1
   obtain ⟨n,pm,hn⟩:=pm
   obtain ⟨hi,rfl⟩:=rng_at hv
   refine ⟨_,ASG.name (.inl (by rfl)),?_⟩
   show EXs _ _ _ _ _
   have ok:=hostsN_ok T i
   have hstep : hostsN T (i + 1) = turnF T (hostsN T i):=rfl
   rw [hstep] at hQ1
   generalize hostsN T i = st at *
   have hsz : (st.1.map entV).length < sizeLine:=by rw [List.length_map]; exact Nat.lt_of_le_of_lt ok.len (Nat.lt_of_lt_of_le (show 1 + 15 * i < 200 by w_left) (by decide))
   refine EXs.assignTM (EM.methA (a:=A) (d:=d) (f:=195) (vs:=[]) (EV.name (by rfl)) pm.a pm.dd (by rfl) EVL.nil (pop_ok pm.a pm.dd (by rfl) hsz) (fun v mu' hcase=>?_) (find195 w) (by kernel_rfl) (by kernel_rfl) (hs:=by cases gen <;> rfl))
   obtain ⟨ev,pm⟩:=pop_pile pm hcase
   subst ev
   clear hcase
   have hte:=topE_ok ok.each
   have he : (topE st.1).2 = [] ∨ EntOk i (topE st.1):=hte.imp (fun q=>by rw [q.1]) id
   have hld : st.1.dropLast.length = st.1.length - 1:=List.length_dropLast
   have hlen0:=ok.len
   have hk:=ok.hosts
   unfold turnF at hQ1
   generalize topE st.1 = e at *
   have hl5 : e.2.length ≤ 5:=he.elim (fun q=>by rw [q]; exact Nat.zero_le _) (·.len)
   have hd5 : e.1.length ≤ 5 + 3 * i:=hte.elim (fun q=>by rw [q.1]; exact Nat.zero_le _) (·.dom)
   refine ⟨_,ASG.utup (ns:=[("domain",_),("members",_)]) rfl (fun p hp=>.inl (by
    rcases memc hp with rfl | hp
    ·rfl
    ·rw [mem1 hp]; rfl)),?_⟩
   refine EXs.assign (v:=.int (st.1.dropLast.length:Nat)) (EV.eq (EV.callv (EV.boot (v:=.builtin "max") (by kernel_rfl) (by rfl) (by rfl)) (EVL.cons EV.int (EVL.cons (EV.bin (EV.name (v:=.int (st.1.length:Nat)) (by rfl)) EV.int op_sub) EVL.nil)) .builtin op_max2) ?_) (.inl (by rfl)) ?_
   ·rw [max0,hld]
   refine EXs.norm (l':=hostL A An H T (st.1.dropLast.length) [("domain",.str (wrd e.1)),("members",.str (wrd e.2))]) (.ev rfl) ?_
   obtain ⟨m4,em4⟩ : ∃ m4,m4 = if e.2.length = 1 then updM mu' H (.dict (hostD e st.2)) else mu':=⟨_,rfl⟩
   have pm4 : Pm m4 A d An H st.1.dropLast n (hostD e st.2):=by
    rw [em4]
    split
    ·exact pm.setH _
    ·rename_i q
     have : hostD e st.2 = st.2:=if_neg q
     rw [this]; exact pm
   refine EXs_iteJ (σ':=⟨hostL A An H T (st.1.dropLast.length) [("domain",.str (wrd e.1)),("members",.str (wrd e.2))],m4⟩) (b:=((e.2.length:Int) == 1)) (EVB.cmp (EV.eq (EV.callv (EV.boot (v:=.builtin "len") (by kernel_rfl) (by rfl) (by rfl)) (EVL.ev (by rfl)) .builtin (op_lenS (by rw [wrd_len]; w_left))) (by rw [wrd_len])) EV.int op_eq) (fun h=>?_) (fun h=>?_) ?_
   ·have h1 : e.2.length = 1:=by have:=eq_of_beq h; w_left
    refine EXs.mcons (EX.setItemD (v:=.str (wrd (e.2 ++ 46 :: e.1))) (EV.eq (ev_cat (a:=e.2 ++ [46]) (b:=e.1) (ev_cat (a:=e.2) (b:=[46]) (EV.name (by rfl)) EV.str (by rw [List.length_singleton]; w_left)) (EV.name (by rfl)) (by rw [List.length_append,List.length_singleton]; w_left)) (by rw [List.append_assoc]; rfl)) (EV.name (v:=.mob H) (by rfl)) (EV.name (v:=.str (wrd e.2)) (by rfl)) pm.h (lsize hk (by w_left)) ?_)
    refine EXs.nil ⟨rfl,?_,Sub.refl⟩
    show updM mu' H _ = m4
    rw [em4,if_pos h1]
    unfold hostD
    rw [if_pos h1]
   ·have h1 : e.2.length ≠ 1:=fun q=>by rw [q] at h; exact absurd h (by decide)
    exact EXs.nil ⟨rfl,by show mu' = m4; rw [em4,if_neg h1],Sub.refl⟩
   generalize hostD e st.2 = kv at *
   generalize st.1.dropLast = pl at *
   have hpl : pl.length ≤ 200:=by w_left
   clear em4 pm
   refine EXs.forA (fun p=>hostL A An H T (pl ++ pushesTo T e p).length [("domain",.str (wrd e.1)),("members",.str (wrd e.2))]) (fun p=>PmB A d An H (pl ++ pushesTo T e p) (n + 5 * p) kv)
    (.range (vs:=[.int 3]) (n:=3) (EV.boot (by kernel_rfl) (by rfl) (by rfl)) (EVL.ev (by rfl)) (fun ms s A xs Q h hQ=>range1 h hQ) (by decide) (by decide +kernel) (fun ζ ζ=>rfl) (by rfl) (by rfl)) (by rw [show pl ++ pushesTo T e 0 = pl from List.append_nil _]) ⟨n,by rw [show pl ++ pushesTo T e 0 = pl from List.append_nil _]; exact pm4,Nat.le_refl _⟩ ?_ ?_
   ·intro p v m hv pm out2 Q2 hQ2
    obtain ⟨n',pm,hn'⟩:=pm
    obtain ⟨hp,rfl⟩:=rng_at hv
    refine ⟨_,ASG.name (.inl (by rfl)),?_⟩
    show EXs _ _ _ _ _
    have hpt : ∀ x ∈ e.2,isPt x:=he.elim (fun q=>by rw [q]; intro x hx; w_dflts hx) (·.pt)
    refine EXs.assign (v:=partsV (partsF T e.2 (p:Int))) (EV.callv (vs:=[tabV T,.str (wrd e.2),.int (p:Int)]) (EV.glob (v:=.ref 282) (by kernel_rfl) (by rfl)) (EVL.ev (by rfl)) (.top (by kernel_rfl)) ((parts_ok T hT e.2 hpt hl5 (p:Int)).mono (Nat.le_succ _))) (.inl (by rfl)) ?_
    have hpe : pushesTo T e (p + 1) = pushesTo T e p ++ pushesP e.1 p (partsF T e.2 (p:Int)):=rfl
    have hps : (partsF T e.2 (p:Int)).length ≤ 5:=Nat.le_trans parts_le hl5
    have hpt':=pushesTo_len (T:=T) hl5 p
    rw [hpe,← List.append_assoc] at hQ2
    have hp1 : (pl ++ pushesTo T e p).length ≤ 230:=by rw [List.length_append]; w_left
    generalize pl ++ pushesTo T e p = p1 at *
    generalize partsF T e.2 (p:Int) = parts at *
    refine EXs.norm (l':=hostL A An H T (p1.length) [("domain",.str (wrd e.1)),("members",.str (wrd e.2)),("paint",.int (p:Int)),("parts",partsV parts)]) (.ev rfl) ?_
    refine EXs.ite (b:=decide ((parts.length:Int) > 1)) (EVB.cmp (EV.eq (EV.callv (EV.boot (v:=.builtin "len") (by kernel_rfl) (by rfl) (by rfl)) (EVL.ev (by rfl)) .builtin (op_lenL (by rw [List.length_map]; (first | lia | omega)))) (by rw [List.length_map])) EV.int op_gt) (fun h=>?_) (fun h=>?_)
    ·have h1 : 1 < parts.length:=by have:=of_decide_eq_true h; w_left
     have hpp : pushesP e.1 p parts = parts.zipIdx.map (fun x=>(labelD p x.2 e.1,x.1)):=if_pos h1
     have hppl : (pushesP e.1 p parts).length = parts.length:=by rw [hpp,List.length_map,List.length_zipIdx]
     refine EXs.assign (v:=.int ((p1 ++ pushesP e.1 p parts).length : Nat)) (EV.eq (EV.bin (EV.name (v:=.int (p1.length:Nat)) (by rfl)) (EV.eq (EV.callv (EV.boot (v:=.builtin "len") (by kernel_rfl) (by rfl) (by rfl)) (EVL.ev (by rfl)) .builtin (op_lenL (by rw [List.length_map]; (first | lia | omega)))) (by rw [List.length_map])) op_add) ?_) (.inl (by rfl)) ?_
     ·rw [List.length_append,hppl]; rfl
     refine EXs.norm (l':=hostL A An H T ((p1 ++ pushesP e.1 p parts).length) [("domain",.str (wrd e.1)),("members",.str (wrd e.2)),("paint",.int (p:Int)),("parts",partsV parts)]) (.ev rfl) ?_
     refine EXs.forA (vs:=enumV (parts.map fun q=>.str (wrd q))) (fun ζ=>hostL A An H T (p1 ++ pushesP e.1 p parts).length [("domain",.str (wrd e.1)),("members",.str (wrd e.2)),("paint",.int (p:Int)),("parts",partsV parts)]) (fun j=>PmB A d An H (p1 ++ (pushesP e.1 p parts).take j) (n' + j) kv) (SRC.enum (EV.boot (by kernel_rfl) (by rfl) (by rfl)) (EVL.ev (by rfl)) (by rfl) (by rfl)) rfl ⟨n',by rw [List.take_zero,List.append_nil]; exact pm,Nat.le_refl _⟩ ?_ ?_
     ·clear pm
      intro j v m hv pm out3 Q3 hQ3
      obtain ⟨n'',pm,hn''⟩:=pm
      have hj : j < parts.length:=by
       have:=(List.getElem?_eq_some_iff.mp hv).1
       rwa [enumV_len,List.length_map] at this
      obtain ⟨part,hpart⟩ : ∃ part,parts[j]? = some part:=⟨_,List.getElem?_eq_getElem hj⟩
      have hv2:=enumV_get (vs:=parts.map fun q=>V.str (wrd q)) (i:=j) (v:=.str (wrd part)) (by rw [List.getElem?_map,hpart]; rfl)
      rw [hv2] at hv
      w_dflts hv
      have htake : (pushesP e.1 p parts).take (j + 1) = (pushesP e.1 p parts).take j ++ [(labelD p j e.1,part)]:=by
       rw [List.take_add_one,hpp,List.getElem?_map,List.getElem?_zipIdx,hpart]
       simp
      have hl1 : (p1 ++ (pushesP e.1 p parts).take j).length ≤ 240:=by rw [List.length_append,List.length_take]; w_left
      refine ⟨_,ASG.utup (ns:=[("number",_),("part",_)]) rfl (fun p hp=>.inl (by
       rcases memc hp with rfl | hp
       ·rfl
       ·rw [mem1 hp]; rfl)),?_⟩
      rw [htake,← List.append_assoc] at hQ3
      generalize p1 ++ (pushesP e.1 p parts).take j = p2 at *
      refine EXs.exprM (EM.appendE (a:=An) (EV.name (by rfl)) ⟨_,pm.an⟩ (EM.methA (a:=A) (d:=d) (f:=179) (vs:=[.str (wrd (labelD p j e.1)),.str (wrd part)]) (EV.name (by rfl)) pm.a pm.dd (by rfl) (EVL.cons ?_ (EVL.ev (by rfl))) (push_ok pm.a pm.dd (by rfl) (by rw [List.length_map]; exact lsize hl1 (by decide))) (fun v mu' ⟨e1,e2⟩=>?_) (find179 w) (by kernel_rfl) (by kernel_rfl) (hs:=by cases gen <;> rfl)))
      ·exact EV.eq (ev_cat (a:=[rgbC p] ++ [118 + j] ++ [46]) (b:=e.1) (ev_cat (a:=[rgbC p] ++ [118 + j]) (b:=[46]) (ev_cat (a:=[rgbC p]) (b:=[118 + j]) (ev_chr EV.str (EV.name (by rfl)) (by w_left) (rgb_at hp)) (ev_chr EV.str (EV.name (by rfl)) (by w_left) (vz_at (by w_left))) (by simp)) EV.str (by simp)) (EV.name (by rfl)) (by simp; w_left)) rfl
      have pm':=pm.setA (pile':=p2 ++ [(labelD p j e.1,part)]) (vs:=p2.map entV ++ [.tup [.str (wrd (labelD p j e.1)),.str (wrd part)]]) (by rw [List.map_append]; rfl)
      refine ⟨List.replicate n'' .none,by rw [e2]; exact pm'.an,by rw [List.length_replicate]; exact lsize (show n'' ≤ 1000 by w_left) (by decide),?_⟩
      refine EXs.norm (l':=hostL A An H T ((p1 ++ pushesP e.1 p parts).length) [("domain",.str (wrd e.1)),("members",.str (wrd e.2)),("paint",.int (p:Int)),("parts",partsV parts)]) (.ev rfl) (EXs.nil ?_)
      refine hQ3 _ ⟨n'' + 1,?_,by w_left⟩
      show Pm (updM mu' An (.list (List.replicate n'' .none ++ [v]))) A d An H _ _ kv
      rw [e1,e2]
      exact pm'.setN
     ·intro m pm
      obtain ⟨n'',pm,hn''⟩:=pm
      rw [enumV_len,List.length_map] at pm hn''
      rw [List.take_of_length_le (Nat.le_of_eq hppl)] at pm
      refine EXs.done (EXs.norm (l':=hostL A An H T ((p1 ++ pushesP e.1 p parts).length) [("domain",.str (wrd e.1)),("members",.str (wrd e.2))]) (.ev rfl) (EXs.nil ?_))
      exact hQ2 _ ⟨n'',pm,by w_left⟩
    ·have h1 : ¬ 1 < parts.length:=by have:=of_decide_eq_false h; w_left
     have hpp : pushesP e.1 p parts = []:=if_neg h1
     rw [hpp,List.append_nil] at hQ2
     refine EXs.done (EXs.norm (l':=hostL A An H T (p1.length) [("domain",.str (wrd e.1)),("members",.str (wrd e.2))]) (.ev rfl) (EXs.nil ?_))
     exact hQ2 _ ⟨n',pm,by w_left⟩
   ·intro m pm
    obtain ⟨n',pm,hn'⟩:=pm
    have hlen : (rngV 0 1 3).length = 3:=by simp [rngV]
    rw [hlen] at pm hn' ⊢
    have hp3:=pushesTo_len (T:=T) hl5 3
    have hp1 : (pl ++ pushesTo T e 3).length ≤ 230:=by rw [List.length_append]; w_left
    generalize pl ++ pushesTo T e 3 = p3 at *
    refine EXs.cons (EX.iteM (EMB.or2 (EMB.cmp (EM.methA (a:=A) (d:=d) (f:=232) (vs:=[]) (EV.name (by rfl)) pm.a pm.dd (by rfl) EVL.nil (part_count_ok pm.a pm.dd) (fun v mu' ⟨e1,e2⟩=>⟨.int (p3.length:Nat),false,EV.name (by rfl),by rw [e1,List.length_map]; exact op_ne_self,?_⟩) (find232 w) (by kernel_rfl) (by kernel_rfl) (hs:=by cases gen <;> rfl)))))
    refine EMB.of (b:=false) (EVB.and2 (a:=wrd e.2 == "") (EVB.cmp (EV.name (v:=.str (wrd e.2)) (by rfl)) EV.str op_eq_str) (fun h=>?_) (fun ζ=>rfl)) ?_
    ·have h0 : e.2 = []:=by
      have h1 : wrd e.2 = wrd []:=(eq_of_beq h).trans empty_wrd
      exact wrd_inj h1
     have h1 : e.1 = []:=hte.elim (fun q=>by rw [q.1]) (fun q=>absurd h0 q.ne)
     refine EVB.eq (b:=!(wrd e.1 == "")) (EVB.cmp (EV.name (v:=.str (wrd e.1)) (by rfl)) EV.str op_ne_str) ?_
     rw [h1]; rfl
    ·refine EXs.norm (l':=hostL A An H T (p3.length) []) (.ev rfl) (EXs.nil (EXs.nil ?_))
     exact hQ1 _ ⟨n',by rw [e2]; exact pm,by w_left⟩
  ·intro m pm
   obtain ⟨n,pm,hn⟩:=pm
   have hlen : (rngV 0 1 9).length = 9:=by simp [rngV]
   rw [hlen] at pm hn
   refine EXs.cons (EX.retM (EM.tuple (EML.of (EVL.ev (by rfl)) ⟨by show 2 ≤ sizeLine; decide,?_⟩)))
   exact ⟨H,An,n,rfl,pm.h,pm.an,hn⟩
end
end Mine.Internal
end
section
namespace Mine.Internal
noncomputable abbrev atT (S:Shared) (n:Nat) : Shared:={ S with toks:=n }
noncomputable def NoF (v:V) : Prop:=∀ S S' ms s x,VR S ms s v x → VR S' ms s v x
noncomputable def NoFs (vs:List V) : Prop:=∀ S S' ms s xs,VRs S ms s vs xs → VRs S' ms s vs xs
theorem NoF.none : NoF .none:=fun ζ ζ ζ ζ ζ h=>by cases h.inv; exact .none
theorem NoF.int (i:Int) : NoF (.int i):=fun ζ ζ ζ ζ ζ h=>by cases h.inv; exact .int _ _
theorem NoF.str (i:Str) : NoF (.str i):=fun ζ ζ ζ ζ ζ h=>by cases h.inv; exact .str _ _
theorem NoF.lst {vs:List V} (n:NoFs vs) : NoF (.lst vs):=fun ζ ζ ζ ζ ζ h=>by cases h.inv with | mk g m r=>exact .lst g m (n _ _ _ _ _ r)
theorem NoFs.nil : NoFs []:=fun ζ ζ ζ ζ ζ h=>by cases h; exact .nil
theorem NoFs.cons {v:V} {vs:List V} (a:NoF v) (b:NoFs vs) : NoFs (v :: vs):=fun ζ ζ ζ ζ ζ h=>by cases h with | cons p q=>exact .cons (a _ _ _ _ _ p) (b _ _ _ _ _ q)
theorem VR.late {S:Shared} {n:Nat} {ms:List Addr} {s:Shared} {v:V} {x:Value} (h:VR S ms s v x) (f:NoF v) : VR (atT S n) ms s v x:=f _ _ _ _ _ h
theorem VR.early {S:Shared} {n:Nat} (hn:S.toks ≤ n) {ms:List Addr} {s:Shared} {v:V} {x:Value} (h:VR (atT S n) ms s v x) : VR S ms s v x:=
 h.map (P:=fun ζ=>True) (Ps:=fun ζ=>True) ⟨fun ζ=>trivial,fun ζ=>trivial,fun ζ=>⟨trivial,trivial⟩,fun ζ h0 h1=>⟨Nat.le_trans hn h0,h1⟩⟩ (fun ζ ζ h ζ e=>⟨h,e⟩) trivial
theorem VRs.early {S:Shared} {n:Nat} (hn:S.toks ≤ n) {ms:List Addr} {s:Shared} {v:List V} {x:List Value} (h:VRs (atT S n) ms s v x) : VRs S ms s v x:=by
 induction v generalizing x with
 | nil=>cases h; exact .nil
 | cons a v ih=>cases h with | cons p q=>exact .cons (p.early hn) (ih q)
noncomputable abbrev Cx.late (c:Cx) (n:Nat) : Cx:={ c with S0:=atT c.S0 n }
theorem Base.at {w:World} {S:Shared} {n:Nat} (b:Base w S) : Base w (atT S n):=⟨b.X,b.tab,b.T,b.top⟩
theorem Base.un {w:World} {S:Shared} {n:Nat} (b:Base w (atT S n)) : Base w S:=⟨b.X,b.tab,b.T,b.top⟩
section
variable {w:World} {S0:Shared} {k:Nat} {c:Cx} {σ:St} {rest:List Stmt} {Q:AF → St → Prop}
theorem R.late {s:Shared} {n:Nat} (r:R c σ s) (hσ:σ.mu = []) (hno:∀ x v,σ.loc.lookup x = some v → NoF v) (hn:n ≤ s.toks) : R (c.late n) σ s:=by
 obtain ⟨m,hm,hv⟩:=r.vars
 exact ⟨⟨r.glob.base.at,r.glob.old,r.glob.st,r.glob.os,r.glob.bare,hn,r.glob.tab⟩,r.eok,⟨m,hm,fun x v e=>(hv x v e).keeps (fun ζ ζ e=>e) fun y hy=>hy.late (hno x v e)⟩,r.cells,r.apart,fun p hp=>(by rw [hσ] at hp; cases hp),r.nd,r.disj,r.live,r.lo,r.clo⟩
theorem DV.early {S:Shared} {n:Nat} (hn:S.toks ≤ n) {ms:List Addr} {s:Shared} {a:List (Str × V)} {b:List (Str × Value)} (h:DV (atT S n) ms s a b) : DV S ms s a b:=by
 induction h with
 | nil=>exact .nil
 | cons a _ ih=>exact .cons (a.early hn) ih
theorem MR.early {S:Shared} {n:Nat} (hn:S.toks ≤ n) {ms:List Addr} {s:Shared} {a:Addr} {o:MO} (r:MR w (atT S n) ms s a o) : MR w S ms s a o:=by
 cases o with
 | list vs=>obtain ⟨xs,m,g,r⟩:=r; exact ⟨xs,m,g,r.early hn⟩
 | dict kvs=>obtain ⟨kvals,g,r⟩:=r; exact ⟨kvals,g,r.early hn⟩
 | acc d vs=>obtain ⟨xs,m,g,r⟩:=r; exact ⟨xs,m,g,r.early hn⟩
 | inst c d=>exact r
theorem R.early {s:Shared} {n:Nat} (hn:c.S0.toks ≤ n) (r:R (c.late n) σ s) : R c σ s:=by
 obtain ⟨m,hm,hv⟩:=r.vars
 exact ⟨⟨r.glob.base.un,r.glob.old,r.glob.st,r.glob.os,r.glob.bare,Nat.le_trans hn r.glob.tok,r.glob.tab⟩,r.eok,⟨m,hm,fun x v e=>(hv x v e).keeps (fun ζ ζ e=>e) fun y hy=>hy.early hn⟩,r.cells,r.apart,fun p hp=>(r.mu p hp).early hn,r.nd,r.disj,r.live,r.lo,r.clo⟩
theorem EVB.neOld {l rr:Expr} {pos:Pos} {a b:V} {res:Bool} {l':List (Str × V)} (hσ:σ.mu = []) (h0:0 < c.S0.toks) (hl:EV c k σ l a) (hsub:Sub l' σ.loc) (hno:∀ x v,l'.lookup x = some v → NoF v)
  (hr:∀ n,EV (c.late n) k ⟨l',[]⟩ rr b)
  (hop:∀ {S' s s':Shared} {ms:List Addr} {x y:Value} {A:Around},A.units ≤ 9800 → Older true c.S0 s' S' s → VR c.S0 ms s' a x → VR S' ms s b y → SeqAt.RcNeAt A s x y res)
  (hm:behindInMarks .NotEq rr = false:=by rfl) : EVB c k σ (.Compare l [.NotEq] [rr] pos) res:=by
 intro A s f r
 refine wpAny_isTrue_Compare1 (WPmono (hl A s f r) fun x s₁ h=>?_) hm
 obtain ⟨hx,k₁⟩:=h
 have r₁:=r.keeps k₁
 have r₂ : R c ⟨l',[]⟩ s₁:=R.weak (σ:=σ) (σ':=⟨l',[]⟩) r₁ hσ.symm hsub
 have r₃:=r₂.late (n:=s₁.toks) rfl hno (Nat.le_refl _)
 refine WPmono (hr s₁.toks A s₁ f r₃) fun y s₂ h=>?_
 obtain ⟨hy,k₂⟩:=h
 have hx' : VR c.S0 (msOf c σ) (atT s₂ s₁.toks) a x:=VR.mono (s':=atT s₂ s₁.toks) (ms':=msOf c σ) (fun b o hb ζ e=>⟨hb,kget k₂ e⟩) (Nat.le_refl _) hx
 have hms : msOf (c.late s₁.toks) ⟨l',[]⟩ = msOf c σ:=by show (_ :: ([] : List (Addr × MO)).map _) ++ _ = (_ :: σ.mu.map _) ++ _; rw [hσ]
 rw [hms] at hy
 have:=hop (S':=atT c.S0 s₁.toks) (s:=s₂) (A:=A) (by have:=f.un; w_left) (s':=atT s₂ s₁.toks) ⟨rfl,fun ζ=>⟨Nat.le_refl _,h0⟩,((r₃.keeps k₂).glob).booked⟩ hx' hy
 exact this _ _ _ _ (wpAny_truthy_bool ⟨rfl,ktrans k₁ k₂⟩)
end
end Mine.Internal
end
section
namespace Mine.Internal
section
variable {w:World} {S0:Shared} {k:Nat} {c:Cx} {σ:St} {rest:List Stmt} {Q:AF → St → Prop}
theorem EXs.assignTok {x:Str} {xp pos bp p:Pos} {op:Operator} {l:Expr} {i:Int} {kk:Nat} {a v:V} (hσ:σ.mu = []) (hl:EV c k σ l a) (ho:OP2 c.w c.S0 k (binaryOp op) a (.int i) v) (hx:Stores c x) (hno:∀ y u,(σ.set x v).loc.lookup y = some u → NoF u)
  (hr:∀ n,0 < n → EXs (c.late n) k (σ.set x v) rest Q) (hs:swapsWith (.BinOp l op (.Constant (.int i) kk p) bp) (some (.Name x xp)) pos.line c.env = pure false:=by rfl) :
  EXs c k σ (.Assign [.Name x xp] (.BinOp l op (.Constant (.int i) kk p) bp) pos :: rest) Q:=by
 intro A s f r
 refine wpAny_execs_cons (wpAny_Assign_Name (wpAny_BinOp (WPmono (hl A s f r) fun y s₁ h=>?_)) hs)
 obtain ⟨hy,k₁⟩:=h
 refine wpAny_Constant_int ?_
 have k₂ : Kp s₁ { s₁ with toks:=s₁.toks + 1 }:=ktoks _
 have r₂:=(r.keeps k₁).keeps k₂
 refine WPmono (ho _ A _ y _ f r₂.gl (hy.keeps k₂) (.int i s₁.toks)) fun z s₃ h=>?_
 obtain ⟨hz,k₃⟩:=h
 have r₃:=r₂.keeps k₃
 have ht : 0 < s₃.toks:=Nat.lt_of_lt_of_le (Nat.succ_pos _) k₃.t
 refine WPmono (storeVar r₃ hz hx) fun ζ s₄ h=>?_
 obtain ⟨r₄,st₄⟩:=h
 have hn : max 1 c.S0.toks ≤ s₄.toks:=Nat.max_le.mpr ⟨Nat.le_trans ht st₄.toks,r₄.glob.tok⟩
 refine WPmono (hr (max 1 c.S0.toks) (Nat.lt_of_lt_of_le Nat.one_pos (Nat.le_max_left _ _)) A s₄ f (r₄.late hσ hno hn)) fun fl s₅ h=>?_
 obtain ⟨af,σ',hQ,r₅,hf,st₅⟩:=h
 have hf' : FR c.S0 (msOf c σ') s₅ af fl:=by
  cases af with
  | ret u=>cases fl with
   | ret z=>exact VR.early (Nat.le_max_right _ _) hf
   | _=>exact hf
  | _=>cases fl <;> exact hf
 exact ⟨af,σ',hQ,r₅.early (Nat.le_max_right _ _),hf',((Step.of_keeps (ktrans k₁ (ktrans k₂ k₃))).trans st₄).trans (show Step c (σ.set x v) s₄ σ' s₅ from ⟨st₅.kept,st₅.fresh,st₅.there,st₅.gens,st₅.drawn,st₅.toks⟩)⟩
theorem FNM.frozenH {gen:Bool} {t:List Value → Sem Value} {vs:List V} {P:List (Str × V) → List V → Prop} (h:FNM w S0 k gen t vs [] (fun v mu'=>∃ H a kvs us,v = .tup [.mob H,.mob a] ∧ mu'.lookup H = some (.dict kvs) ∧ mu'.lookup a = some (.list us) ∧ P kvs us)) :
  FNM w S0 k gen t vs [] (fun v mu'=>∃ H kvs us,mu' = [(H,.dict kvs)] ∧ v = .tup [.mob H,.lst us] ∧ P kvs us):=by
 intro ms A s xs f g hx
 refine WPmono (h ms A s xs f g hx) fun z s' q=>?_
 obtain ⟨v,mu',⟨H,a,kvs,us,e,hH,ha,hP⟩,g',hz,st⟩:=q
 subst e
 have hHm:=lookup_adr hH
 have up : Up (adr mu' ++ ms) (adr [(H,MO.dict kvs)] ++ ms) s' s':=fun b o hb ζ e=>⟨fun q=>hb ((mema q).elim (fun q=>memL _ (mem1 q ▸ hHm)) (memR _)),e⟩
 have haH : a ≠ H:=fun q=>by rw [q,hH] at ha; cases ha
 cases hz.inv with | @mk b ys n gb mb rb=>
 obtain ⟨y1,y2,ey,hy1,hy2⟩:=rb.two
 w_dflts hy1
 w_dflts hy2
 obtain ⟨lx,m,gl,rl⟩:=g'.muok _ (mem_of_lookupA ha)
 refine ⟨.tup [.mob H,.lst us],[(H,.dict kvs)],⟨H,kvs,us,rfl,rfl,hP⟩,⟨g'.glob,g'.live,fun p hp=>?_,ndk ⟨fun q=>(by w_dflts q),List.nodup_nil⟩,fun b hb=>?_,fun b hb=>?_⟩,?_,⟨st.kept,fun b hb=>?_,st.there,st.gens,st.drawn,st.toks⟩⟩
 ·rw [mem1 hp]
  exact (g'.muok _ (mem_of_lookupA hH)).mono up (Nat.le_refl _) fun ζ e=>e
 ·rw [mem1 hb]; exact g'.disj H hHm
 ·rw [mem1 hb]; exact g'.lo H hHm
 ·refine .tup gb (fun q=>mb ((mema q).elim (fun q=>memL _ (mem1 q ▸ hHm)) (memR _))) ?_
  rw [ey]
  refine .cons (.mob H) (.cons (.lst gl (fun q=>?_) (rl.mono up (Nat.le_refl _))) .nil)
  rcases mema q with q | q
  ·exact haH (mem1 q)
  ·exact g'.disj a (lookup_adr ha) q
 ·rw [mem1 hb]; exact st.fresh H hHm
theorem hosts_ok {gen:Bool} {T:List (List Int)} (hT:TabOk T) : FNM w S0 (k + 3) gen (fun xs=>call (.ref 289) xs) [tabV T] [] (fun v mu'=>∃ H n,mu' = [(H,.dict (hostsN T 9).2)] ∧ v = .tup [.mob H,.lst (List.replicate n .none)] ∧ n ≤ 136):=
 (FNM.frozenH (P:=fun kvs us=>kvs = (hostsN T 9).2 ∧ ∃ n,us = List.replicate n .none ∧ n ≤ 136) ((hosts_raw hT).weaken fun v mu' w0=>by
  obtain ⟨H,a,n,e,h1,h2,h3⟩:=w0
  exact ⟨H,a,_,_,e,h1,h2,rfl,n,rfl,h3⟩)).weaken
  fun v mu' w0=>by
   obtain ⟨H,kvs,us,e1,e2,e3,n,e4,e5⟩:=w0
   exact ⟨H,n,by rw [e1,e3],by rw [e2,e4],e5⟩
end
noncomputable def eqvA : V → V → Option Bool
 | .int x,.int y=>some (x == y)
 | .flt x,.flt y=>if x == y && Float64.cmp x y != some Ordering.eq then none else some (Float64.cmp x y == some Ordering.eq)
 | .flt x,.int y=>some (Float64.cmpInt x y == some Ordering.eq)
 | _,_=>none
noncomputable def eqvT : List V → List V → Option Bool
 | [],[]=>some true
 | x :: xs,y :: ys=>match eqvA x y,eqvT xs ys with
  | some p,some q=>some (p && q)
  | _,_=>none
 | _,_=>none
theorem eqvA_ok {a b:V} {r:Bool} (h:eqvA a b = some r) (n:Nat) : Eqv true n a b r:=by
 unfold eqvA at h
 split at h
 ·cases h; exact .int n _ _
 ·rename_i x y
  split at h
  ·cases h
  ·rename_i hc
   cases h
   refine .flt n x y rfl fun e=>?_
   subst e
   rw [beq_self_eq_true,Bool.true_and] at hc
   cases hq : (Float64.cmp x x == some Ordering.eq) with
   | true=>rfl
   | false=>exact absurd (by rw [bne,hq]; rfl) hc
 ·cases h; exact .flt_int n _ _
 ·cases h
theorem eqvT_ok (n:Nat) : ∀ {a b:List V} {r:Bool},eqvT a b = some r → Eqvs true n a b r
 | [],[],r,h=>by cases h; exact .nil n
 | x :: xs,y :: ys,r,h=>by
  unfold eqvT at h
  split at h
  ·rename_i p q h1 h2
   cases h
   exact .cons (eqvA_ok h1 n) (eqvT_ok n h2)
  ·cases h
 | [],_ :: _,_,h=>by cases h
 | _ :: _,[],_,h=>by cases h
noncomputable def itemsV : V → List V
 | .tup vs=>vs
 | _=>[]
section
variable {w:World} {S0:Shared} {k:Nat} {c:Cx} {σ:St}
theorem EVB.neTup {l rr:Expr} {pos:Pos} {a b:List V} {r:Bool} {l':List (Str × V)} (hσ:σ.mu = []) (h0:0 < c.S0.toks) (hl:EV c k σ l (.tup a)) (hsub:Sub l' σ.loc) (hno:∀ x v,l'.lookup x = some v → NoF v)
  (hr:∀ n,EV (c.late n) k ⟨l',[]⟩ rr (.tup b)) (he:eqvT a b = some r) (hm:behindInMarks .NotEq rr = false:=by rfl) : EVB c k σ (.Compare l [.NotEq] [rr] pos) (!r):=
 EVB.neOld hσ h0 hl hsub hno hr (fun hu O hx hy=>rcne_tup O (n:=0) (by unfold cLine; w_left) (eqvT_ok 0 he) hx hy) hm
theorem EVB.neLst {l rr:Expr} {pos:Pos} {a b:List V} {r:Bool} {l':List (Str × V)} (hσ:σ.mu = []) (h0:0 < c.S0.toks) (hl:EV c k σ l (.lst a)) (hsub:Sub l' σ.loc) (hno:∀ x v,l'.lookup x = some v → NoF v)
  (hr:∀ n,EV (c.late n) k ⟨l',[]⟩ rr (.lst b)) (he:Eqvs true 1 a b r) (hm:behindInMarks .NotEq rr = false:=by rfl) : EVB c k σ (.Compare l [.NotEq] [rr] pos) (!r):=
 EVB.neOld hσ h0 hl hsub hno hr (fun hu O hx hy=>rcne_lst O (n:=1) (by unfold cLine; w_left) he hx hy) hm
end
end Mine.Internal
end
section
namespace Mine.Internal
noncomputable def V.toI : V → Int
 | .int i=>i
 | _=>0
noncomputable def V.toS : V → Str
 | .str s=>s
 | _=>""
noncomputable def V.ints : V → List Int
 | .lst vs=>vs.map V.toI
 | .tup vs=>vs.map V.toI
 | _=>[]
theorem ints_map (xs:List Int) : (V.lst (xs.map V.int)).ints = xs:=by
 show (xs.map V.int).map V.toI = xs
 rw [List.map_map]
 exact (List.map_congr_left fun ζ ζ=>rfl).trans (List.map_id xs)
theorem fm_filter {α β:Type} (p:α → Bool) (f:α → β) : ∀ l : List α,l.filterMap (fun u=>if p u then some (f u) else none) = (l.filter p).map f
 | []=>rfl
 | a :: l=>by
  have ih:=fm_filter p f l
  rw [List.filter_cons]
  cases h : p a with
  | true=>rw [List.filterMap_cons_some (by rw [h]; rfl),if_pos rfl,List.map_cons,ih]
  | false=>rw [List.filterMap_cons_none (by rw [h]; rfl),if_neg (by decide),ih]
section
variable {w:World} {S0:Shared} {k:Nat} {c:Cx} {σ:St}
theorem EV.compN {elt iter:Expr} {x:Str} {xp:Pos} {scope:Scope} {pos:Pos} {cl:List (Str × Addr)} {cap:List (Str × V)} {vs:List V} (f:V → V)
  (hc:Cap3 c σ scope Option.none cl cap) (hsrc:SRC c k σ iter (.Name x xp) vs) (kx:(relabel scope c.env).names.lookup x = some .local) (hx:cap.lookup x = Option.none)
  (elts:∀ u ∈ vs,∀ L out,EV (cx3 c scope cl L out) k ⟨(x,u) :: cap,σ.mu⟩ elt (f u)) (hsz:vs.length ≤ sizeLine)
  (hs:∀ x,foldedSetIterable iter c.env x = pure x:=by intro _; rfl) : EV c k σ (.ListComp elt [⟨.Name x xp,iter,[],0⟩] scope pos) (.lst (vs.map f)):=by
 refine (EV.comp (f:=fun u=>some (f u)) hc hsrc (fun u hu L=>⟨(x,u) :: cap,Sub.set Sub.refl hx,fun ζ ζ=>ASGL.name kx,fun ζ=>EVT.nil,fun v hv out=>?_⟩) hsz hs).eq ?_
 ·w_dflts hv; exact elts u hu L out
 ·rw [List.filterMap_eq_map']
theorem EV.compF {elt iter t:Expr} {x:Str} {xp:Pos} {scope:Scope} {pos:Pos} {cl:List (Str × Addr)} {cap:List (Str × V)} {vs:List V} (p:V → Bool) (f:V → V)
  (hc:Cap3 c σ scope Option.none cl cap) (hsrc:SRC c k σ iter (.Name x xp) vs) (kx:(relabel scope c.env).names.lookup x = some .local) (hx:cap.lookup x = Option.none)
  (tst:∀ u ∈ vs,∀ L out,EVB (cx3 c scope cl L out) k ⟨(x,u) :: cap,σ.mu⟩ t (p u)) (elts:∀ u ∈ vs,p u = true → ∀ L out,EV (cx3 c scope cl L out) k ⟨(x,u) :: cap,σ.mu⟩ elt (f u)) (hsz:vs.length ≤ sizeLine)
  (hs:∀ x,foldedSetIterable iter c.env x = pure x:=by intro _; rfl) : EV c k σ (.ListComp elt [⟨.Name x xp,iter,[t],0⟩] scope pos) (.lst ((vs.filter p).map f)):=by
 refine (EV.comp (f:=fun u=>if p u then some (f u) else Option.none) hc hsrc (fun u hu L=>⟨(x,u) :: cap,Sub.set Sub.refl hx,fun ζ ζ=>ASGL.name kx,fun out=>?_,fun v hv out=>?_⟩) hsz hs).eq ?_
 ·have : (if p u then some (f u) else Option.none).isSome = p u:=by cases p u <;> rfl
  rw [this]
  exact EVT.one (tst u hu L out)
 ·try dsimp only at hv
  cases h : p u with
  | false=>rw [h,if_neg (by decide)] at hv; w_dflts hv
  | true=>rw [h,if_pos rfl] at hv; w_dflts hv; exact elts u hu h L out
 ·rw [fm_filter]
end
end Mine.Internal
end
section
namespace Mine.Internal
section
variable {w:World} {S0:Shared} {k:Nat} {c:Cx} {σ:St} {rest:List Stmt} {Q:AF → St → Prop}
theorem EXs.assignCompN {elt iter:Expr} {x y:Str} {xp yp spos:Pos} {scope:Scope} {pos:Pos} {cl:List (Str × Addr)} {cap:List (Str × V)} {vs:List V} (f:V → V)
  (hc:Cap3 c σ scope Option.none cl cap) (hsrc:SRC c k σ iter (.Name x xp) vs) (kx:(relabel scope c.env).names.lookup x = some .local) (hx:cap.lookup x = Option.none)
  (elts:∀ u ∈ vs,∀ L out,EV (cx3 c scope cl L out) k ⟨(x,u) :: cap,σ.mu⟩ elt (f u)) (hsz:vs.length ≤ sizeLine) (hy:Stores c y)
  (hr:EXs c k (σ.set y (.lst (vs.map f))) rest Q)
  (hsw:swapsWith (.ListComp elt [⟨.Name x xp,iter,[],0⟩] scope pos) (some (.Name y yp)) spos.line c.env = pure true)
  (hs:∀ x,foldedSetIterable iter c.env x = pure x) : EXs c k σ (.Assign [.Name y yp] (.ListComp elt [⟨.Name x xp,iter,[],0⟩] scope pos) spos :: rest) Q:=by
 refine .cons (EX.assignComp (f:=fun u=>some (f u)) hsw hc hsrc (fun u hu L=>⟨(x,u) :: cap,Sub.set Sub.refl hx,fun ζ ζ=>ASGL.name kx,fun ζ=>EVT.nil,fun v hv out=>?_⟩) hsz hy ?_ hs)
 ·w_dflts hv; exact elts u hu L out
 ·rw [List.filterMap_eq_map']; exact hr
end
end Mine.Internal
end
section
namespace Mine.Internal
structure TabS (T:List (List Int)) : Prop where
 ok : TabOk T
 diag : ∀ i,i < 5 → ent T i i = 3
 rng : ∀ i j,i < 5 → j < 5 → i ≠ j → 0 ≤ ent T i j ∧ ent T i j ≤ 2
 sym : ∀ i j,i < 5 → j < 5 → ent T i j = ent T j i
noncomputable def letT (sh:Int) (t:Int) : Str:=chr (65 + digit sh t)
noncomputable def rowText (sh:Int) (row:List Int) : Str:=" " ++ Txt.join " " (row.map (letT sh))
noncomputable abbrev allLetters : Str:="ABCDEFGHIJKLMNOPABC"
structure PageFacts (sh:Int) (T:List (List Int)) : Prop where
 page : pageOf (lettersOf sh T) = Txt.join "/" (T.map (rowText sh))
 join : JoinOk "/" (T.map (rowText sh)) = true
 joinR : ∀ row ∈ T,JoinOk " " (row.map (letT sh)) = true
 lenR : ∀ row ∈ T,(" ":Str).length + (Txt.join " " (row.map (letT sh))).length ≤ sizeLine
 let4 : (strPick allLetters (some sh) (some (sh + 4))).length ≤ sizeLine
 item : ∀ row ∈ T,∀ t ∈ row,0 ≤ t ∧ t ≤ 3 ∧ (seqIndex? t (strPick allLetters (some sh) (some (sh + 4))).length).bind ((strPick allLetters (some sh) (some (sh + 4))).cps[·]?) = some (65 + digit sh t)
 idx : ∀ row ∈ T,∀ t ∈ row,∃ r,Builtin.Str.occurrences (strPick allLetters (some sh) (some (sh + 4))) (letT sh t) 0 (strPick allLetters (some sh) (some (sh + 4))).length 1 = t.toNat :: r
 plen : (pageOf (lettersOf sh T)).length ≤ sizeLine
 pkind : (decide ((pageOf (lettersOf sh T)).length < ("/":Str).length) || decide (Builtin.Str.strKind (pageOf (lettersOf sh T)) < Builtin.Str.strKind "/")) = false
 pocc : (Builtin.Str.occurrences (pageOf (lettersOf sh T)) "/" 0 (pageOf (lettersOf sh T)).length ((pageOf (lettersOf sh T)).length + 1)).isEmpty = false
 parts : Builtin.Str.partsBetween (pageOf (lettersOf sh T)) (Builtin.Str.occurrences (pageOf (lettersOf sh T)) "/" 0 (pageOf (lettersOf sh T)).length ((pageOf (lettersOf sh T)).length + 1)) ("/":Str).length = T.map (rowText sh)
 rlen : ∀ row ∈ T,(rowText sh row).length ≤ sizeLine
 rsw : ∀ row ∈ T,(Builtin.Str.spaceWords (rowText sh row) ((rowText sh row).length + 1)).length ≤ sizeLine
 rsw2 : ∀ row ∈ T,(Builtin.Str.spaceWords (rowText sh row) ((rowText sh row).length + 1) == [(0,(rowText sh row).length)]) = false
 words : ∀ row ∈ T,PySem.wordsOf (rowText sh row) = row.map (letT sh)
end Mine.Internal
end
section
namespace Mine.Internal
theorem all_range_succ (p:Nat → Bool) (n:Nat) : (List.range (n + 1)).all p = ((List.range n).all p && p n):=by
 rw [List.range_succ,List.all_append,List.all_cons,List.all_nil,Bool.and_true]
noncomputable def dist3 (a b c:Int) : Bool:=a != b && a != c && b != c
noncomputable def gTri (T:List (List Int)) (l m h:Nat) : Bool:=!dist3 (ent T l m) (ent T l h) (ent T m h)
noncomputable def cl3 (T:List (List Int)) (h m n:Nat) : Bool:=(List.range n).all fun l=>gTri T l m h
noncomputable def cl2 (T:List (List Int)) (h n:Nat) : Bool:=(List.range n).all fun m=>cl3 T h m m
noncomputable def cl1 (T:List (List Int)) (n:Nat) : Bool:=(List.range n).all fun h=>cl2 T h h
noncomputable def lo3 (a b c:Int) : Int:=min a (min b c)
noncomputable def hi3 (a b c:Int) : Int:=max a (max b c)
noncomputable def mi3 (a b c:Int) : Int:=a + b + c - lo3 a b c - hi3 a b c
theorem lightV_tup (ns:List Int) : lightV ns = .tup (itemsV (lightV ns)) ∧ (itemsV (lightV ns)).length = 3:=by
 unfold lightV rgbV
 dsimp only
 split <;> exact ⟨rfl,rfl⟩
theorem dueV_tup (lo mi hi:Int) : dueV lo mi hi = .tup (itemsV (dueV lo mi hi)):=by
 unfold dueV
 split
 ·rfl
 ·split
  ·rfl
  ·split <;> rfl
noncomputable def triOk (a b c:Int) : Bool:=
 lightOk [a,b,c] && dueOk (lo3 a b c) (mi3 a b c) (hi3 a b c) && (eqvT (itemsV (lightV [a,b,c])) (itemsV (dueV (lo3 a b c) (mi3 a b c) (hi3 a b c))) == some true) &&
 (eqvA ((itemsV (lightV [a,b,c])).getD 1 .none) (.int 0) == some (dist3 a b c)) && [lo3 a b c,mi3 a b c,hi3 a b c].isPerm [a,b,c] && decide (lo3 a b c ≤ mi3 a b c) && decide (mi3 a b c ≤ hi3 a b c) &&
 (eqvA ((itemsV (lightV [a,b,c])).getD 2 .none) (.int 3) == some (a == b && b == c))
theorem triOk_nat : ∀ a < 3,∀ b < 3,∀ c < 3,triOk (a:Nat) (b:Nat) (c:Nat) = true:=by decide +kernel
theorem triOk_int {a b c:Int} (ha:0 ≤ a ∧ a ≤ 2) (hb:0 ≤ b ∧ b ≤ 2) (hc:0 ≤ c ∧ c ≤ 2) : triOk a b c = true:=by
 have:=triOk_nat a.toNat (by w_left) b.toNat (by w_left) c.toNat (by w_left)
 rwa [Int.toNat_of_nonneg ha.1,Int.toNat_of_nonneg hb.1,Int.toNat_of_nonneg hc.1] at this
structure TriOk (a b c:Int) : Prop where
 light : lightOk [a,b,c] = true
 due : dueOk (lo3 a b c) (mi3 a b c) (hi3 a b c) = true
 eqv : eqvT (itemsV (lightV [a,b,c])) (itemsV (dueV (lo3 a b c) (mi3 a b c) (hi3 a b c))) = some true
 zero : eqvA ((itemsV (lightV [a,b,c])).getD 1 .none) (.int 0) = some (dist3 a b c)
 perm : [lo3 a b c,mi3 a b c,hi3 a b c].Perm [a,b,c]
 sorted : [lo3 a b c,mi3 a b c,hi3 a b c].Pairwise (· ≤ ·)
 three : eqvA ((itemsV (lightV [a,b,c])).getD 2 .none) (.int 3) = some (a == b && b == c)
theorem TriOk.of {a b c:Int} (ha:0 ≤ a ∧ a ≤ 2) (hb:0 ≤ b ∧ b ≤ 2) (hc:0 ≤ c ∧ c ≤ 2) : TriOk a b c:=by
 have h:=triOk_int ha hb hc
 unfold triOk at h
 simp only [Bool.and_eq_true] at h
 obtain ⟨⟨⟨⟨⟨⟨⟨h1,h2⟩,h3⟩,h4⟩,h5⟩,h6⟩,h7⟩,h8⟩:=h
 have h6:=of_decide_eq_true h6
 have h7:=of_decide_eq_true h7
 refine ⟨h1,h2,eq_of_beq h3,eq_of_beq h4,List.isPerm_iff.mp h5,?_,eq_of_beq h8⟩
 refine List.pairwise_cons.mpr ⟨fun x hx=>?_,List.pairwise_cons.mpr ⟨fun x hx=>?_,List.pairwise_singleton _ _⟩⟩
 ·rcases memc hx with rfl | hx
  ·exact h6
  ·rw [mem1 hx]; exact Int.le_trans h6 h7
 ·rw [mem1 hx]; exact h7
theorem rng_ok : ∀ n ≤ 25,Builtin.Range.rangeSize 0 ((n:Nat) : Int) 1 = (n:Nat) ∧ Builtin.Range.small 0 ((n:Nat) : Int) 1 = true:=by decide +kernel
section
variable {w:World} {S0:Shared} {k:Nat} {c:Cx} {σ:St}
theorem src_range {fe t e:Expr} {pos:Pos} {n:Nat} (hf:EV c k σ fe (.val (.type "range"))) (he:EV c k σ e (.int (n:Int))) (hn:n ≤ 25) (ht:∀ it v,letOwnedTupleGo t it v = pure ())
  (hse:starEach [e] c.env = (false,eval e c.env) :: starEach [] c.env)
  (hc:eval (.Call fe [e] [] pos) c.env = (do callWith pos (← eval fe c.env) [] (backTo pos (starEach [e] c.env)) [])) (hp:(starEach [e] c.env).any (·.1) = false) : SRC c k σ (.Call fe [e] [] pos) t (rngV 0 1 n):=
 .range (vs:=[.int (n:Int)]) (n:=n) hf (EVL.cons he EVL.nil hse) (fun ms s A xs Q h hQ=>range1 h hQ) (rng_ok n hn).1 (rng_ok n hn).2 ht hc hp
theorem EXs.forR {x:Str} {xp pos' pos:Pos} {fe e:Expr} {body rest:List Stmt} {Q:AF → St → Prop} {n:Nat} (F:Nat → St) (hf:EV c k σ fe (.val (.type "range"))) (he:EV c k σ e (.int (n:Int))) (hn:n ≤ 25) (hx:Stores c x) (h0:σ = F 0)
  (turn:∀ i,i < n → ∀ out (Q':AF → St → Prop),Q' .next (F (i + 1)) → EXs (c.wo out) k ((F i).set x (.int (i:Int))) body Q') (hend:EXs c k (F n) rest Q)
  (hse:starEach [e] c.env = (false,eval e c.env) :: starEach [] c.env) (hc:eval (.Call fe [e] [] pos) c.env = (do callWith pos (← eval fe c.env) [] (backTo pos (starEach [e] c.env)) [])) (hp:(starEach [e] c.env).any (·.1) = false)
  (hs:∀ x,foldedSetIterable (.Call fe [e] [] pos) c.env x = pure x) : EXs c k σ (.For (.Name x xp) (.Call fe [e] [] pos) body [] pos' :: rest) Q:=
 .forS F (src_range hf he hn (fun ζ ζ=>rfl) hse hc hp) h0 (fun i v hv out Q' hQ=>by
  obtain ⟨hi,rfl⟩:=rng_at hv
  exact ⟨_,ASG.name hx,turn i hi out Q' hQ⟩) (by
  have : (rngV 0 1 n).length = n:=rngV_len _ _ _
  rw [this]; exact hend) hs
theorem ev_ent {T:List (List Int)} {e i j:Expr} {p1 p2:Pos} {a b:Nat} (hT:TabOk T) (he:EV c k σ e (tabV T)) (hi:EV c k σ i (.int (a:Int))) (hj:EV c k σ j (.int (b:Int))) (ha:a < 5) (hb:b < 5) : EV c k σ (.Subscript (.Subscript e i p1) j p2) (.int (ent T a b)):=by
 have hr:=hT.rows a ha
 have hal : a < T.length:=by rw [hT.len]; exact ha
 have hg : T.getD a [] = T[a]:=by rw [List.getD_eq_getElem?_getD,List.getElem?_eq_getElem hal]; rfl
 refine EV.sub (a:=.lst ((T.getD a []).map V.int)) (EV.sub he rfl ⟨_,PySem.F.slot_list_getitem.lookup⟩ hi (op_itemL (by (first | lia | omega)) (by (first | lia | omega)) ?_)) rfl ⟨_,PySem.F.slot_list_getitem.lookup⟩ hj (op_itemL (by (first | lia | omega)) (by (first | lia | omega)) ?_)
 ·rw [Int.toNat_natCast,List.getElem?_map,List.getElem?_eq_getElem hal,hg]; rfl
 ·have hbl : b < (T.getD a []).length:=by rw [hr]; exact hb
  rw [Int.toNat_natCast,List.getElem?_map,List.getElem?_eq_getElem hbl]
  unfold ent
  rw [List.getD_eq_getElem?_getD (l:=T.getD a []),List.getElem?_eq_getElem hbl]; rfl
end
end Mine.Internal
end
section
namespace Mine.Internal
noncomputable def fourL (left:Nat) : List Nat:=(List.range 5).filter (· != left)
noncomputable def sixL (T:List (List Int)) (left:Nat) : List Int:=(fourL left).flatMap fun h=>((fourL left).filter fun l=>decide (l < h)).map fun l=>ent T l h
noncomputable def restL (left p:Nat) : List Nat:=(fourL left).filter (· != p)
noncomputable def starL (T:List (List Int)) (left p:Nat) : List Int:=(restL left p).map fun o=>ent T p o
noncomputable def is33 (a b c:Int) : Bool:=max a (max b c) == 3 && min a (min b c) == 0
noncomputable def mono3 : List Int → Bool
 | [a,b,c]=>a == b && b == c
 | _=>false
noncomputable def noStar (T:List (List Int)) (left:Nat) : Bool:=(fourL left).all fun p=>!mono3 (starL T left p)
noncomputable def gQuad (T:List (List Int)) (left:Nat) : Bool:=!(is33 (cnt (sixL T left) 0) (cnt (sixL T left) 1) (cnt (sixL T left) 2) && noStar T left)
noncomputable def clq (T:List (List Int)) (n:Nat) : Bool:=(List.range n).all (gQuad T)
noncomputable def dueL : List Int → V
 | [a,b,c]=>dueV (lo3 a b c) (mi3 a b c) (hi3 a b c)
 | _=>.none
noncomputable def dark (a b c:Int) : Nat:=if a = 0 then 0 else if b = 0 then 1 else 2
noncomputable def hueOf (v:V) : UInt64:=match v with
 | .tup (.flt x :: _)=>x
 | _=>0
noncomputable def isHue (v:V) : Bool:=match v with
 | .tup (.flt _ :: _)=>true
 | _=>false
noncomputable def sixOk (a b c:Int) : Bool:=
 rgbOk a b c && frOk (max a (max b c) - min a (min b c)) (max a (max b c)) &&
 (eqvT ((itemsV (rgbV a b c)).drop 1) [.flt (fr (max a (max b c) - min a (min b c)) (max a (max b c))),.int (max a (max b c))] == some true) &&
 (eqvT ((itemsV (rgbV a b c)).drop 1) [.int 1,.int 3] == some (is33 a b c)) &&
 (!is33 a b c || (isHue (rgbV a b c) && frOk ((2 * (dark a b c:Int) + 3).fmod 6) 6 && (Float64.cmp (hueOf (rgbV a b c)) (fr ((2 * (dark a b c:Int) + 3).fmod 6) 6) == some Ordering.eq) && ([a,b,c][dark a b c]? == some 0) && ((List.range (dark a b c)).all fun m=>[a,b,c][m]? != some 0)))
theorem sixOk_nat : ∀ a < 7,∀ b < 7 - a,sixOk (a:Nat) (b:Nat) ((6 - a - b:Nat) : Int) = true:=by decide +kernel
theorem four_mem : ∀ left < 5,∀ p ∈ fourL left,p < 5 ∧ p ≠ left ∧ (restL left p).length = 3 ∧ ∀ q ∈ restL left p,q < 5 ∧ q ≠ p ∧ q ≠ left:=by decide +kernel
theorem four_len : ∀ left < 5,(fourL left).length = 4:=by decide +kernel
theorem six_shape {T:List (List Int)} (tab:TabS T) {left:Nat} (h:left < 5) : (sixL T left).length = 6 ∧ ∀ t ∈ sixL T left,0 ≤ t ∧ t ≤ 2:=by
 constructor
 ·rcases (show left = 0 ∨ left = 1 ∨ left = 2 ∨ left = 3 ∨ left = 4 by w_left) with rfl | rfl | rfl | rfl | rfl <;> rfl
 ·intro t ht
  obtain ⟨x,hx,ht⟩:=List.mem_flatMap.mp ht
  obtain ⟨y,hy,rfl⟩:=memm ht
  obtain ⟨hy1,hy2⟩:=List.mem_filter.mp hy
  exact tab.rng y x (four_mem left h y hy1).1 (four_mem left h x hx).1 (Nat.ne_of_lt (of_decide_eq_true hy2))
theorem cnt_sum : ∀ {ns:List Int},(∀ t ∈ ns,0 ≤ t ∧ t ≤ 2) → ns.countP (· == 0) + ns.countP (· == 1) + ns.countP (· == 2) = ns.length
 | [],_=>rfl
 | a :: ns,h=>by
  have ih:=cnt_sum fun t ht=>h t (.tail _ ht)
  have ha:=h a (.head _)
  rw [List.countP_cons,List.countP_cons,List.countP_cons,List.length_cons]
  rcases (show a = 0 ∨ a = 1 ∨ a = 2 by w_left) with rfl | rfl | rfl
  ·simp only [show ((0:Int) == 0) = true from rfl,show ((0:Int) == 1) = false from rfl,show ((0:Int) == 2) = false from rfl,if_true,Bool.false_eq_true,if_false]; w_left
  ·simp only [show ((1:Int) == 0) = false from rfl,show ((1:Int) == 1) = true from rfl,show ((1:Int) == 2) = false from rfl,if_true,Bool.false_eq_true,if_false]; w_left
  ·simp only [show ((2:Int) == 0) = false from rfl,show ((2:Int) == 1) = false from rfl,show ((2:Int) == 2) = true from rfl,if_true,Bool.false_eq_true,if_false]; w_left
structure SixOk (a b c:Int) : Prop where
 rgb : rgbOk a b c = true
 fr : frOk (max a (max b c) - min a (min b c)) (max a (max b c)) = true
 sat : eqvT ((itemsV (rgbV a b c)).drop 1) [.flt (Mine.Internal.fr (max a (max b c) - min a (min b c)) (max a (max b c))),.int (max a (max b c))] = some true
 full : eqvT ((itemsV (rgbV a b c)).drop 1) [.int 1,.int 3] = some (is33 a b c)
 hue : is33 a b c = true → isHue (rgbV a b c) = true ∧ frOk ((2 * (dark a b c:Int) + 3).fmod 6) 6 = true ∧ (Float64.cmp (hueOf (rgbV a b c)) (Mine.Internal.fr ((2 * (dark a b c:Int) + 3).fmod 6) 6) != some Ordering.eq) = false ∧ [a,b,c][dark a b c]? = some 0 ∧ ∀ m,m < dark a b c → [a,b,c][m]? ≠ some 0
theorem six_ok {T:List (List Int)} (tab:TabS T) {left:Nat} (h:left < 5) : SixOk (cnt (sixL T left) 0) (cnt (sixL T left) 1) (cnt (sixL T left) 2):=by
 obtain ⟨h1,h2⟩:=six_shape tab h
 have h3:=cnt_sum h2
 rw [h1] at h3
 unfold cnt
 generalize (sixL T left).countP (· == 0) = a at *
 generalize (sixL T left).countP (· == 1) = b at *
 generalize (sixL T left).countP (· == 2) = c at *
 obtain rfl : c = 6 - a - b:=by rw [Nat.sub_sub,← h3,Nat.add_sub_cancel_left]
 have k:=sixOk_nat a (by w_left) b (by w_left)
 unfold sixOk at k
 simp only [Bool.and_eq_true] at k
 obtain ⟨⟨⟨⟨k1,k2⟩,k3⟩,k4⟩,k5⟩:=k
 refine ⟨k1,k2,eq_of_beq k3,eq_of_beq k4,fun q=>?_⟩
 rw [q,Bool.not_true,Bool.false_or] at k5
 simp only [Bool.and_eq_true] at k5
 obtain ⟨⟨⟨⟨k5,k6⟩,k7⟩,k8⟩,k9⟩:=k5
 refine ⟨k5,k6,by rw [bne,k7]; rfl,eq_of_beq k8,fun m hm e=>?_⟩
 have:=List.all_eq_true.mp k9 m (List.mem_range.mpr hm)
 rw [e] at this
 exact absurd this (by decide)
theorem star_shape {T:List (List Int)} (tab:TabS T) {left p:Nat} (h:left < 5) (hp:p ∈ fourL left) : ∃ a b c,starL T left p = [a,b,c] ∧ TriOk a b c:=by
 obtain ⟨h1,h2,h3,h4⟩:=four_mem left h p hp
 unfold starL
 generalize restL left p = r at *
 refine args3 (P:=fun r=>(∀ q ∈ r,q < 5 ∧ q ≠ p ∧ q ≠ left) → ∃ a b c,r.map (ent T p) = [a,b,c] ∧ TriOk a b c) (fun x y z h4=>?_) r h3 h4
 have q1:=h4 x (.head _); have q2:=h4 y (.tail _ (.head _)); have q3:=h4 z (.tail _ (.tail _ (.head _)))
 exact ⟨_,_,_,rfl,TriOk.of (tab.rng p x h1 q1.1 (Ne.symm q1.2.1)) (tab.rng p y h1 q2.1 (Ne.symm q2.2.1)) (tab.rng p z h1 q3.1 (Ne.symm q3.2.1))⟩
theorem eqvT_okI (n:Nat) : ∀ {a:List V} {b:List Int} {r:Bool},eqvT a (b.map V.int) = some r → Eqvs false n a (b.map V.int) r
 | [],[],r,h=>by cases h; exact .nil n
 | x :: xs,y :: ys,r,h=>by
  rw [List.map_cons] at h ⊢
  unfold eqvT at h
  split at h
  ·rename_i p q h1 h2
   cases h
   refine .cons ?_ (eqvT_okI n h2)
   unfold eqvA at h1
   split at h1
   ·rename_i a b e; cases e; cases h1; exact .int n _ _
   ·rename_i e; cases e
   ·rename_i a b e; cases e; cases h1; exact .flt_int n _ _
   ·cases h1
  ·cases h
 | [],_ :: _,_,h=>by cases h
 | _ :: _,[],_,h=>by cases h
end Mine.Internal
end
section
namespace Mine.Internal
noncomputable def fourV (left:Nat) : List V:=(fourL left).map fun i : Nat=>.int (i:Int)
theorem mem_fourV {left:Nat} {v:V} (h:v ∈ fourV left) : ∃ i,i ∈ fourL left ∧ v = .int (i:Int):=by
 obtain ⟨i,hi,rfl⟩:=memm h
 exact ⟨i,hi,rfl⟩
theorem five_cases {P:Nat → Prop} (h0:P 0) (h1:P 1) (h2:P 2) (h3:P 3) (h4:P 4) {n:Nat} (h:n < 5) : P n:=by
 match n,h with
 | 0,_=>exact h0
 | 1,_=>exact h1
 | 2,_=>exact h2
 | 3,_=>exact h3
 | 4,_=>exact h4
theorem four_eq {left:Nat} (h:left < 5) : ((rngV 0 1 5).filter fun v=>v.toI != (left:Int)).map (fun v=>v) = fourV left:=five_cases (P:=fun left=>((rngV 0 1 5).filter fun v=>v.toI != (left:Int)).map (fun v=>v) = fourV left) rfl rfl rfl rfl rfl h
noncomputable def sixF (T:List (List Int)) (u v:V) : Option V:=if v.toI < u.toI then some (.int (ent T v.toI.toNat u.toI.toNat)) else none
theorem sixF_some (T:List (List Int)) (u v:V) : (sixF T u v).isSome = decide (v.toI < u.toI):=by
 unfold sixF
 by_cases h : v.toI < u.toI
 ·rw [if_pos h,decide_eq_true h]; rfl
 ·rw [if_neg h,decide_eq_false h]; rfl
theorem six_eq (T:List (List Int)) {left:Nat} (h:left < 5) : ((fourV left).flatMap fun u=>(fourV left).filterMap (sixF T u)) = (sixL T left).map V.int:=
 five_cases (P:=fun left=>((fourV left).flatMap fun u=>(fourV left).filterMap (sixF T u)) = (sixL T left).map V.int) rfl rfl rfl rfl rfl h
theorem star_eq (T:List (List Int)) {left p:Nat} (h:left < 5) (hp:p ∈ fourL left) : (((fourV left).filter fun v=>v.toI != (p:Int)).map fun v=>V.int (ent T p v.toI.toNat)) = (starL T left p).map V.int:=by
 revert p
 refine five_cases (P:=fun left=>∀ {p:Nat},p ∈ fourL left → (((fourV left).filter fun v=>v.toI != (p:Int)).map fun v=>V.int (ent T p v.toI.toNat)) = (starL T left p).map V.int) ?_ ?_ ?_ ?_ ?_ h
 all_goals
  intro p hp
  rcases memc hp with rfl | hp
  ·rfl
  rcases memc hp with rfl | hp
  ·rfl
  rcases memc hp with rfl | hp
  ·rfl
  rw [mem1 hp]; rfl
noncomputable def starsV (T:List (List Int)) (left:Nat) : List V:=(fourL left).map fun p : Nat=>V.lst ((starL T left p).map V.int)
noncomputable def starsF (T:List (List Int)) (left:Nat) (v:V) : V:=V.lst ((starL T left v.toI.toNat).map V.int)
theorem stars_map (T:List (List Int)) (left:Nat) : (fourV left).map (starsF T left) = starsV T left:=by
 unfold fourV starsV
 rw [List.map_map]
 rfl
noncomputable def lampsF (v:V) : V:=.tup (itemsV (lightV v.ints))
noncomputable def duesF (v:V) : V:=dueL v.ints
noncomputable def thirdB (v:V) : Bool:=eqvA ((itemsV v).getD 2 .none) (.int 3) == some true
structure StarOk (s:List Int) : Prop where
 light : lightOk s = true
 eqv : Eqv true 1 (lampsF (.lst (s.map V.int))) (duesF (.lst (s.map V.int))) true
 three : eqvA ((itemsV (lampsF (.lst (s.map V.int)))).getD 2 .none) (.int 3) = some (mono3 s)
 len : (itemsV (lampsF (.lst (s.map V.int)))).length = 3
theorem star_ok {T:List (List Int)} (tab:TabS T) {left p:Nat} (h:left < 5) (hp:p ∈ fourL left) : StarOk (starL T left p):=by
 obtain ⟨a,b,c,e,tk⟩:=star_shape tab h hp
 rw [e]
 have hi : (V.lst ([a,b,c].map V.int)).ints = [a,b,c]:=ints_map _
 refine ⟨tk.light,?_,?_,?_⟩
 ·unfold lampsF duesF
  rw [hi]
  have hd : dueL [a,b,c] = _:=dueV_tup (lo3 a b c) (mi3 a b c) (hi3 a b c)
  rw [hd]
  exact .tup (eqvT_ok 0 tk.eqv)
 ·unfold lampsF
  rw [hi]
  exact tk.three
 ·unfold lampsF
  rw [hi]
  exact (lightV_tup _).2
theorem eqvs_map {f g:V → V} : ∀ {l:List V},(∀ v ∈ l,Eqv true 1 (f v) (g v) true) → Eqvs true 1 (l.map f) (l.map g) true
 | [],_=>.nil 1
 | v :: l,h=>.cons (h v (.head _)) (eqvs_map fun u hu=>h u (.tail _ hu))
theorem eqvs_nil {l:List V} : Eqvs false 1 l [] l.isEmpty:=by
 cases l with
 | nil=>exact .nil 1
 | cons a l=>exact .left 1 a l
theorem mem_starsV {T:List (List Int)} {left:Nat} {v:V} (h:v ∈ starsV T left) : ∃ p,p ∈ fourL left ∧ v = V.lst ((starL T left p).map V.int):=by
 obtain ⟨p,hp,rfl⟩:=memm h
 exact ⟨p,hp,rfl⟩
theorem filter_nil (p:V → Bool) : ∀ l : List V,(l.filter p).isEmpty = l.all fun v=>!p v
 | []=>rfl
 | a :: l=>by
  have ih:=filter_nil p l
  rw [List.filter_cons,List.all_cons]
  cases p a with
  | true=>rfl
  | false=>rw [if_neg (by decide),ih]; rfl
theorem no_stars {T:List (List Int)} (tab:TabS T) {left:Nat} (h:left < 5) : (((starsV T left).map lampsF).filter thirdB).isEmpty = noStar T left:=by
 unfold noStar
 rw [filter_nil,starsV,List.map_map,List.all_map]
 rw [Bool.eq_iff_iff,List.all_eq_true,List.all_eq_true]
 refine forall_congr' fun p=>forall_congr' fun hp=>?_
 have hs:=(star_ok tab h hp).three
 show (!(thirdB (lampsF (V.lst ((starL T left p).map V.int))))) = true ↔ _
 unfold thirdB
 rw [hs]
 cases mono3 (starL T left p) <;> exact Iff.rfl
theorem stars_len (T:List (List Int)) {left:Nat} (h:left < 5) : (starsV T left).length = 4:=by unfold starsV; rw [List.length_map,four_len _ h]
theorem cap3 {c:Cx} {σ:St} {scope:Scope} {own:Option Str} {cl:List (Str × Addr)} {cap:List (Str × V)} (h:∀ x v,cap.lookup x = some v → CapP c σ scope cl x v) (hn:∀ o,own = some o → cap.lookup o = Option.none) :
  ∀ x v,cap.lookup x = some v → σ.loc.lookup x = some v ∧ c.env.kindOf x = some .cell ∧ (∀ n,(ocs own n ++ cl).lookup x = c.env.cells.lookup x) ∧ ((relabel scope c.env).names.lookup x = some .cell ∨ (relabel scope c.env).names.lookup x = some .free):=fun x v e=>by
 obtain ⟨h1,h2,h3,h4⟩:=h x v e
 refine ⟨h1,h2,fun n=>?_,h4⟩
 cases own with
 | none=>exact h3
 | some o=>
  have hne : x ≠ o:=fun q=>by rw [q,hn o rfl] at e; cases e
  show List.lookup x ((o,n) :: cl) = _
  rw [List.lookup_cons,beq_eq_false_iff_ne.mpr hne]
  exact h3
end Mine.Internal
end
section
namespace Mine.Internal
theorem getD_set {α:Type} (l:List α) (i j:Nat) (a d:α) (h:i < l.length) : (l.set i a).getD j d = if i = j then a else l.getD j d:=by
 rw [List.getD_eq_getElem?_getD,List.getD_eq_getElem?_getD,List.getElem?_set]
 by_cases e : i = j
 ·rw [if_pos e,if_pos e,if_pos h]; rfl
 ·rw [if_neg e,if_neg e]
theorem ent_put {T:List (List Int)} (h:Shp T) {i j:Nat} (hi:i < 5) (hj:j < 5) (v:Int) (a b:Nat) : ent (putT T i j v) a b = if i = a ∧ j = b then v else ent T a b:=by
 unfold ent putT
 rw [getD_set _ _ _ _ _ (by rw [h.rows]; exact hi)]
 by_cases e : i = a
 ·rw [if_pos e,getD_set _ _ _ _ _ (by rw [(h.get hi).2]; exact hj)]
  by_cases e2 : j = b
  ·rw [if_pos e2,if_pos ⟨e,e2⟩]
  ·rw [if_neg e2,if_neg (fun q=>e2 q.2),e]
 ·rw [if_neg e,if_neg (fun q=>e q.1)]
structure TInv (T:List (List Int)) (n m:Nat) : Prop where
 shp : Shp T
 diag : ∀ i,i < 5 → ent T i i = 3
 sym : ∀ i j,ent T i j = ent T j i
 rng : ∀ i j,j < i → i < n ∨ (i = n ∧ j < m) → 0 ≤ ent T i j ∧ ent T i j ≤ 2
theorem TInv.cell {first:Int} {st:List (List Int) × Int} {p o:Nat} (h:TInv st.1 p o) (hp:p < 5) (ho:o < p) : TInv (cellStep first p st o).1 p (o + 1):=by
 unfold cellStep
 dsimp only
 generalize (tieOf (figP first p) p o st.1 + st.2) = q
 have q1:=Int.fmod_nonneg_of_pos q (show (0:Int) < 3 by decide)
 have q2:=Int.fmod_lt_of_pos q (show (0:Int) < 3 by decide)
 generalize q.fmod 3 = v at *
 have hp2:=h.shp.put hp (j:=o) v
 have ho5 : o < 5:=Nat.lt_trans ho hp
 have he : ∀ a b,ent (putT (putT st.1 p o v) o p v) a b = if o = a ∧ p = b then v else if p = a ∧ o = b then v else ent st.1 a b:=fun a b=>by
  rw [ent_put hp2 ho5 hp,ent_put h.shp hp ho5]
 refine ⟨hp2.put ho5 v,fun i hi=>?_,fun i j=>?_,fun i j hj hd=>?_⟩
 ·rw [he,if_neg (fun q=>Nat.ne_of_lt ho (q.1.trans q.2.symm)),if_neg (fun q=>Nat.ne_of_lt ho (q.2.trans q.1.symm))]
  exact h.diag i hi
 ·rw [he,he,h.sym i j]
  by_cases c1 : o = i ∧ p = j
  ·rw [if_pos c1]
   by_cases c2 : o = j ∧ p = i
   ·rw [if_pos c2]
   ·rw [if_neg c2,if_pos ⟨c1.2,c1.1⟩]
  ·rw [if_neg c1]
   by_cases c2 : p = i ∧ o = j
   ·rw [if_pos c2,if_pos ⟨c2.2,c2.1⟩]
   ·rw [if_neg c2]
    by_cases c3 : o = j ∧ p = i
    ·exact absurd ⟨c3.2,c3.1⟩ c2
    ·rw [if_neg c3]
     by_cases c4 : p = j ∧ o = i
     ·exact absurd ⟨c4.2,c4.1⟩ c1
     ·rw [if_neg c4]
 ·rw [he]
  by_cases c1 : o = i ∧ p = j
  ·rw [if_pos c1]; exact ⟨q1,Int.le_of_lt_add_one q2⟩
  ·rw [if_neg c1]
   by_cases c2 : p = i ∧ o = j
   ·rw [if_pos c2]; exact ⟨q1,Int.le_of_lt_add_one q2⟩
   ·rw [if_neg c2]
    exact h.rng i j hj (hd.imp_right fun h=>⟨h.1,Nat.lt_of_le_of_ne (Nat.le_of_lt_succ h.2) fun q=>c2 ⟨h.1.symm,q.symm⟩⟩)
theorem TInv.row {first:Int} {st:List (List Int) × Int} {p:Nat} (h:TInv st.1 p 0) (hp:p < 5) : ∀ m,m ≤ p → TInv ((List.range m).foldl (cellStep first p) st).1 p m
 | 0,_=>h
 | m + 1,hm=>by
  rw [List.range_succ,List.foldl_append]
  exact (TInv.row h hp m (Nat.le_of_succ_le hm)).cell hp hm
theorem TInv.all {first second:Int} : ∀ n,n ≤ 4 → TInv (tableS first second n).1 (n + 1) 0
 | 0,_=>⟨Shp.tab0,lt_cases5 rfl rfl rfl rfl rfl,fun i j=>by
   have : ∀ a b,ent tab0 a b = if a < 5 ∧ b < 5 then 3 else 0:=fun a b=>by
    unfold ent tab0
    rw [List.getD_eq_getElem?_getD,List.getD_eq_getElem?_getD,List.getElem?_replicate]
    by_cases c : a < 5
    ·rw [if_pos c]
     show ([3,3,3,3,3] : List Int)[b]?.getD 0 = _
     by_cases hb : b < 5
     ·rw [if_pos ⟨c,hb⟩]; exact lt_cases5 (P:=fun b=>([3,3,3,3,3] : List Int)[b]?.getD 0 = 3) rfl rfl rfl rfl rfl b hb
     ·rw [if_neg (fun q=>hb q.2),List.getElem?_eq_none (Nat.not_lt.mp hb)]; rfl
    ·rw [if_neg c,if_neg (fun q=>c q.1)]; rfl
   show ent tab0 i j = ent tab0 j i
   rw [this,this]
   by_cases c : i < 5 ∧ j < 5
   ·rw [if_pos c,if_pos ⟨c.2,c.1⟩]
   ·rw [if_neg c,if_neg (fun q=>c ⟨q.2,q.1⟩)],fun i j h1 h2=>by w_left⟩
 | n + 1,hn=>by
  rw [tableS_succ]
  have ih:=TInv.all (first:=first) (second:=second) n (Nat.le_of_succ_le hn)
  have:=ih.row (first:=first) (by w_left) (n + 1) (Nat.le_refl _)
  exact ⟨this.shp,this.diag,this.sym,fun i j h1 h2=>this.rng i j h1 (h2.elim (fun h=>(Nat.lt_or_eq_of_le (Nat.le_of_lt_succ h)).imp_right fun e=>⟨e,e ▸ h1⟩) fun h=>absurd h.2 (Nat.not_lt_zero _))⟩
theorem tabS (first second:Int) : TabS (tableF first second):=by
 have h:=TInv.all (first:=first) (second:=second) 4 (Nat.le_refl _)
 have hr : ∀ i j,i < 5 → j < i → 0 ≤ ent (tableF first second) i j ∧ ent (tableF first second) i j ≤ 2:=fun i j hi hj=>h.rng i j hj (.inl hi)
 refine ⟨⟨h.shp.rows,fun i hi=>(h.shp.get hi).2⟩,h.diag,fun i j hi hj hne=>?_,fun i j ζ ζ=>h.sym i j⟩
 rcases Nat.lt_or_gt_of_ne hne with q | q
 ·have e : ent (tableF first second) i j = ent (tableF first second) j i:=h.sym i j
  rw [e]; exact hr j i hj q
 ·exact hr i j hi q
end Mine.Internal
end
section
namespace Mine.Internal
noncomputable def V.toC (v:V) : Nat:=v.toS.cps.getD 0 0
noncomputable def ptV (c:Nat) : V:=.str (chr c)
noncomputable def pts : List Nat:=[107,108,109,110,111]
noncomputable def namesL (D:List (Str × V)) : List Nat:=pts.filter fun c=>(getD D (chr c)).isSome
noncomputable def hasV (D:List (Str × V)) (v:V) : Bool:=(getD D v.toS).isSome
theorem names_eq (D:List (Str × V)) : ((chars "klmno").filter (hasV D)).map (fun v=>v) = (namesL D).map ptV:=by
 rw [show ("klmno":Str) = wrd pts from rfl,chars_wrd,List.filter_map,List.map_id']
 rfl
theorem names_pt {D:List (Str × V)} {c:Nat} (h:c ∈ namesL D) : isPt c ∧ (getD D (chr c)).isSome = true:=by
 obtain ⟨h1,h2⟩:=List.mem_filter.mp h
 refine ⟨?_,h2⟩
 unfold isPt
 have : ∀ c ∈ pts,107 ≤ c ∧ c ≤ 111:=by decide
 exact this c h1
theorem names_len (D:List (Str × V)) : (namesL D).length ≤ 5:=List.length_filter_le _ _
theorem pickV_to {vs:List V} {n:Nat} (h:n ≤ vs.length) : pickV vs none (some (n:Int)) none = vs.take n:=by
 have:=pick_run vs.toArray 0 n
 unfold pickV
 have e : sliceBounds none (some (n:Int)) none vs.length = (0,(n:Int),1):=by
  simp only [sliceBounds,Option.getD_none]
  have h1 : ¬ ((n:Int) < 0):=by w_left
  simp only [h1,if_false,show (1:Int) > 0 by decide,if_true]
  rw [Int.min_eq_left (by w_left),Int.max_eq_right (by w_left)]
 rw [e]
 show List.filterMap _ (sliceRange 0 (n:Int) 1) = _
 rw [show (n:Int) = ((n:Nat) : Int) from rfl,show (0:Int) = ((0:Nat) : Int) from rfl,sliceRange_one]
 simp only [List.getElem?_toArray] at this
 rw [Nat.sub_zero,this,List.drop_zero]
theorem eqvs_ints : ∀ l : List Int,Eqvs false 0 (l.map V.int) (l.map V.int) true
 | []=>.nil 0
 | a :: l=>by
  have:=Eqvs.cons (Eqv.int (fl:=false) 0 a a) (eqvs_ints l)
  rwa [beq_self_eq_true] at this
theorem enum_turn {l:List Nat} {f:Nat → V} {i:Nat} {v:V} (h:(enumV (l.map f))[i]? = some v) : ∃ y,l[i]? = some y ∧ v = .tup [.int (i:Int),f y]:=by
 have hi : i < l.length:=by
  rw [List.getElem?_eq_some_iff] at h
  obtain ⟨q,_⟩:=h
  rwa [enumV_len,List.length_map] at q
 have h1 : (l.map f)[i]? = some (f l[i]):=by rw [List.getElem?_map,List.getElem?_eq_getElem hi]; rfl
 rw [enumV_get h1] at h
 exact ⟨l[i],List.getElem?_eq_getElem hi,(Option.some.inj h).symm⟩
theorem tab_row {T:List (List Int)} (h:TabOk T) {y:Nat} (hy:isPt y) : (T.map fun r=>V.lst (r.map V.int))[((y - 107:Nat) : Int).toNat]? = some (.lst ((T.getD (y - 107) []).map V.int)) ∧ (T.getD (y - 107) []).length = 5:=by
 obtain ⟨h1,h2⟩:=hy
 have h5 : y - 107 < 5:=by w_left
 have hl : y - 107 < T.length:=by rw [h.len]; exact h5
 refine ⟨?_,h.rows _ h5⟩
 rw [Int.toNat_natCast,List.getElem?_map,List.getElem?_eq_getElem hl,List.getD_eq_getElem?_getD,List.getElem?_eq_getElem hl]; rfl
structure HostFacts (T:List (List Int)) (hf:Nat → List Nat) : Prop where
 len : (hostsN T 9).2.length ≤ 5
 all : (((hostsN T 9).2.length : Int) == 5) = (cl1 T 5 && clq T 5)
 host : ∀ c ∈ namesL (hostsN T 9).2,getD (hostsN T 9).2 (chr c) = some (.str (wrd (hf c))) ∧ HostL (hf c)
 told : ∀ i y,(namesL (hostsN T 9).2)[i]? = some y → toldF (hf y) (((namesL (hostsN T 9).2).take i).map hf) = (((namesL (hostsN T 9).2).take i).map fun x=>tieP (T.getD (y - 107) []) x).map V.int
 k : ∃ h b,Whole h b ∧ (getD (hostsN T 9).2 "k").getD (.str "k.local") = .str (wrd h)
section
variable {w:World} {S0:Shared} {k:Nat} {c:Cx} {σ:St} {rest:List Stmt} {Q:AF → St → Prop}
theorem op_isnotN : OP2 w S0 k (compareOp .IsNot) .none .none (.bool false):=fun ms A s x y f g hx hy=>by
 w_dflts hx; w_dflts hy
 exact wpAny_isNot_plain rfl ⟨.bool _,krefl _⟩
theorem EXs.assignCompF {elt iter t:Expr} {x y:Str} {xp yp spos:Pos} {scope:Scope} {pos:Pos} {cl:List (Str × Addr)} {cap:List (Str × V)} {vs:List V} (p:V → Bool) (f:V → V)
  (hc:Cap3 c σ scope Option.none cl cap) (hsrc:SRC c k σ iter (.Name x xp) vs) (kx:(relabel scope c.env).names.lookup x = some .local) (hx:cap.lookup x = Option.none)
  (tst:∀ u ∈ vs,∀ L out,EVB (cx3 c scope cl L out) k ⟨(x,u) :: cap,σ.mu⟩ t (p u)) (elts:∀ u ∈ vs,p u = true → ∀ L out,EV (cx3 c scope cl L out) k ⟨(x,u) :: cap,σ.mu⟩ elt (f u)) (hsz:vs.length ≤ sizeLine) (hy:Stores c y)
  (hr:EXs c k (σ.set y (.lst ((vs.filter p).map f))) rest Q)
  (hsw:swapsWith (.ListComp elt [⟨.Name x xp,iter,[t],0⟩] scope pos) (some (.Name y yp)) spos.line c.env = pure true)
  (hs:∀ x,foldedSetIterable iter c.env x = pure x) : EXs c k σ (.Assign [.Name y yp] (.ListComp elt [⟨.Name x xp,iter,[t],0⟩] scope pos) spos :: rest) Q:=by
 refine .cons (EX.assignComp (f:=fun u=>if p u then some (f u) else Option.none) hsw hc hsrc (fun u hu L=>⟨(x,u) :: cap,Sub.set Sub.refl hx,fun ζ ζ=>ASGL.name kx,fun out=>?_,fun v hv out=>?_⟩) hsz hy ?_ hs)
 ·have : (if p u then some (f u) else Option.none).isSome = p u:=by cases p u <;> rfl
  rw [this]
  exact EVT.one (tst u hu L out)
 ·try dsimp only at hv
  cases h : p u with
  | false=>rw [h,if_neg (by decide)] at hv; w_dflts hv
  | true=>rw [h,if_pos rfl] at hv; w_dflts hv; exact elts u hu h L out
 ·rw [fm_filter]; exact hr
end
end Mine.Internal
end
section
namespace Mine.Internal
theorem occ_same {L M:List Nat} {c lim:Nat} (h:L.map (· == c) = M.map (· == c)) : Builtin.Str.occurrences (wrd L) (chr c) 0 (wrd L).length lim = Builtin.Str.occurrences (wrd M) (chr c) 0 (wrd M).length lim:=by
 have hl : (wrd L).length = (wrd M).length:=by
  rw [wrd_len,wrd_len,← List.length_map (as:=L) (f:=(· == c)),h,List.length_map]
 rw [StrLaws.occ_eq,StrLaws.occ_eq,hl]
 have hb : StrLaws.occBody (wrd L) (chr c) (wrd M).length lim = StrLaws.occBody (wrd M) (chr c) (wrd M).length lim:=by
  funext i st
  have key : ∀ i,i + (chr c).length ≤ (wrd M).length → Builtin.Str.subAt (wrd L) (chr c) i = Builtin.Str.subAt (wrd M) (chr c) i:=fun i hi=>by
   have h1:=StrLaws.subAt_one (wrd L) c i
   have h2:=StrLaws.subAt_one (wrd M) c i
   rw [wrd_cps] at h1 h2
   have h3 : L[i]? = some c ↔ M[i]? = some c:=by
    have e:=congrArg (fun l=>l[i]?) h
    simp only [List.getElem?_map] at e
    cases hL : L[i]? with
    | none=>rw [hL] at e; cases hM : M[i]? with
     | none=>exact Iff.rfl
     | some y=>rw [hM] at e; cases e
    | some x=>rw [hL] at e; cases hM : M[i]? with
     | none=>rw [hM] at e; cases e
     | some y=>
      rw [hM] at e
      have e:=Option.some.inj e
      simp only at e
      constructor
      ·intro q; rw [Option.some.inj q,beq_self_eq_true] at e; rw [eq_of_beq e.symm]
      ·intro q; rw [Option.some.inj q,beq_self_eq_true] at e; rw [eq_of_beq e]
   have hi' : i + (⟨#[c]⟩ : Str).length ≤ (wrd L).length:=by rw [hl]; exact hi
   rw [Bool.eq_iff_iff]
   constructor
   ·intro q; exact (h2.mpr (h3.mp (h1.mp ⟨hi',q⟩))).2
   ·intro q; exact (h1.mpr (h3.mpr (h2.mp ⟨hi,q⟩))).2
  unfold StrLaws.occBody
  by_cases q : i + (chr c).length ≤ (wrd M).length
  ·rw [key i q]
  ·rw [if_neg (fun p=>q p.1.2),if_neg (fun p=>q p.1.2)]
 rw [hb]
noncomputable def rowL (xs:List Nat) : List Nat:=xs.flatMap fun x=>[32,x]
theorem step_sp (ws:List Str) (y:Nat) : KWd.step (ws,chr y) 32 = (ws ++ [chr y],Str.empty):=by
 unfold KWd.step
 rw [if_pos (show Unicode.isSpace 32 = true by decide +kernel),if_neg (by show ¬ (1 = 0); decide)]
theorem step_sp0 : KWd.step ([],Str.empty) 32 = ([],Str.empty):=by
 unfold KWd.step
 rw [if_pos (show Unicode.isSpace 32 = true by decide +kernel),if_pos (by rfl)]
theorem step_ch (ws:List Str) {x:Nat} (h:Unicode.isSpace x = false) : KWd.step (ws,Str.empty) x = (ws,chr x):=by
 unfold KWd.step
 rw [if_neg (by rw [h]; decide)]
 rfl
theorem scan_more : ∀ (xs:List Nat) (ws:List Str) (y:Nat),(∀ x ∈ xs,Unicode.isSpace x = false) → KWd.fin ((rowL xs).foldl KWd.step (ws,chr y)) = ws ++ chr y :: xs.map chr
 | [],ws,y,_=>by
  show KWd.fin (ws,chr y) = _
  unfold KWd.fin
  rw [if_neg (by show ¬ (1 = 0); decide)]; rfl
 | x :: xs,ws,y,h=>by
  show KWd.fin (List.foldl KWd.step (ws,chr y) (32 :: x :: rowL xs)) = _
  rw [List.foldl_cons,List.foldl_cons,step_sp,step_ch _ (h x (.head _)),scan_more xs _ x fun z hz=>h z (.tail _ hz),List.append_assoc]; rfl
theorem scan_row {x:Nat} {xs:List Nat} (h:∀ z ∈ x :: xs,Unicode.isSpace z = false) : PySem.wordsOf (wrd (rowL (x :: xs))) = (x :: xs).map chr:=by
 have h1 : PySem.wordsOf (wrd (rowL (x :: xs))) = KWd.fin (KWd.scan (wrd (rowL (x :: xs)))):=KWd.wordsOf_scan _
 rw [h1]
 unfold KWd.scan
 rw [wrd_cps]
 show KWd.fin (List.foldl KWd.step ([],Str.empty) (32 :: x :: rowL xs)) = _
 rw [List.foldl_cons,List.foldl_cons,step_sp0,step_ch _ (h x (.head _)),scan_more xs _ x fun z hz=>h z (.tail _ hz)]; rfl
noncomputable def letN (sh t:Int) : Nat:=65 + digit sh t
theorem letN_rng (sh t:Int) : 65 ≤ letN sh t ∧ letN sh t ≤ 80:=by
 have:=digit_lt sh t
 unfold letN; w_left
noncomputable def rowOf (g:Nat → Int) : List Int:=[g 0,g 1,g 2,g 3,g 4]
noncomputable def tabOf (f:Nat → Nat → Int) : List (List Int):=[rowOf (f 0),rowOf (f 1),rowOf (f 2),rowOf (f 3),rowOf (f 4)]
theorem row_of {r:List Int} (h:r.length = 5) : r = rowOf (fun j=>r.getD j 0):=args5 (P:=fun r : List Int=>r = rowOf (fun j=>r.getD j 0)) (fun ζ ζ ζ ζ ζ=>rfl) r h
theorem tab_of {T:List (List Int)} (h:T.length = 5) (hr:∀ i,i < 5 → (T.getD i []).length = 5) : T = tabOf (ent T):=by
 have e : T = [T.getD 0 [],T.getD 1 [],T.getD 2 [],T.getD 3 [],T.getD 4 []]:=args5 (P:=fun T : List (List Int)=>T = [T.getD 0 [],T.getD 1 [],T.getD 2 [],T.getD 3 [],T.getD 4 []]) (fun ζ ζ ζ ζ ζ=>rfl) T h
 have k:=fun i h=>row_of (hr i h)
 refine e.trans ?_
 rw [k 0 (by decide),k 1 (by decide),k 2 (by decide),k 3 (by decide),k 4 (by decide)]; rfl
theorem row_text (sh:Int) (g:Nat → Int) : rowText sh (rowOf g) = wrd (rowL ((rowOf g).map (letN sh))) ∧ (rowText sh (rowOf g)).length = 10 ∧ JoinOk " " ((rowOf g).map (letT sh)) = true ∧ (" ":Str).length + (Txt.join " " ((rowOf g).map (letT sh))).length = 10:=by
 refine ⟨?_,?_,?_,?_⟩ <;> kernel_rfl
noncomputable abbrev pageL (r0 r1 r2 r3 r4:List Nat) : List Nat:=rowL r0 ++ 47 :: (rowL r1 ++ 47 :: (rowL r2 ++ 47 :: (rowL r3 ++ 47 :: rowL r4)))
theorem page_text (sh:Int) (f:Nat → Nat → Int) : pageOf (lettersOf sh (tabOf f)) = Txt.join "/" ((tabOf f).map (rowText sh)) ∧ (pageOf (lettersOf sh (tabOf f))).length = 54 ∧ JoinOk "/" ((tabOf f).map (rowText sh)) = true ∧
  Builtin.Str.partsBetween (pageOf (lettersOf sh (tabOf f))) [10,21,32,43] 1 = (tabOf f).map (rowText sh) ∧ pageOf (lettersOf sh (tabOf f)) = wrd (pageL ((rowOf (f 0)).map (letN sh)) ((rowOf (f 1)).map (letN sh)) ((rowOf (f 2)).map (letN sh)) ((rowOf (f 3)).map (letN sh)) ((rowOf (f 4)).map (letN sh))):=by
 refine ⟨?_,?_,?_,?_,?_⟩ <;> kernel_rfl
theorem map_row (sh:Int) (g:Nat → Int) : (rowL ((rowOf g).map (letN sh))).map (· == 47) = List.replicate 10 false:=by
 have k : ∀ j,(letN sh (g j) == 47) = false:=fun j=>beq_eq_false_iff_ne.mpr fun q=>absurd (q ▸ (letN_rng sh (g j)).1) (by decide)
 show [(32 == 47),letN sh (g 0) == 47,32 == 47,letN sh (g 1) == 47,32 == 47,letN sh (g 2) == 47,32 == 47,letN sh (g 3) == 47,32 == 47,letN sh (g 4) == 47] = _
 rw [k,k,k,k,k]; rfl
theorem page_cuts (sh:Int) (f:Nat → Nat → Int) :
  (pageL ((rowOf (f 0)).map (letN sh)) ((rowOf (f 1)).map (letN sh)) ((rowOf (f 2)).map (letN sh)) ((rowOf (f 3)).map (letN sh)) ((rowOf (f 4)).map (letN sh))).map (· == 47) = (let a:=rowL [65,65,65,65,65]; a ++ 47 :: (a ++ 47 :: (a ++ 47 :: (a ++ 47 :: a)))).map (· == 47):=by
 unfold pageL
 rw [List.map_append,List.map_cons,List.map_append,List.map_cons,List.map_append,List.map_cons,List.map_append,List.map_cons,map_row,map_row,map_row,map_row,map_row]
 rfl
theorem kind_pos (s:Str) : decide (Builtin.Str.strKind s < Builtin.Str.strKind "/") = false:=by
 rw [show Builtin.Str.strKind "/" = 1 from by decide +kernel,decide_eq_false_iff_not]
 unfold Builtin.Str.strKind
 split
 ·decide
 ·split <;> decide
noncomputable def itemB (s t:Nat) : Bool:=decide ((strPick allLetters (some (s:Int)) (some ((s:Int) + 4))).length = 4) &&
 ((seqIndex? (t:Int) (strPick allLetters (some (s:Int)) (some ((s:Int) + 4))).length).bind ((strPick allLetters (some (s:Int)) (some ((s:Int) + 4))).cps[·]?) == some (65 + digit (s:Int) (t:Int))) &&
 ((Builtin.Str.occurrences (strPick allLetters (some (s:Int)) (some ((s:Int) + 4))) (letT (s:Int) (t:Int)) 0 (strPick allLetters (some (s:Int)) (some ((s:Int) + 4))).length 1).head? == some t)
theorem item_all : ∀ s < 16,∀ t < 4,itemB s t = true:=by decide +kernel
theorem item_of {sh t:Int} (h:0 ≤ sh ∧ sh < 16) (ht:0 ≤ t ∧ t ≤ 3) : (strPick allLetters (some sh) (some (sh + 4))).length = 4 ∧ (seqIndex? t (strPick allLetters (some sh) (some (sh + 4))).length).bind ((strPick allLetters (some sh) (some (sh + 4))).cps[·]?) = some (65 + digit sh t) ∧
  ∃ r,Builtin.Str.occurrences (strPick allLetters (some sh) (some (sh + 4))) (letT sh t) 0 (strPick allLetters (some sh) (some (sh + 4))).length 1 = t.toNat :: r:=by
 have k:=item_all sh.toNat (toNat_lt h.1 h.2) t.toNat (toNat_lt ht.1 (Int.lt_add_one_of_le ht.2))
 unfold itemB at k
 rw [Int.toNat_of_nonneg h.1,Int.toNat_of_nonneg ht.1,Bool.and_eq_true,Bool.and_eq_true] at k
 obtain ⟨⟨k1,k2⟩,k3⟩:=k
 refine ⟨of_decide_eq_true k1,eq_of_beq k2,?_⟩
 generalize Builtin.Str.occurrences (strPick allLetters (some sh) (some (sh + 4))) (letT sh t) 0 (strPick allLetters (some sh) (some (sh + 4))).length 1 = o at *
 cases o with
 | nil=>exact absurd (eq_of_beq k3) (by simp)
 | cons a r=>exact ⟨r,by rw [Option.some.inj (eq_of_beq k3)]⟩
theorem TabS.item {T:List (List Int)} (tab:TabS T) {row:List Int} (hr:row ∈ T) {t:Int} (ht:t ∈ row) : 0 ≤ t ∧ t ≤ 3:=by
 obtain ⟨i,hi,rfl⟩:=List.mem_iff_getElem.mp hr
 obtain ⟨j,hj,rfl⟩:=List.mem_iff_getElem.mp ht
 have hi5 : i < 5:=by rwa [tab.ok.len] at hi
 have e : T.getD i [] = T[i]:=by rw [List.getD_eq_getElem?_getD,List.getElem?_eq_getElem hi]; rfl
 have hj5 : j < 5:=by rw [← e,tab.ok.rows i hi5] at hj; exact hj
 have e2 : ent T i j = T[i][j]:=by unfold ent; rw [e,List.getD_eq_getElem?_getD,List.getElem?_eq_getElem hj]; rfl
 rw [← e2]
 by_cases q : i = j
 ·rw [← q,tab.diag i hi5]; decide
 ·have:=tab.rng i j hi5 hj5 q; w_left
theorem words_len (x:Str) : (Builtin.Str.spaceWords x (x.length + 1)).length = (PySem.wordsOf x).length:=by
 unfold PySem.wordsOf
 rw [List.length_map]
theorem pageFacts {sh:Int} {T:List (List Int)} (h:0 ≤ sh ∧ sh < 16) (tab:TabS T) : PageFacts sh T:=by
 have hR : ∀ r ∈ T,r.length = 5:=fun r hr=>by
  obtain ⟨i,hi,rfl⟩:=List.mem_iff_getElem.mp hr
  have:=tab.ok.rows i (tab.ok.len ▸ hi)
  rwa [List.getD_eq_getElem?_getD,List.getElem?_eq_getElem hi] at this
 have eT:=tab_of tab.ok.len tab.ok.rows
 obtain ⟨p1,p2,p3,p4,p5⟩:=page_text sh (ent T)
 rw [← eT] at p1 p2 p3 p4 p5
 have row:=fun {r:List Int} (hr:r ∈ T)=>by
  have:=row_text sh (fun j=>r.getD j 0)
  rwa [← row_of (hR r hr)] at this
 have hw : ∀ r ∈ T,PySem.wordsOf (rowText sh r) = r.map (letT sh):=fun r hr=>by
  rw [(row hr).1]
  have h5:=hR r hr
  have : ∀ x ∈ r.map (letN sh),Unicode.isSpace x = false:=fun x hx=>by
   obtain ⟨t,_,rfl⟩:=memm hx
   exact not_space (letN_rng sh t)
  cases r with
  | nil=>cases h5
  | cons t r=>
   rw [List.map_cons,scan_row this,← List.map_cons,List.map_map]
   rfl
 have hsw : ∀ r ∈ T,(Builtin.Str.spaceWords (rowText sh r) ((rowText sh r).length + 1)).length = 5:=fun r hr=>by
  rw [words_len,hw r hr,List.length_map,hR r hr]
 have hocc : Builtin.Str.occurrences (pageOf (lettersOf sh T)) "/" 0 (pageOf (lettersOf sh T)).length ((pageOf (lettersOf sh T)).length + 1) = [10,21,32,43]:=by
  rw [show ((pageOf (lettersOf sh T)).length + 1) = 55 from by rw [p2],p5]
  exact (occ_same (c:=47) (lim:=55) (page_cuts sh (ent T))).trans (by decide +kernel)
 refine ⟨p1,p3,fun r hr=>(row hr).2.2.1,fun r hr=>by rw [(row hr).2.2.2]; decide,by rw [(item_of h (t:=0) (by decide)).1]; decide,fun r hr t ht=>?_,fun r hr t ht=>(item_of h (tab.item hr ht)).2.2,by rw [p2]; decide,?_,by rw [hocc]; rfl,by rw [hocc]; exact p4,fun r hr=>by rw [(row hr).2.1]; decide,fun r hr=>by rw [hsw r hr]; decide,fun r hr=>?_,hw⟩
 ·have:=tab.item hr ht
  exact ⟨this.1,this.2,(item_of h this).2.1⟩
 ·rw [kind_pos,p2]; rfl
 ·rw [beq_eq_false_iff_ne]
  intro q
  have:=hsw r hr
  rw [q] at this
  cases this
end Mine.Internal
end
section
namespace Mine.Internal
noncomputable abbrev tie (T:List (List Int)) (x y:Nat) : Int:=tieP (T.getD (x - 107) []) y
noncomputable def hit (T:List (List Int)) (paint:Int) (n:Nat) (p:List Nat) : Bool:=(p.filter fun o=>tie T n o != paint) ≠ []
theorem hit_iff {T:List (List Int)} {paint:Int} {n:Nat} {p:List Nat} : hit T paint n p = true ↔ ∃ o ∈ p,tie T n o ≠ paint:=by
 unfold hit
 rw [decide_eq_true_eq]
 constructor
 ·intro h
  obtain ⟨o,ho⟩:=List.exists_mem_of_ne_nil _ h
  obtain ⟨h1,h2⟩:=List.mem_filter.mp ho
  exact ⟨o,h1,fun e=>by rw [e] at h2; exact absurd h2 (by simp)⟩
 ·rintro ⟨o,h1,h2⟩ e
  have : o ∈ p.filter fun o=>tie T n o != paint:=List.mem_filter.mpr ⟨h1,bne_iff_ne.mpr h2⟩
  rw [e] at this
  cases this
theorem join_fold {T:List (List Int)} {paint:Int} {n:Nat} : ∀ (ps:List (List Nat)) (j:List Nat) (o:List (List Nat)),ps.foldl (joinStep (T.getD (n - 107) []) paint) (j,o) = ((ps.filter (hit T paint n)).reverse.flatten ++ j,o ++ ps.filter fun p=>!hit T paint n p)
 | [],j,o=>by simp
 | p :: ps,j,o=>by
  rw [List.foldl_cons]
  by_cases h : hit T paint n p = true
  ·have e : joinStep (T.getD (n - 107) []) paint (j,o) p = (p ++ j,o):=by
    unfold joinStep
    exact if_pos (of_decide_eq_true h)
   rw [e,join_fold ps,List.filter_cons_of_pos h,List.filter_cons_of_neg (by rw [h]; decide),List.reverse_cons,List.flatten_append,List.flatten_singleton,List.append_assoc]
  ·have e : joinStep (T.getD (n - 107) []) paint (j,o) p = (j,o ++ [p]):=by
    unfold joinStep
    exact if_neg (fun q=>h (decide_eq_true q))
   rw [e,join_fold ps,List.filter_cons_of_neg h,List.filter_cons_of_pos (by rw [Bool.eq_false_iff.mpr h]; rfl),List.append_assoc]; rfl
theorem part_eq {T:List (List Int)} {paint:Int} {n:Nat} (ps:List (List Nat)) : partStep T paint ps n = ps.filter (fun p=>!hit T paint n p) ++ [(ps.filter (hit T paint n)).reverse.flatten ++ [n]]:=by
 unfold partStep
 rw [join_fold]
 rfl
theorem pair_mem {α:Type} {R:α → α → Prop} (hs:∀ a b,R a b → R b a) : ∀ {l:List α},l.Pairwise R → ∀ {a b:α},a ∈ l → b ∈ l → a ≠ b → R a b
 | [],_,_,_,h,_,_=>by cases h
 | c :: l,hp,a,b,ha,hb,hne=>by
  obtain ⟨h1,h2⟩:=List.pairwise_cons.mp hp
  rcases memc ha with rfl | ha
  ·rcases memc hb with rfl | hb
   ·exact absurd rfl hne
   ·exact h1 b hb
  ·rcases memc hb with e | hb
   ·rw [e]; exact hs _ _ (h1 a ha)
   ·exact pair_mem hs h2 ha hb hne
noncomputable def Off (T:List (List Int)) (paint:Int) (A B:List Nat) : Prop:=∀ x ∈ A,∀ y ∈ B,x ≠ y ∧ tie T x y = paint ∧ tie T y x = paint
theorem Off.sym {T:List (List Int)} {paint:Int} (A B:List Nat) (h:Off T paint A B) : Off T paint B A:=fun x hx y hy=>⟨(h y hy x hx).1.symm,(h y hy x hx).2.2,(h y hy x hx).2.1⟩
structure PartI (T:List (List Int)) (paint:Int) (ms:List Nat) (ps:List (List Nat)) : Prop where
 perm : ps.flatten.Perm ms
 off : ps.Pairwise (Off T paint)
 con : ∀ f : Nat → Bool,(∀ x ∈ ms,∀ y ∈ ms,f x ≠ f y → tie T x y = paint) → ∀ p ∈ ps,∀ x ∈ p,∀ y ∈ p,f x = f y
theorem filter_perm {α:Type} (p:α → Bool) : ∀ l : List α,(l.filter (fun a=>!p a) ++ l.filter p).Perm l
 | []=>.nil
 | a :: l=>by
  have ih:=filter_perm p l
  cases h : p a with
  | true=>rw [List.filter_cons_of_neg (by rw [h]; decide),List.filter_cons_of_pos h]; exact List.perm_middle.trans (ih.cons a)
  | false=>rw [List.filter_cons_of_pos (by rw [h]; rfl),List.filter_cons_of_neg (by rw [h]; decide)]; exact ih.cons a
theorem PartI.step {T:List (List Int)} {paint:Int} {ms:List Nat} {ps:List (List Nat)} {n:Nat} (h:PartI T paint ms ps) (hn:n ∉ ms) (hs:∀ x ∈ ms,tie T n x = tie T x n) : PartI T paint (ms ++ [n]) (partStep T paint ps n):=by
 rw [part_eq]
 have hmem : ∀ {p:List Nat} {x:Nat},p ∈ ps → x ∈ p → x ∈ ms:=fun hp hx=>h.perm.mem_iff.mp (List.mem_flatten.mpr ⟨_,hp,hx⟩)
 refine ⟨?_,List.pairwise_append.mpr ⟨h.off.filter _,List.pairwise_singleton _ _,fun A hA B hB=>?_⟩,fun f hf p hp=>?_⟩
 ·rw [List.flatten_append,List.flatten_singleton,← List.append_assoc]
  refine List.Perm.append ?_ (List.Perm.refl _)
  refine List.Perm.trans (List.Perm.append (List.Perm.refl _) (List.Perm.flatten (List.reverse_perm _))) ?_
  rw [← List.flatten_append]
  exact (List.Perm.flatten (filter_perm _ ps)).trans h.perm
 ·rw [mem1 hB]
  obtain ⟨hA1,hA2⟩:=List.mem_filter.mp hA
  intro x hx y hy
  have hxm:=hmem hA1 hx
  rcases mema hy with hy | hy
  ·obtain ⟨p,hp,hy⟩:=List.mem_flatten.mp hy
   obtain ⟨hp1,hp2⟩:=List.mem_filter.mp (List.mem_reverse.mp hp)
   exact pair_mem Off.sym h.off hA1 hp1 (fun e=>by rw [e,hp2] at hA2; cases hA2) x hx y hy
  ·rw [mem1 hy]
   have : tie T n x = paint:=Classical.byContradiction fun q=>by
    rw [hit_iff.mpr ⟨x,hx,q⟩] at hA2; cases hA2
   exact ⟨fun e=>hn (e ▸ hxm),by rw [← hs x hxm]; exact this,this⟩
 ·have hf' : ∀ x ∈ ms,∀ y ∈ ms,f x ≠ f y → tie T x y = paint:=fun x hx y hy=>hf x (memL _ hx) y (memL _ hy)
  rcases mema hp with hp | hp
  ·exact h.con f hf' p (List.mem_filter.mp hp).1
  ·rw [mem1 hp]
   have key : ∀ x ∈ (ps.filter (hit T paint n)).reverse.flatten ++ [n],f x = f n:=fun x hx=>by
    rcases mema hx with hx | hx
    ·obtain ⟨q,hq,hx⟩:=List.mem_flatten.mp hx
     obtain ⟨hq1,hq2⟩:=List.mem_filter.mp (List.mem_reverse.mp hq)
     obtain ⟨o,ho,hne⟩:=hit_iff.mp hq2
     have e1 : f n = f o:=Classical.byContradiction fun q=>hne (hf n (memR _ (.head _)) o (memL _ (hmem hq1 ho)) q)
     exact (h.con f hf' q hq1 x hx o ho).trans e1.symm
    ·rw [mem1 hx]
   exact fun x hx y hy=>(key x hx).trans (key y hy).symm
theorem PartI.fold {T:List (List Int)} {paint:Int} : ∀ (ns ms:List Nat) (ps:List (List Nat)),PartI T paint ms ps → (ms ++ ns).Nodup → (∀ x ∈ ms ++ ns,∀ y ∈ ms ++ ns,tie T x y = tie T y x) → PartI T paint (ms ++ ns) (ns.foldl (partStep T paint) ps)
 | [],ms,ps,h,_,_=>by rw [List.append_nil]; exact h
 | n :: ns,ms,ps,h,hd,hs=>by
  rw [List.foldl_cons]
  rw [List.append_cons] at hd hs ⊢
  refine PartI.fold ns (ms ++ [n]) _ (h.step (fun q=>?_) fun x hx=>hs n (by simp) x (by simp [hx])) hd hs
  have:=(List.nodup_append.mp (List.nodup_append.mp hd).1).2.2 n q n (.head _)
  exact this rfl
theorem parts_I {T:List (List Int)} {ms:List Nat} {paint:Int} (hd:ms.Nodup) (hs:∀ x ∈ ms,∀ y ∈ ms,tie T x y = tie T y x) : PartI T paint ms (partsF T ms paint):=by
 have h:=PartI.fold (T:=T) (paint:=paint) ms [] [] ⟨.nil,.nil,fun ζ ζ p hp=>by cases hp⟩ hd hs
 exact h
theorem PartI.other {T:List (List Int)} {paint:Int} {ms:List Nat} {ps:List (List Nat)} (h:PartI T paint ms ps) (h1:1 < ps.length) (hne:∀ p ∈ ps,p ≠ []) {P:List Nat} (hP:P ∈ ps) : ∃ Q ∈ ps,Off T paint P Q ∧ P ≠ Q:=by
 have ho:=h.off
 clear h
 cases ps with | nil=>cases hP | cons A ps=>
 cases ps with | nil=>exact absurd (show 1 < 1 from h1) (by decide) | cons B ps=>
  have hoff : Off T paint A B:=(List.pairwise_cons.mp ho).1 B (.head _)
  have hab : A ≠ B:=fun e=>by
   obtain ⟨x,hx⟩:=List.exists_mem_of_ne_nil A (hne A (.head _))
   exact (hoff x hx x (e ▸ hx)).1 rfl
  by_cases e : P = A
  ·rw [e]; exact ⟨B,.tail _ (.head _),hoff,hab⟩
  ·exact ⟨A,.head _,pair_mem Off.sym ho hP (.head _) e,e⟩
theorem PartI.part {T:List (List Int)} {paint:Int} {ms:List Nat} {ps:List (List Nat)} (h:PartI T paint ms ps) {x:Nat} (hx:x ∈ ms) : ∃ P ∈ ps,x ∈ P:=by
 obtain ⟨P,hP,hx⟩:=List.mem_flatten.mp (h.perm.mem_iff.mpr hx)
 exact ⟨P,hP,hx⟩
theorem one_paint {T:List (List Int)} {ms:List Nat} {p q:Int} (hpq:p ≠ q) {ps qs:List (List Nat)} (hp:PartI T p ms ps) (hq:PartI T q ms qs) (np:∀ a ∈ ps,a ≠ []) (nq:∀ a ∈ qs,a ≠ []) (lp:1 < ps.length) (lq:1 < qs.length) : False:=by
 obtain ⟨A,hA⟩ : ∃ A,A ∈ qs:=by cases qs with | nil=>cases lq | cons A _=>exact ⟨A,.head _⟩
 obtain ⟨B,hB,hAB,hne⟩:=hq.other lq nq hA
 obtain ⟨x,hx⟩:=List.exists_mem_of_ne_nil A (nq A hA)
 obtain ⟨y,hy⟩:=List.exists_mem_of_ne_nil B (nq B hB)
 have hxm : x ∈ ms:=hq.perm.mem_iff.mp (List.mem_flatten.mpr ⟨A,hA,hx⟩)
 have hym : y ∈ ms:=hq.perm.mem_iff.mp (List.mem_flatten.mpr ⟨B,hB,hy⟩)
 obtain ⟨P,hP,hxP⟩:=hp.part hxm
 obtain ⟨P',hP',hyP⟩:=hp.part hym
 have hxy:=(hAB x hx y hy).2.1
 have eP : P = P':=Classical.byContradiction fun e=>hpq ((pair_mem Off.sym hp.off hP hP' e x hxP y hyP).2.1.symm.trans hxy)
 obtain ⟨Z,hZ,hPZ,_⟩:=hp.other lp np hP
 obtain ⟨z,hz⟩:=List.exists_mem_of_ne_nil Z (np Z hZ)
 have hzm : z ∈ ms:=hp.perm.mem_iff.mp (List.mem_flatten.mpr ⟨Z,hZ,hz⟩)
 obtain ⟨C,hC,hzC⟩:=hq.part hzm
 have e1 : A = C:=Classical.byContradiction fun e=>hpq ((hPZ x hxP z hz).2.1.symm.trans (pair_mem Off.sym hq.off hA hC e x hx z hzC).2.1)
 have e2 : B = C:=Classical.byContradiction fun e=>hpq ((hPZ y (eP ▸ hyP) z hz).2.1.symm.trans (pair_mem Off.sym hq.off hB hC e y hy z hzC).2.1)
 exact hne (e1.trans e2.symm)
end Mine.Internal
end
section
namespace Mine.Internal
noncomputable abbrev Lab:=List (Nat × Nat)
noncomputable def dtxt : Lab → List Nat
 | []=>localL
 | a :: r=>labelD a.1 a.2 (dtxt r)
theorem dtxt_len : ∀ r : Lab,(dtxt r).length = 3 * r.length + 5
 | []=>rfl
 | a :: r=>by
  show (dtxt r).length + 1 + 1 + 1 = 3 * (r.length + 1) + 5
  rw [dtxt_len r]; w_left
structure LabOk (r:Lab) : Prop where
 lt : ∀ a ∈ r,a.1 < 3 ∧ a.2 < 5
theorem rgb_inj : ∀ p < 3,∀ q < 3,rgbC p = rgbC q → p = q:=by decide
theorem dtxt_inj : ∀ {r s:Lab},LabOk r → LabOk s → dtxt r = dtxt s → r = s
 | [],[],_,_,_=>rfl
 | [],b :: s,_,_,h=>by
  have:=congrArg List.length h
  rw [dtxt_len,dtxt_len,List.length_cons,List.length_nil] at this; w_left
 | a :: r,[],_,_,h=>by
  have:=congrArg List.length h
  rw [dtxt_len,dtxt_len,List.length_cons,List.length_nil] at this; w_left
 | a :: r,b :: s,hr,hs,h=>by
  injection h with h1 h2
  injection h2 with h2 h3
  injection h3 with _ h4
  have e1:=rgb_inj _ (hr.lt a (.head _)).1 _ (hs.lt b (.head _)).1 h1
  have e2 : a.2 = b.2:=Nat.add_left_cancel h2
  have e3:=dtxt_inj (r:=r) (s:=s) ⟨fun c hc=>hr.lt c (.tail _ hc)⟩ ⟨fun c hc=>hs.lt c (.tail _ hc)⟩ h4
  rw [e3,show a = b from Prod.ext e1 e2]
theorem suf_to : ∀ (s:Lab) (r:Lab) (x:Nat),LabOk r → LabOk s → 46 :: dtxt r <:+ x :: 46 :: dtxt s → r <:+ s
 | s,r,x,hr,hs,h=>by
  rcases List.suffix_cons_iff.mp h with e | h
  ·have:=congrArg List.length e
   rw [List.length_cons,List.length_cons,List.length_cons,dtxt_len,dtxt_len] at this; w_left
  rcases List.suffix_cons_iff.mp h with e | h
  ·injection e with _ e
   rw [dtxt_inj hr hs e]; exact List.suffix_refl _
  cases s with
  | nil=>
   have:=h.length_le
   rw [List.length_cons,dtxt_len,dtxt_len,List.length_nil] at this; w_left
  | cons b s=>
   rcases List.suffix_cons_iff.mp h with e | h
   ·have:=congrArg List.length e
    rw [List.length_cons,List.length_cons,List.length_cons,List.length_cons,dtxt_len,dtxt_len] at this; w_left
   ·exact (suf_to s r _ hr ⟨fun c hc=>hs.lt c (.tail _ hc)⟩ h).trans (List.suffix_cons _ _)
theorem suf_of (d:Lab) : ∀ (A:Lab) (x:Nat),46 :: dtxt d <:+ x :: 46 :: dtxt (A ++ d)
 | [],x=>List.suffix_cons _ _
 | a :: A,x=>((suf_of d A (118 + a.2)).trans (List.suffix_cons (rgbC a.1) _)).trans ((List.suffix_cons 46 _).trans (List.suffix_cons x _))
theorem dtxt_dot (r:Lab) : 46 ∈ dtxt r ∨ dtxt r = [108,111,99,97,108]:=by
 cases r with
 | nil=>exact .inr rfl
 | cons a r=>exact .inl (.tail _ (.tail _ (.head _)))
theorem dtxt_last : ∀ r : Lab,(dtxt r).getLast? = some 108
 | []=>rfl
 | a :: r=>by
  show (rgbC a.1 :: (118 + a.2) :: 46 :: dtxt r).getLast? = _
  rw [List.getLast?_cons,List.getLast?_cons,List.getLast?_cons,dtxt_last r]; rfl
theorem rgb_rng : ∀ p < 3,97 ≤ rgbC p ∧ rgbC p ≤ 122:=by decide
theorem dtxt_ch : ∀ {r:Lab},LabOk r → ∀ c ∈ dtxt r,isCh c
 | [],_,c,hc=>by
  have : ∀ c ∈ localL,97 ≤ c ∧ c ≤ 122:=by decide
  exact .inr (this c hc)
 | a :: r,h,c,hc=>by
  obtain ⟨h1,h2⟩:=h.lt a (.head _)
  rcases memc hc with rfl | hc
  ·exact .inr (rgb_rng _ h1)
  rcases memc hc with rfl | hc
  ·exact .inr ⟨by w_left,by w_left⟩
  rcases memc hc with rfl | hc
  ·exact .inl rfl
  ·exact dtxt_ch ⟨fun c hc=>h.lt c (.tail _ hc)⟩ c hc
noncomputable abbrev htxt (x:Nat) (r:Lab) : List Nat:=x :: 46 :: dtxt r
theorem whole_of {x:Nat} {r:Lab} (hx:isPt x) (hr:LabOk r) (hl:r.length ≤ 4) : Whole (htxt x r) (dtxt r):=by
 obtain ⟨h1,h2⟩:=hx
 have hlen : (htxt x r).length = 3 * r.length + 7:=by
  show (dtxt r).length + 1 + 1 = _
  rw [dtxt_len]
 refine ⟨⟨fun c hc=>?_,by rw [hlen]; w_left,by rw [hlen]; w_left⟩,by rw [hlen]; w_left,⟨x,by w_left,rfl⟩,dtxt_dot r,dtxt_last r,?_⟩
 ·rcases memc hc with rfl | hc
  ·exact .inr ⟨by w_left,by w_left⟩
  rcases memc hc with rfl | hc
  ·exact .inl rfl
  ·exact dtxt_ch hr c hc
 ·cases r with
  | nil=>decide
  | cons a r=>
   have:=rgb_rng _ (hr.lt a (.head _)).1
   show some (rgbC a.1) ≠ some 46
   intro e
   have e:=Option.some.inj e
   w_left
theorem reach_h {x:Nat} {r:Lab} (hx:x ≠ 46) : reachL (htxt x r) = 46 :: dtxt r:=by
 unfold reachL
 have e : (htxt x r).dropWhile (· != 46) = 46 :: dtxt r:=by
  rw [List.dropWhile_cons,if_pos (bne_iff_ne.mpr hx)]; rfl
 rw [e]
 dsimp only
 have hl : (htxt x r).getLast? = some 108:=by rw [List.getLast?_cons,List.getLast?_cons,dtxt_last]; rfl
 rw [hl,if_neg (fun q=>q.elim (fun q=>hx (Option.some.inj q)) (by decide)),if_pos (dtxt_dot r)]
theorem reach_d {a:Nat × Nat} {r:Lab} (h:a.1 < 3 ∧ a.2 < 5) : reachL (dtxt (a :: r)) = 46 :: dtxt r:=by
 have h1:=rgb_rng _ h.1
 unfold reachL
 have e : (dtxt (a :: r)).dropWhile (· != 46) = 46 :: dtxt r:=by
  show (rgbC a.1 :: (118 + a.2) :: 46 :: dtxt r).dropWhile (· != 46) = _
  rw [List.dropWhile_cons,if_pos (bne_iff_ne.mpr (by w_left)),List.dropWhile_cons,if_pos (bne_iff_ne.mpr (by w_left))]; rfl
 rw [e]
 dsimp only
 rw [dtxt_last,if_neg (fun q=>q.elim (fun q=>by have q:=Option.some.inj q; have : rgbC a.1 = 46:=q; w_left) (by decide)),if_pos (dtxt_dot r)]
noncomputable def tellG (host dom o:List Nat) (u:Option V) : Option V:=if u.isSome then u else if dom <:+ o then some (labV host) else none
theorem getD_cons {D:List (Str × V)} {x y:Str} {v:V} : getD ((x,v) :: D) y = if x = y then some v else getD D y:=by
 unfold getD
 rw [List.find?_cons]
 by_cases h : x = y
 ·rw [if_pos h,decide_eq_true h]; rfl
 ·rw [if_neg h,decide_eq_false h]
theorem getD_new {D:List (Str × V)} {x y:Str} {v:V} (h:¬ D.any (fun p=>p.1 = x) = true) : getD (D ++ [(x,v)]) y = if x = y then some v else getD D y:=by
 induction D with
 | nil=>exact getD_cons
 | cons p D ih=>
  rw [List.any_cons,Bool.or_eq_true,not_or] at h
  rw [List.cons_append,getD_cons,getD_cons,ih h.2]
  by_cases e : p.1 = y
  ·rw [if_pos e,if_pos e,if_neg (fun q=>h.1 (decide_eq_true (e.trans q.symm)))]
  ·rw [if_neg e,if_neg e]
theorem getD_mapP {x y:Str} {v:V} : ∀ D : List (Str × V),getD (D.map (fun p=>if p.1 = x then (p.1,v) else p)) y = if x = y ∧ D.any (fun p=>p.1 = x) = true then some v else getD D y
 | []=>by rw [if_neg (fun q=>by cases q.2)]; rfl
 | p :: D=>by
  rw [List.map_cons,List.any_cons]
  by_cases e : p.1 = x
  ·rw [if_pos e,getD_cons,getD_mapP D,getD_cons (D:=D) (x:=p.1) (v:=p.2),decide_eq_true e,Bool.true_or,e]
   by_cases e2 : x = y
   ·rw [if_pos e2,if_pos ⟨e2,rfl⟩]
   ·rw [if_neg e2,if_neg (fun q=>e2 q.1),if_neg (fun q=>e2 q.1),if_neg e2]
  ·rw [if_neg e,getD_cons (D:=D.map _) (x:=p.1) (v:=p.2),getD_mapP D,getD_cons (D:=D) (x:=p.1) (v:=p.2),decide_eq_false e,Bool.false_or]
   by_cases e3 : p.1 = y
   ·rw [if_pos e3,if_pos e3,if_neg (fun q=>e (e3.trans q.1.symm))]
   ·rw [if_neg e3,if_neg e3]
theorem getD_put {D:List (Str × V)} {x y:Str} {v:V} : getD (putD D x v) y = if x = y then some v else getD D y:=by
 unfold putD
 by_cases h : D.any (fun p=>p.1 = x) = true
 ·rw [if_pos h,getD_mapP]
  by_cases e : x = y
  ·rw [if_pos e,if_pos ⟨e,h⟩]
  ·rw [if_neg e,if_neg (fun q=>e q.1)]
 ·rw [if_neg h,getD_new h]
theorem tell_get {host dom:List Nat} {D:List (Str × V)} {o o':List Nat} : getD (tellStep host dom D o') (wrd o) = if o' = o then tellG host dom o (getD D (wrd o)) else getD D (wrd o):=by
 unfold tellStep tellG
 by_cases e : o' = o
 ·subst e
  rw [if_pos rfl]
  by_cases h : (getD D (wrd o')).isSome = true
  ·rw [if_pos h,if_pos h]
  ·rw [if_neg h,if_neg h]
   by_cases h2 : dom <:+ o'
   ·rw [if_pos h2,if_pos h2,getD_put,if_pos rfl]
   ·rw [if_neg h2,if_neg h2]
    cases q : getD D (wrd o') with
    | none=>rfl
    | some v=>rw [q] at h; exact absurd rfl h
 ·rw [if_neg e]
  by_cases h : (getD D (wrd o')).isSome = true
  ·rw [if_pos h]
  ·rw [if_neg h]
   by_cases h2 : dom <:+ o'
   ·rw [if_pos h2,getD_put,if_neg (fun q=>e (wrd_inj q))]
   ·rw [if_neg h2]
theorem tellG_idem {host dom o:List Nat} {u:Option V} : tellG host dom o (tellG host dom o u) = tellG host dom o u:=by
 cases u with
 | some v=>rfl
 | none=>
  by_cases h : dom <:+ o
  ·have : tellG host dom o none = some (labV host):=by unfold tellG; rw [if_neg (by decide),if_pos h]
   rw [this]; rfl
  ·have : tellG host dom o none = none:=by unfold tellG; rw [if_neg (by decide),if_neg h]
   rw [this,this]
theorem tells_get {host dom:List Nat} {o:List Nat} : ∀ (os:List (List Nat)) (D:List (Str × V)),o ∈ os ∨ tellG host dom o (getD D (wrd o)) = getD D (wrd o) → getD (os.foldl (tellStep host dom) D) (wrd o) = tellG host dom o (getD D (wrd o))
 | [],D,h=>h.elim (fun h=>by cases h) fun h=>h.symm
 | a :: os,D,h=>by
  rw [List.foldl_cons]
  by_cases e : a = o
  ·have e1 : getD (tellStep host dom D a) (wrd o) = tellG host dom o (getD D (wrd o)):=by rw [tell_get,if_pos e]
   rw [tells_get os _ (.inr (by rw [e1,tellG_idem])),e1,tellG_idem]
  ·have e1 : getD (tellStep host dom D a) (wrd o) = getD D (wrd o):=by rw [tell_get,if_neg e]
   rw [tells_get os _ (by
    rw [e1]
    refine h.imp (fun h=>?_) id
    rcases memc h with h | h
    ·exact absurd h.symm e
    ·exact h),e1]
theorem climb_shift {others:List (List Nat)} {st:List Nat × List (Str × V)} : ∀ n,climbN others st (n + 1) = climbN others (climbStep others st) n
 | 0=>rfl
 | n + 1=>by
  show climbStep others (climbN others st (n + 1)) = climbStep others (climbN others (climbStep others st) n)
  rw [climb_shift n]
theorem climb_local {others:List (List Nat)} {D:List (Str × V)} : ∀ n,climbN others (localL,D) n = (localL,D)
 | 0=>rfl
 | n + 1=>by
  show climbStep others (climbN others (localL,D) n) = _
  rw [climb_local n]
  unfold climbStep
  exact if_pos (show reachL localL = localL by decide)
noncomputable def spec : Lab → List Nat → Option V → Option V
 | [],o,u=>u
 | a :: r,o,u=>spec r o (tellG (dtxt (a :: r)) (46 :: dtxt r) o u)
theorem climb_dom {others:List (List Nat)} {o:List Nat} (ho:o ∈ others) : ∀ (r:Lab) (D:List (Str × V)) (n:Nat),LabOk r → r.length ≤ n → getD (climbN others (dtxt r,D) n).2 (wrd o) = spec r o (getD D (wrd o))
 | [],D,n,_,_=>by
  show getD (climbN others (localL,D) n).2 (wrd o) = _
  rw [climb_local]; rfl
 | a :: r,D,n + 1,h,hn=>by
  have hr:=reach_d (r:=r) (h.lt a (.head _))
  have hne : reachL (dtxt (a :: r)) ≠ dtxt (a :: r):=by
   rw [hr]
   intro e
   have:=congrArg List.length e
   rw [List.length_cons,dtxt_len,dtxt_len,List.length_cons] at this; w_left
  have e : climbStep others (dtxt (a :: r),D) = (dtxt r,others.foldl (tellStep (dtxt (a :: r)) (46 :: dtxt r)) D):=by
   unfold climbStep
   rw [if_neg hne,hr]; rfl
  rw [climb_shift,e,climb_dom ho r _ n ⟨fun c hc=>h.lt c (.tail _ hc)⟩ (Nat.le_of_succ_le_succ hn),tells_get others D (.inl ho)]; rfl
 | a :: r,D,0,_,hn=>absurd hn (by rw [List.length_cons]; w_left)
theorem told_get {y:Nat} {r:Lab} {others:List (List Nat)} {o:List Nat} (hy:y ≠ 46) (ho:o ∈ others) (hr:LabOk r) (hl:r.length ≤ 5) : getD (climbN others (htxt y r,[]) 6).2 (wrd o) = spec r o (tellG (htxt y r) (46 :: dtxt r) o none):=by
 have hre:=reach_h (r:=r) hy
 have hne : reachL (htxt y r) ≠ htxt y r:=by
  rw [hre]
  intro e
  have:=congrArg List.length e
  rw [List.length_cons,List.length_cons,List.length_cons] at this; w_left
 have e : climbStep others (htxt y r,[]) = (dtxt r,others.foldl (tellStep (htxt y r) (46 :: dtxt r)) []):=by
  unfold climbStep
  rw [if_neg hne,hre]; rfl
 rw [climb_shift,e,climb_dom ho r _ 5 hr hl,tells_get others [] (.inl ho)]; rfl
theorem lab_val : ∀ p < 3,Txt.find "rgb" (chr (rgbC p)) = (p:Int):=by decide +kernel
theorem spec_some {v:V} {o:List Nat} : ∀ r : Lab,spec r o (some v) = some v
 | []=>rfl
 | a :: r=>spec_some r
theorem not_suf {A B d:Lab} {p q n m:Nat} (h:(p,n) ≠ (q,m)) (X:Lab) : ¬ X ++ (p,n) :: d <:+ B ++ (q,m) :: d:=fun hs=>by
 have h1 : (p,n) :: d <:+ B ++ (q,m) :: d:=(List.suffix_append _ _).trans hs
 have h2 : (q,m) :: d <:+ B ++ (q,m) :: d:=List.suffix_append _ _
 have e:=List.suffix_of_suffix_length_le h1 h2 (by rw [List.length_cons,List.length_cons]; exact Nat.le_refl _)
 have e:=e.eq_of_length (by rw [List.length_cons,List.length_cons])
 injection e with e _
 exact h e
theorem spec_ap {x p n m:Nat} {B d:Lab} (hnm:n ≠ m) (hp:p < 3) : ∀ A : Lab,LabOk (A ++ (p,n) :: d) → LabOk (B ++ (p,m) :: d) → spec (A ++ (p,n) :: d) (htxt x (B ++ (p,m) :: d)) none = some (.int (p:Int))
 | [],hr,hs=>by
  have hs' : 46 :: dtxt d <:+ htxt x (B ++ (p,m) :: d):=by
   have:=suf_of d (B ++ [(p,m)]) x
   rwa [List.append_assoc] at this
  show spec d _ (tellG (dtxt ((p,n) :: d)) (46 :: dtxt d) (htxt x (B ++ (p,m) :: d)) none) = _
  unfold tellG
  rw [if_neg (by decide),if_pos hs',spec_some]
  show some (V.int (Txt.find "rgb" (chr (rgbC p)))) = _
  rw [lab_val p hp]
 | a :: A,hr,hs=>by
  have hr' : LabOk (A ++ (p,n) :: d):=⟨fun c hc=>hr.lt c (.tail _ hc)⟩
  show spec (A ++ (p,n) :: d) _ (tellG _ (46 :: dtxt (A ++ (p,n) :: d)) (htxt x (B ++ (p,m) :: d)) none) = _
  have hn : ¬ 46 :: dtxt (A ++ (p,n) :: d) <:+ htxt x (B ++ (p,m) :: d):=fun h=>not_suf (A:=A) (fun e=>hnm (Prod.mk.inj e).2) A (suf_to _ _ x hr' hs h)
  unfold tellG
  rw [if_neg (by decide),if_neg hn]
  exact spec_ap hnm hp A hr' hs
theorem told_ap {x y p n m:Nat} {A B d:Lab} {others:List (List Nat)} (hy:y ≠ 46) (hnm:n ≠ m) (hp:p < 3) (hr:LabOk (A ++ (p,n) :: d)) (hs:LabOk (B ++ (p,m) :: d)) (hl:(A ++ (p,n) :: d).length ≤ 5) (ho:htxt x (B ++ (p,m) :: d) ∈ others) :
  getD (climbN others (htxt y (A ++ (p,n) :: d),[]) 6).2 (wrd (htxt x (B ++ (p,m) :: d))) = some (.int (p:Int)):=by
 rw [told_get hy ho hr hl]
 have hn : ¬ 46 :: dtxt (A ++ (p,n) :: d) <:+ htxt x (B ++ (p,m) :: d):=fun h=>not_suf (A:=A) (fun e=>hnm (Prod.mk.inj e).2) A (suf_to _ _ x hr hs h)
 have : tellG (htxt y (A ++ (p,n) :: d)) (46 :: dtxt (A ++ (p,n) :: d)) (htxt x (B ++ (p,m) :: d)) none = none:=by
  unfold tellG
  rw [if_neg (by decide),if_neg hn]
 rw [this]
 exact spec_ap hnm hp A hr hs
end Mine.Internal
end
section
namespace Mine.Internal
noncomputable def CutG (g:Nat → Nat → Int) (S:List Nat) : Prop:=∃ f : Nat → Bool,∃ p : Int,(∃ x ∈ S,f x = true) ∧ (∃ y ∈ S,f y = false) ∧ ∀ x ∈ S,∀ y ∈ S,f x = true → f y = false → g x y = p
structure Fine (g:Nat → Nat → Int) (S:List Nat) : Prop where
 sym : ∀ x ∈ S,∀ y ∈ S,g x y = g y x
 tri : ∀ x ∈ S,∀ y ∈ S,∀ z ∈ S,x ≠ y → x ≠ z → y ≠ z → g x y ≠ g y z → g x z ≠ g y z → g x y = g x z
 quad : ∀ x ∈ S,∀ y ∈ S,∀ z ∈ S,∀ w ∈ S,x ≠ y → x ≠ z → x ≠ w → y ≠ z → y ≠ w → z ≠ w → ∀ p q,p ≠ q → g x y = p → g y z = p → g z w = p → g x z = q → g x w = q → g y w ≠ q
theorem Fine.tail {g:Nat → Nat → Int} {o:Nat} {S:List Nat} (h:Fine g (o :: S)) : Fine g S:=
 ⟨fun x hx y hy=>h.sym x (.tail _ hx) y (.tail _ hy),fun x hx y hy z hz=>h.tri x (.tail _ hx) y (.tail _ hy) z (.tail _ hz),fun x hx y hy z hz w hw=>h.quad x (.tail _ hx) y (.tail _ hy) z (.tail _ hz) w (.tail _ hw)⟩
theorem cut_add {g:Nat → Nat → Int} {o:Nat} {S:List Nat} (h:Fine g (o :: S)) (ho:o ∉ S) (hc:CutG g S) : CutG g (o :: S):=by
 obtain ⟨f,p,⟨t,ht,hft⟩,⟨u,hu,hfu⟩,hf⟩:=hc
 have ne : ∀ {z},z ∈ S → z ≠ o:=fun hz e=>ho (e ▸ hz)
 by_cases hA : ∀ b ∈ S,f b = false → g o b = p
 ·refine ⟨fun z=>z == o || f z,p,⟨o,.head _,by dsimp only; rw [beq_self_eq_true]; rfl⟩,⟨u,.tail _ hu,by dsimp only; rw [hfu,beq_eq_false_iff_ne.mpr (ne hu)]; rfl⟩,fun x hx y hy h1 h2=>?_⟩
  dsimp only at h1 h2
  rw [Bool.or_eq_false_iff] at h2
  have hyS : y ∈ S:=(memc hy).resolve_left (beq_eq_false_iff_ne.mp h2.1)
  rcases memc hx with rfl | hx
  ·exact hA y hyS h2.2
  ·rw [beq_eq_false_iff_ne.mpr (ne hx),Bool.false_or] at h1
   exact hf x hx y hyS h1 h2.2
 by_cases hB : ∀ a ∈ S,f a = true → g o a = p
 ·refine ⟨fun z=>z != o && f z,p,⟨t,.tail _ ht,by dsimp only; rw [hft,bne_iff_ne.mpr (ne ht)]; rfl⟩,⟨o,.head _,by dsimp only; rw [bne_self_eq_false]; rfl⟩,fun x hx y hy h1 h2=>?_⟩
  dsimp only at h1 h2
  rw [Bool.and_eq_true] at h1
  have hxS : x ∈ S:=(memc hx).resolve_left (bne_iff_ne.mp h1.1)
  rcases memc hy with rfl | hy
  ·rw [h.sym x hx y (.head _)]; exact hB x hxS h1.2
  ·rw [bne_iff_ne.mpr (ne hy),Bool.true_and] at h2
   exact hf x hxS y hy h1.2 h2
 obtain ⟨b,hb⟩:=Classical.not_forall.mp hA
 rw [Classical.not_imp,Classical.not_imp] at hb
 obtain ⟨hbS,hfb,hgb⟩:=hb
 obtain ⟨a,ha⟩:=Classical.not_forall.mp hB
 rw [Classical.not_imp,Classical.not_imp] at ha
 obtain ⟨haS,hfa,hga⟩:=ha
 have sep : ∀ {x y},f x = true → f y = false → x ≠ y:=fun h1 h2 e=>by rw [e,h2] at h1; cases h1
 have hab:=hf a haS b hbS hfa hfb
 have hq : g o a = g o b:=h.tri o (.head _) a (.tail _ haS) b (.tail _ hbS) (ne haS).symm (ne hbS).symm (sep hfa hfb) (by rw [hab]; exact hga) (by rw [hab]; exact hgb)
 have hall : ∀ z ∈ S,g o z ≠ p → g o z = g o a:=fun z hz hne=>by
  cases hfz : f z with
  | true=>
   have e:=hf z hz b hbS hfz hfb
   exact (h.tri o (.head _) z (.tail _ hz) b (.tail _ hbS) (ne hz).symm (ne hbS).symm (sep hfz hfb) (by rw [e]; exact hne) (by rw [e]; exact hgb)).trans hq.symm
  | false=>
   have e:=hf a haS z hz hfa hfz
   exact (h.tri o (.head _) a (.tail _ haS) z (.tail _ hz) (ne haS).symm (ne hz).symm (sep hfa hfz) (by rw [e]; exact hga) (by rw [e]; exact hne)).symm
 by_cases hC : ∃ c ∈ S,g o c = p
 ·obtain ⟨c,hcS,hgc⟩:=hC
  refine ⟨fun z=>z != o && g o z == p,p,⟨c,.tail _ hcS,by dsimp only; rw [hgc,beq_self_eq_true,bne_iff_ne.mpr (ne hcS)]; rfl⟩,⟨o,.head _,by dsimp only; rw [bne_self_eq_false]; rfl⟩,fun x hx y hy h1 h2=>?_⟩
  dsimp only at h1 h2
  rw [Bool.and_eq_true] at h1
  have hxS : x ∈ S:=(memc hx).resolve_left (bne_iff_ne.mp h1.1)
  have hgx : g o x = p:=eq_of_beq h1.2
  rcases memc hy with rfl | hyS
  ·rw [h.sym x hx y (.head _)]; exact hgx
  rw [bne_iff_ne.mpr (ne hyS),Bool.true_and] at h2
  have hgy:=hall y hyS (beq_eq_false_iff_ne.mp h2)
  have hxy : x ≠ y:=fun e=>hga (by rw [← hgy,← e]; exact hgx)
  refine Classical.byContradiction fun hne=>?_
  have hxyq : g x y = g o a:=by
   have e1:=h.sym x hx y hy
   have:=h.tri x hx o (.head _) y hy (ne hxS) hxy (ne hyS).symm (by rw [h.sym x hx o (.head _),hgx,hgy]; exact Ne.symm hga)
   refine Classical.byContradiction fun hn=>hne ?_
   have:=this (by rw [hgy]; exact hn)
   rw [← this,h.sym x hx o (.head _)]; exact hgx
  cases hfx : f x with
  | true=>cases hfy : f y with
   | false=>exact hne (hf x hxS y hyS hfx hfy)
   | true=>exact h.quad o (.head _) x hx b (.tail _ hbS) y hy (ne hxS).symm (ne hbS).symm (ne hyS).symm (sep hfx hfb) hxy (sep hfy hfb).symm p (g o a) (Ne.symm hga) hgx (hf x hxS b hbS hfx hfb) (by rw [h.sym b (.tail _ hbS) y hy]; exact hf y hyS b hbS hfy hfb) hq.symm hgy hxyq
  | false=>cases hfy : f y with
   | true=>exact hne (by rw [h.sym x hx y hy]; exact hf y hyS x hxS hfy hfx)
   | false=>exact h.quad o (.head _) x hx a (.tail _ haS) y hy (ne hxS).symm (ne haS).symm (ne hyS).symm (sep hfa hfx).symm hxy (sep hfa hfy) p (g o a) (Ne.symm hga) hgx (by rw [h.sym x hx a (.tail _ haS)]; exact hf a haS x hxS hfa hfx) (hf a haS y hyS hfa hfy) rfl hgy hxyq
 ·refine ⟨fun z=>z == o,g o a,⟨o,.head _,beq_self_eq_true o⟩,⟨a,.tail _ haS,beq_eq_false_iff_ne.mpr (ne haS)⟩,fun x hx y hy h1 h2=>?_⟩
  dsimp only at h1 h2
  have hyS : y ∈ S:=(memc hy).resolve_left (beq_eq_false_iff_ne.mp h2)
  rw [eq_of_beq h1]
  exact hall y hyS fun e=>hC ⟨y,hyS,e⟩
theorem cut_ex {g:Nat → Nat → Int} : ∀ {S:List Nat},Fine g S → S.Nodup → 2 ≤ S.length → CutG g S
 | [x,y],h,hd,_=>by
  have hne : y ≠ x:=fun e=>(ndc hd).1 (by rw [e]; exact .head _)
  refine ⟨fun z=>z == x,g x y,⟨x,.head _,beq_self_eq_true x⟩,⟨y,.tail _ (.head _),beq_eq_false_iff_ne.mpr hne⟩,fun a ha b hb h1 h2=>?_⟩
  dsimp only at h1 h2
  rw [eq_of_beq h1,mem1 ((memc hb).resolve_left (beq_eq_false_iff_ne.mp h2))]
 | o :: y :: z :: S,h,hd,_=>by
  obtain ⟨h1,h2⟩:=ndc hd
  exact cut_add h h1 (cut_ex h.tail h2 (by rw [List.length_cons,List.length_cons]; w_left))
 | [],_,_,h=>absurd h (by decide)
 | [x],_,_,h=>absurd h (by rw [List.length_singleton]; decide)
end Mine.Internal
end
section
namespace Mine.Internal
theorem tie_ent {T:List (List Int)} (x y:Nat) : tie T x y = ent T (x - 107) (y - 107):=rfl
theorem tie_pos {T:List (List Int)} (i j:Nat) : tie T (107 + i) (107 + j) = ent T i j:=by rw [tie_ent,Nat.add_sub_cancel_left,Nat.add_sub_cancel_left]
theorem pt_idx {x:Nat} (h:isPt x) : x - 107 < 5 ∧ 107 + (x - 107) = x:=by
 exact ⟨pt_lt h.2,Nat.add_sub_of_le h.1⟩
theorem tie_sym {T:List (List Int)} (tab:TabS T) {x y:Nat} (hx:isPt x) (hy:isPt y) : tie T x y = tie T y x:=tab.sym _ _ (pt_idx hx).1 (pt_idx hy).1
theorem idx_ne {x y:Nat} (hx:isPt x) (hy:isPt y) (h:x ≠ y) : x - 107 ≠ y - 107:=fun e=>h (by rw [← (pt_idx hx).2,← (pt_idx hy).2,e])
theorem cl1_tri {T:List (List Int)} (h:cl1 T 5 = true) {l m k:Nat} (h1:l < m) (h2:m < k) (h3:k < 5) : gTri T l m k = true:=by
 have e1:=List.all_eq_true.mp h k (List.mem_range.mpr h3)
 have e2:=List.all_eq_true.mp e1 m (List.mem_range.mpr h2)
 exact List.all_eq_true.mp e2 l (List.mem_range.mpr h1)
theorem dist_iff {a b c:Int} : (!dist3 a b c) = true ↔ ¬ (a ≠ b ∧ a ≠ c ∧ b ≠ c):=by
 unfold dist3
 rw [Bool.not_eq_true',← Bool.not_eq_true,Bool.and_eq_true,Bool.and_eq_true,bne_iff_ne,bne_iff_ne,bne_iff_ne,and_assoc]
theorem tri_any {T:List (List Int)} (tab:TabS T) (h:cl1 T 5 = true) {i j k:Nat} (hi:i < 5) (hj:j < 5) (hk:k < 5) (h1:i ≠ j) (h2:i ≠ k) (h3:j ≠ k) (n1:ent T i j ≠ ent T j k) (n2:ent T i k ≠ ent T j k) : ent T i j = ent T i k:=by
 have s1:=tab.sym i j hi hj
 have s2:=tab.sym i k hi hk
 have s3:=tab.sym j k hj hk
 have key : ∀ {l m n:Nat},l < m → m < n → n < 5 → ¬ (ent T l m ≠ ent T l n ∧ ent T l m ≠ ent T m n ∧ ent T l n ≠ ent T m n):=fun a b c=>dist_iff.mp (cl1_tri h a b c)
 rcases Nat.lt_or_gt_of_ne h1 with a | a
 ·rcases Nat.lt_or_gt_of_ne h3 with b | b
  ·have:=key a b hk; w_left
  ·rcases Nat.lt_or_gt_of_ne h2 with c | c
   ·have:=key c b hj; w_left
   ·have:=key c a hj; w_left
 ·rcases Nat.lt_or_gt_of_ne h2 with b | b
  ·have:=key a b hk; w_left
  ·rcases Nat.lt_or_gt_of_ne h3 with c | c
   ·have:=key c b hi; w_left
   ·have:=key c a hi; w_left
noncomputable def sixP (g:Nat → Nat → Int) : List Nat → List Int
 | []=>[]
 | a :: l=>l.map (g a) ++ sixP g l
theorem sixP_perm {g:Nat → Nat → Int} (hs:∀ x y,g x y = g y x) {l m:List Nat} (h:l.Perm m) : (sixP g l).Perm (sixP g m):=by
 induction h with
 | nil=>exact .nil
 | cons a h ih=>exact (h.map _).append ih
 | swap a b l=>
  show (g b a :: l.map (g b) ++ (l.map (g a) ++ sixP g l)).Perm (g a b :: l.map (g a) ++ (l.map (g b) ++ sixP g l))
  rw [hs b a,List.cons_append,List.cons_append,← List.append_assoc,← List.append_assoc]
  exact ((List.perm_append_comm).append_right _).cons _
 | trans _ _ h1 h2=>exact h1.trans h2
theorem six_perm (T:List (List Int)) {left:Nat} (h:left < 5) : (sixL T left).Perm (sixP (ent T) (fourL left)):=
 five_cases (P:=fun left=>(sixL T left).Perm (sixP (ent T) (fourL left))) (((List.Perm.swap _ _ _).cons _).cons _) (((List.Perm.swap _ _ _).cons _).cons _) (((List.Perm.swap _ _ _).cons _).cons _) (((List.Perm.swap _ _ _).cons _).cons _) (((List.Perm.swap _ _ _).cons _).cons _) h
theorem cnt_perm {l m:List Int} (h:l.Perm m) (v:Int) : cnt l v = cnt m v:=by unfold cnt; rw [h.countP_eq]
noncomputable def imp (a:Bool) (b:Bool) : Bool:=match a with
 | true=>b
 | false=>true
theorem imp_of {a b:Bool} (h:imp a b = true) (ha:a = true) : b = true:=by rw [ha] at h; exact h
noncomputable def dis4 (i j k l:Nat) : Bool:=i != j && i != k && i != l && j != k && j != l && k != l
theorem dis4_of {i j k l:Nat} (h1:i ≠ j) (h2:i ≠ k) (h3:i ≠ l) (h4:j ≠ k) (h5:j ≠ l) (h6:k ≠ l) : dis4 i j k l = true:=by
 unfold dis4
 rw [bne_iff_ne.mpr h1,bne_iff_ne.mpr h2,bne_iff_ne.mpr h3,bne_iff_ne.mpr h4,bne_iff_ne.mpr h5,bne_iff_ne.mpr h6]; rfl
theorem four_perm : ∀ x < 5,∀ y < 5,∀ z < 5,∀ w < 5,imp (dis4 x y z w) (decide (10 - x - y - z - w < 5) && [x,y,z,w].isPerm (fourL (10 - x - y - z - w))) = true:=by decide +kernel
theorem is33_pq : ∀ p : Nat,p < 3 → ∀ q : Nat,q < 3 → p ≠ q → is33 (cnt [(p:Int),q,q,p,q,p] 0) (cnt [(p:Int),q,q,p,q,p] 1) (cnt [(p:Int),q,q,p,q,p] 2) = true:=by decide +kernel
theorem mono_all {l:List Int} (h:mono3 l = true) {u v:Int} (hu:u ∈ l) (hv:v ∈ l) : u = v:=by
 unfold mono3 at h
 split at h
 ·rename_i a b c
  rw [Bool.and_eq_true] at h
  have e1:=eq_of_beq h.1
  have e2:=eq_of_beq h.2
  subst e1 e2
  have key : ∀ x ∈ [a,a,a],x = a:=fun x hx=>List.eq_of_mem_replicate (n:=3) hx
  exact (key u hu).trans (key v hv).symm
 ·cases h
theorem mono_of {l:List Int} {p:Int} (hl:l.length = 3) (h:∀ x ∈ l,x = p) : mono3 l = true:=by
 rw [List.eq_replicate_of_mem h,hl]
 show (p == p && p == p) = true
 rw [beq_self_eq_true]; rfl
theorem star_mem {T:List (List Int)} {left p u:Nat} (hu:u ∈ fourL left) (h:u ≠ p) : ent T p u ∈ starL T left p:=List.mem_map_of_mem (List.mem_filter.mpr ⟨hu,bne_iff_ne.mpr h⟩)
theorem ent_sym {T:List (List Int)} (h:∀ r ∈ T,r.length = 5) (h5:T.length = 5) (hs:∀ i j,i < 5 → j < 5 → ent T i j = ent T j i) (i j:Nat) : ent T i j = ent T j i:=by
 have h0 : ∀ i j,5 ≤ i ∨ 5 ≤ j → ent T i j = 0:=fun i j hij=>by
  unfold ent
  by_cases q : i < 5
  ·have e : T.getD i [] = T[i]'(h5 ▸ q):=by rw [List.getD_eq_getElem?_getD,List.getElem?_eq_getElem (h5 ▸ q)]; rfl
   rw [e,List.getD_eq_getElem?_getD,List.getElem?_eq_none (by rw [h _ (List.getElem_mem _)]; exact hij.resolve_left (Nat.not_le.mpr q))]; rfl
  ·rw [List.getD_eq_getElem?_getD (l:=T),List.getElem?_eq_none (by rw [h5]; exact Nat.not_lt.mp q)]; rfl
 by_cases q : i < 5 ∧ j < 5
 ·exact hs i j q.1 q.2
 ·have : 5 ≤ i ∨ 5 ≤ j:=Classical.byContradiction fun n=>q ⟨Nat.not_le.mp fun a=>n (.inl a),Nat.not_le.mp fun a=>n (.inr a)⟩
  rw [h0 i j this,h0 j i this.symm]
theorem TabS.syms {T:List (List Int)} (tab:TabS T) : ∀ i j,ent T i j = ent T j i:=ent_sym (fun r hr=>by
 obtain ⟨i,hi,rfl⟩:=List.mem_iff_getElem.mp hr
 have:=tab.ok.rows i (tab.ok.len ▸ hi)
 rwa [List.getD_eq_getElem?_getD,List.getElem?_eq_getElem hi] at this) tab.ok.len tab.sym
theorem quad_any {T:List (List Int)} (tab:TabS T) (h:clq T 5 = true) {x y z w:Nat} (hx:x < 5) (hy:y < 5) (hz:z < 5) (hw:w < 5) (h1:x ≠ y) (h2:x ≠ z) (h3:x ≠ w) (h4:y ≠ z) (h5:y ≠ w) (h6:z ≠ w) {p q:Int} (hpq:p ≠ q)
  (e1:ent T x y = p) (e2:ent T y z = p) (e3:ent T z w = p) (e4:ent T x z = q) (e5:ent T x w = q) (e6:ent T y w = q) : False:=by
 have hi:=imp_of (four_perm x hx y hy z hz w hw) (dis4_of h1 h2 h3 h4 h5 h6)
 rw [Bool.and_eq_true] at hi
 have hleft:=of_decide_eq_true hi.1
 have hp:=List.isPerm_iff.mp hi.2
 have hg:=List.all_eq_true.mp h _ (List.mem_range.mpr hleft)
 have r1:=tab.rng x y hx hy h1
 have r2:=tab.rng x z hx hz h2
 rw [e1] at r1
 rw [e4] at r2
 have sy:=tab.syms
 generalize 10 - x - y - z - w = left at *
 have hmx : x ∈ fourL left:=hp.mem_iff.mp (.head _)
 have hmy : y ∈ fourL left:=hp.mem_iff.mp (.tail _ (.head _))
 have hmz : z ∈ fourL left:=hp.mem_iff.mp (.tail _ (.tail _ (.head _)))
 have hmw : w ∈ fourL left:=hp.mem_iff.mp (.tail _ (.tail _ (.tail _ (.head _))))
 have hsix : (sixL T left).Perm [p,q,q,p,q,p]:=by
  have:=(six_perm T hleft).trans (sixP_perm sy hp.symm)
  have e : sixP (ent T) [x,y,z,w] = [ent T x y,ent T x z,ent T x w,ent T y z,ent T y w,ent T z w]:=rfl
  rwa [e,e1,e2,e3,e4,e5,e6] at this
 have h33:=is33_pq p.toNat (by w_left) q.toNat (by w_left) fun e=>hpq (by rw [toNat_eq r1.1,toNat_eq r2.1,e])
 rw [Int.toNat_of_nonneg r1.1,Int.toNat_of_nonneg r2.1,← cnt_perm hsix,← cnt_perm hsix,← cnt_perm hsix] at h33
 have hns : noStar T left = true:=by
  refine List.all_eq_true.mpr fun a ha=>?_
  rw [Bool.not_eq_true',← Bool.not_eq_true]
  intro hm
  have bad : ∀ {u v},u ∈ fourL left → v ∈ fourL left → u ≠ a → v ≠ a → ent T a u = p → ent T a v ≠ q:=fun hu hv nu nv eu ev=>hpq (by rw [← eu,← ev]; exact mono_all hm (star_mem hu nu) (star_mem hv nv))
  rcases memc (hp.mem_iff.mpr ha) with e | ha
  ·subst e; exact bad hmy hmz h1.symm h2.symm e1 e4
  rcases memc ha with e | ha
  ·subst e; exact bad hmx hmw h1 h5.symm (sy _ _ ▸ e1) e6
  rcases memc ha with e | ha
  ·subst e; exact bad hmy hmx h4 h2 (sy _ _ ▸ e2) (sy _ _ ▸ e4)
  ·have e:=mem1 ha
   subst e; exact bad hmz hmx h6 h3 (sy _ _ ▸ e3) (sy _ _ ▸ e5)
 unfold gQuad at hg
 rw [h33,hns] at hg
 cases hg
theorem fine_of {T:List (List Int)} (tab:TabS T) (h:(cl1 T 5 && clq T 5) = true) {S:List Nat} (hS:∀ x ∈ S,isPt x) : Fine (tie T) S:=by
 rw [Bool.and_eq_true] at h
 refine ⟨fun x hx y hy=>tie_sym tab (hS x hx) (hS y hy),fun x hx y hy z hz h1 h2 h3 n1 n2=>?_,fun x hx y hy z hz w hw h1 h2 h3 h4 h5 h6 p q hpq e1 e2 e3 e4 e5 e6=>?_⟩
 ·exact tri_any tab h.1 (pt_idx (hS x hx)).1 (pt_idx (hS y hy)).1 (pt_idx (hS z hz)).1 (idx_ne (hS x hx) (hS y hy) h1) (idx_ne (hS x hx) (hS z hz) h2) (idx_ne (hS y hy) (hS z hz) h3) n1 n2
 ·exact quad_any tab h.2 (pt_idx (hS x hx)).1 (pt_idx (hS y hy)).1 (pt_idx (hS z hz)).1 (pt_idx (hS w hw)).1 (idx_ne (hS x hx) (hS y hy) h1) (idx_ne (hS x hx) (hS z hz) h2) (idx_ne (hS x hx) (hS w hw) h3) (idx_ne (hS y hy) (hS z hz) h4) (idx_ne (hS y hy) (hS w hw) h5) (idx_ne (hS z hz) (hS w hw) h6) hpq e1 e2 e3 e4 e5 e6
theorem cut_any {g:Nat → Nat → Int} {S:List Nat} (hs:∀ x ∈ S,∀ y ∈ S,g x y = g y x) (h:CutG g S) : ∃ (f:Nat → Bool) (p:Int),(∃ x ∈ S,∃ y ∈ S,f x ≠ f y) ∧ ∀ x ∈ S,∀ y ∈ S,f x ≠ f y → g x y = p:=by
 obtain ⟨f,p,⟨x,hx,h1⟩,⟨y,hy,h2⟩,hf⟩:=h
 refine ⟨f,p,⟨x,hx,y,hy,fun e=>by rw [h1,h2] at e; cases e⟩,fun a ha b hb hne=>?_⟩
 cases ea : f a with
 | true=>exact hf a ha b hb ea (by cases eb:f b with
  | true=>exact absurd (ea.trans eb.symm) hne
  | false=>rfl)
 | false=>
  rw [hs a ha b hb]
  exact hf b hb a ha (by cases eb:f b with
  | true=>rfl
  | false=>exact absurd (ea.trans eb.symm) hne) ea
theorem cut_tri {T:List (List Int)} (tab:TabS T) {l m h:Nat} (h1:l < m) (h2:m < h) (h3:h < 5) (hc:CutG (tie T) [107 + l,107 + m,107 + h]) : gTri T l m h = true:=by
 have hp : ∀ x ∈ [107 + l,107 + m,107 + h],isPt x:=all_c (pt_add (Nat.lt_trans h1 (Nat.lt_trans h2 h3))) (all_c (pt_add (Nat.lt_trans h2 h3)) (all_c (pt_add h3) all_n))
 obtain ⟨f,p,⟨x,hx,y,hy,hne⟩,hf⟩:=cut_any (fun x hx y hy=>tie_sym tab (hp x hx) (hp y hy)) hc
 have k1:=hf (107 + l) (.head _) (107 + m) (.tail _ (.head _))
 have k2:=hf (107 + l) (.head _) (107 + h) (.tail _ (.tail _ (.head _)))
 have k3:=hf (107 + m) (.tail _ (.head _)) (107 + h) (.tail _ (.tail _ (.head _)))
 rw [tie_pos] at k1 k2 k3
 have hsome : ¬ (f (107 + l) = f (107 + m) ∧ f (107 + m) = f (107 + h)):=fun ⟨e1,e2⟩=>by
  have key : ∀ z ∈ [107 + l,107 + m,107 + h],f z = f (107 + h):=fun z hz=>by
   simp only [List.mem_cons,List.not_mem_nil,or_false] at hz
   rcases hz with rfl | rfl | rfl
   ·exact e1.trans e2
   ·exact e2
   ·rfl
  exact hne ((key x hx).trans (key y hy).symm)
 refine dist_iff.mpr fun w0=>?_
 obtain ⟨n1,n2,n3⟩:=w0
 generalize f (107 + l) = a at *
 generalize f (107 + m) = b at *
 generalize f (107 + h) = d at *
 by_cases e1 : a = b
 ·have e3 : b ≠ d:=fun e=>hsome ⟨e1,e⟩
  exact n3 ((k2 (e1 ▸ e3)).trans (k3 e3).symm)
 ·by_cases e2 : a = d
  ·exact n2 ((k1 e1).trans (k3 (fun e=>e1 (e2.trans e.symm))).symm)
  ·exact n1 ((k1 e1).trans (k2 e2).symm)
theorem le_33 {a b c:Int} (h:is33 a b c = true) : a ≤ 3 ∧ b ≤ 3 ∧ c ≤ 3:=by
 unfold is33 at h
 rw [Bool.and_eq_true] at h
 have e:=eq_of_beq h.1
 exact ⟨e ▸ Int.le_max_left _ _,Int.le_trans (Int.le_max_left b c) (e ▸ Int.le_max_right _ _),Int.le_trans (Int.le_max_right b c) (e ▸ Int.le_max_right _ _)⟩
theorem cut_quad {T:List (List Int)} (tab:TabS T) {left:Nat} (h:left < 5) (hc:CutG (tie T) ((fourL left).map (107 + ·))) : gQuad T left = true:=by
 have hp : ∀ x ∈ (fourL left).map (107 + ·),isPt x:=fun x hx=>by
  obtain ⟨i,hi,rfl⟩:=memm hx
  exact ⟨Nat.le_add_right _ _,Nat.add_le_add_left (Nat.le_of_lt_succ (four_mem left h i hi).1) 107⟩
 obtain ⟨f',p,⟨x',hx,y',hy,hne⟩,hf'⟩:=cut_any (fun x hx y hy=>tie_sym tab (hp x hx) (hp y hy)) hc
 obtain ⟨x,mx,rfl⟩:=memm hx
 obtain ⟨y,my,rfl⟩:=memm hy
 have hf : ∀ i ∈ fourL left,∀ j ∈ fourL left,f' (107 + i) ≠ f' (107 + j) → ent T i j = p:=fun i hi j hj hn=>by
  have:=hf' _ (List.mem_map_of_mem hi) _ (List.mem_map_of_mem hj) hn
  rwa [tie_pos] at this
 clear hf' hp hc
 generalize hff : (fun i=>f' (107 + i)) = f at *
 have hf : ∀ i ∈ fourL left,∀ j ∈ fourL left,f i ≠ f j → ent T i j = p:=by rw [← hff]; exact hf
 have hne : f x ≠ f y:=by rw [← hff]; exact hne
 clear hff
 refine Classical.byContradiction fun hq=>?_
 rw [gQuad,Bool.not_eq_true',Bool.not_eq_false,Bool.and_eq_true] at hq
 obtain ⟨q1,q2⟩:=hq
 have alone : ∀ a ∈ fourL left,¬ ∀ u ∈ fourL left,u ≠ a → f a ≠ f u:=fun a ha hu=>by
  have hm : mono3 (starL T left a) = true:=mono_of (by unfold starL; rw [List.length_map]; exact (four_mem left h a ha).2.2.1) fun v hv=>by
   obtain ⟨u,hur,rfl⟩:=memm hv
   obtain ⟨u1,u2⟩:=List.mem_filter.mp hur
   exact hf a ha u u1 (hu u u1 (bne_iff_ne.mp u2))
  have:=List.all_eq_true.mp q2 a ha
  rw [hm] at this
  cases this
 have hpm:=filter_perm f (fourL left)
 have hlen:=hpm.length_eq
 rw [List.length_append,four_len left h] at hlen
 have mA : ∀ u,u ∈ (fourL left).filter f ↔ u ∈ fourL left ∧ f u = true:=fun u=>List.mem_filter
 have mB : ∀ u,u ∈ (fourL left).filter (fun a=>!f a) ↔ u ∈ fourL left ∧ f u = false:=fun u=>by rw [List.mem_filter,Bool.not_eq_true']
 generalize (fourL left).filter f = A at *
 generalize (fourL left).filter (fun a=>!f a) = B at *
 have key : ∀ {L:List Nat} {b:Bool},(∀ u,u ∈ L ↔ u ∈ fourL left ∧ f u = b) → ∀ a,L = [a] → False:=fun {L b} mL a e=>by
  subst e
  obtain ⟨a1,a2⟩:=(mL a).mp (.head _)
  exact alone a a1 fun u hu hn e=>hn (mem1 ((mL u).mpr ⟨hu,e.symm.trans a2⟩))
 have hA : A ≠ []:=fun e=>by
  have : ∀ u ∈ fourL left,f u = false:=fun u hu=>by
   cases q : f u with
   | false=>rfl
   | true=>have:=(mA u).mpr ⟨hu,q⟩; rw [e] at this; cases this
  exact hne ((this x mx).trans (this y my).symm)
 have hB : B ≠ []:=fun e=>by
  have : ∀ u ∈ fourL left,f u = true:=fun u hu=>by
   cases q : f u with
   | true=>rfl
   | false=>have:=(mB u).mpr ⟨hu,q⟩; rw [e] at this; cases this
  exact hne ((this x mx).trans (this y my).symm)
 cases A with | nil=>exact hA rfl | cons a A=>
 cases B with | nil=>exact hB rfl | cons b B=>
 cases A with | nil=>exact key mA a rfl | cons a' A=>
 cases B with | nil=>exact key mB b rfl | cons b' B=>
  have e0 : A = [] ∧ B = []:=by
   rw [List.length_cons,List.length_cons,List.length_cons,List.length_cons] at hlen
   exact ⟨List.eq_nil_of_length_eq_zero (by w_left),List.eq_nil_of_length_eq_zero (by w_left)⟩
  obtain ⟨rfl,rfl⟩:=e0
  obtain ⟨a1,a2⟩:=(mA a).mp (.head _)
  obtain ⟨a3,a4⟩:=(mA a').mp (.tail _ (.head _))
  obtain ⟨b1,b2⟩:=(mB b).mp (.head _)
  obtain ⟨b3,b4⟩:=(mB b').mp (.tail _ (.head _))
  have ne : ∀ {u v},f u = true → f v = false → f v ≠ f u:=fun h1 h2 e=>by rw [h1,h2] at e; cases e
  have hsix:=(six_perm T h).trans (sixP_perm tab.syms hpm.symm)
  have e : sixP (ent T) ([b,b'] ++ [a,a']) = [ent T b b',ent T b a,ent T b a',ent T b' a,ent T b' a',ent T a a']:=rfl
  rw [e,hf b b1 a a1 (ne a2 b2),hf b b1 a' a3 (ne a4 b2),hf b' b3 a a1 (ne a2 b4),hf b' b3 a' a3 (ne a4 b4)] at hsix
  have h4 : 4 ≤ cnt (sixL T left) p:=by
   rw [cnt_perm hsix]
   unfold cnt
   rw [List.countP_cons,List.countP_cons,List.countP_cons,List.countP_cons,List.countP_cons,beq_self_eq_true,if_pos rfl]
   w_left
  have hr:=tab.rng b a (four_mem left h b b1).1 (four_mem left h a a1).1 fun e=>ne a2 b2 (by rw [e])
  rw [hf b b1 a a1 (ne a2 b2)] at hr
  obtain ⟨l0,l1,l2⟩:=le_33 q1
  rcases (by w_left:p = 0 ∨ p = 1 ∨ p = 2) with rfl | rfl | rfl
  ·exact absurd h4 (Int.not_le.mpr (Int.lt_of_le_of_lt l0 (by decide)))
  ·exact absurd h4 (Int.not_le.mpr (Int.lt_of_le_of_lt l1 (by decide)))
  ·exact absurd h4 (Int.not_le.mpr (Int.lt_of_le_of_lt l2 (by decide)))
theorem clear_of {T:List (List Int)} (tab:TabS T) (h:∀ S : List Nat,(∀ x ∈ S,isPt x) → S.Nodup → 2 ≤ S.length → CutG (tie T) S) : (cl1 T 5 && clq T 5) = true:=by
 rw [Bool.and_eq_true]
 constructor
 ·refine List.all_eq_true.mpr fun k hk=>List.all_eq_true.mpr fun m hm=>List.all_eq_true.mpr fun l hl=>?_
  have hk:=List.mem_range.mp hk
  have hm:=List.mem_range.mp hm
  have hl:=List.mem_range.mp hl
  refine cut_tri tab hl hm hk (h _ (all_c (pt_add (Nat.lt_trans hl (Nat.lt_trans hm hk))) (all_c (pt_add (Nat.lt_trans hm hk)) (all_c (pt_add hk) all_n))) ?_ (show 2 ≤ 3 by decide))
  ·simp only [List.nodup_cons,List.mem_cons,List.not_mem_nil,or_false,List.nodup_nil,not_or,not_false_eq_true,and_true]
   exact ⟨⟨ne_add hl,ne_add (Nat.lt_trans hl hm)⟩,ne_add hm⟩
 ·refine List.all_eq_true.mpr fun left hl=>?_
  have hl:=List.mem_range.mp hl
  refine cut_quad tab hl (h _ (fun x hx=>?_) ?_ (by rw [List.length_map,four_len left hl]; decide))
  ·obtain ⟨i,hi,rfl⟩:=memm hx
   have:=(four_mem left hl i hi).1
   unfold isPt; w_left
  ·exact five_cases (P:=fun left=>((fourL left).map (107 + ·)).Nodup) (by decide) (by decide) (by decide) (by decide) (by decide) hl
end Mine.Internal
end
section
namespace Mine.Internal
noncomputable abbrev It:=Lab × List Nat
noncomputable def entI (i:It) : Ent:=(dtxt i.1,i.2)
noncomputable def hostP (i:It) : Str × V:=(wrd i.2,.str (wrd (i.2 ++ 46 :: dtxt i.1)))
structure ItOk (i:It) : Prop where
 lab : LabOk i.1
 ne : i.2 ≠ []
 pt : ∀ x ∈ i.2,isPt x
 cnt : i.1.length + i.2.length ≤ 5
structure Apart (T:List (List Int)) (i j:It) : Prop where
 ex : ∃ (A B d:Lab) (p n m:Nat),n ≠ m ∧ p < 3 ∧ i.1 = A ++ (p,n) :: d ∧ j.1 = B ++ (p,m) :: d ∧ ∀ x ∈ i.2,∀ y ∈ j.2,tie T x y = (p:Int) ∧ tie T y x = (p:Int)
theorem Apart.sym {T:List (List Int)} (i j:It) (h:Apart T i j) : Apart T j i:=by
 obtain ⟨A,B,d,p,n,m,h1,h2,h3,h4,h5⟩:=h.ex
 exact ⟨B,A,d,p,m,n,h1.symm,h2,h4,h3,fun x hx y hy=>⟨(h5 y hy x hx).2,(h5 y hy x hx).1⟩⟩
structure II (T:List (List Int)) (L:List It) : Prop where
 ok : ∀ i ∈ L,ItOk i
 nd : (L.flatMap (·.2)).Nodup
 ap : L.Pairwise (Apart T)
 cut : ∀ S : List Nat,S ≠ [] → (∀ x ∈ S,∃ i ∈ L,x ∈ i.2) → (∀ i ∈ L,∃ x ∈ S,x ∉ i.2) → CutG (tie T) S
theorem II.perm {T:List (List Int)} {L M:List It} (h:II T L) (p:L.Perm M) : II T M:=
 ⟨fun i hi=>h.ok i (p.mem_iff.mpr hi),(p.flatMap_right _).nodup_iff.mp h.nd,(p.pairwise_iff fun {a b}=>Apart.sym a b).mp h.ap,fun S hS h1 h2=>h.cut S hS (fun x hx=>by obtain ⟨i,hi,e⟩:=h1 x hx; exact ⟨i,p.mem_iff.mpr hi,e⟩) fun i hi=>h2 i (p.mem_iff.mp hi)⟩
theorem II.tail {T:List (List Int)} {e:It} {L:List It} (h:II T (e :: L)) : II T L:=by
 have hnd:=h.nd
 rw [List.flatMap_cons,List.nodup_append] at hnd
 refine ⟨fun i hi=>h.ok i (.tail _ hi),hnd.2.1,(List.pairwise_cons.mp h.ap).2,fun S hS h1 h2=>h.cut S hS (fun x hx=>by obtain ⟨i,hi,e⟩:=h1 x hx; exact ⟨i,.tail _ hi,e⟩) fun i hi=>?_⟩
 rcases memc hi with rfl | hi
 ·obtain ⟨x,hx⟩:=List.exists_mem_of_ne_nil S hS
  obtain ⟨j,hj,hxj⟩:=h1 x hx
  exact ⟨x,hx,fun q=>hnd.2.2 x q x (List.mem_flatMap.mpr ⟨j,hj,hxj⟩) rfl⟩
 ·exact h2 i hi
noncomputable def partI (p:Nat) (ls:Lab) (x:List Nat × Nat) : It:=((p,x.2) :: ls,x.1)
theorem zip_pair {T:List (List Int)} {paint:Int} : ∀ (ps:List (List Nat)) (k:Nat),ps.Pairwise (Off T paint) → (ps.zipIdx k).Pairwise fun a b=>Off T paint a.1 b.1 ∧ a.2 ≠ b.2
 | [],_,_=>.nil
 | p :: ps,k,h=>by
  obtain ⟨h1,h2⟩:=List.pairwise_cons.mp h
  rw [List.zipIdx_cons]
  refine List.pairwise_cons.mpr ⟨fun b hb=>?_,zip_pair ps (k + 1) h2⟩
  obtain ⟨q1,q2,q3⟩:=List.mem_zipIdx hb
  exact ⟨h1 _ (q3 ▸ List.getElem_mem _),Nat.ne_of_lt q1⟩
theorem zip_flat : ∀ (ps:List (List Nat)) (k p:Nat) (ls:Lab),(((ps.zipIdx k).map (partI p ls)).flatMap (·.2)) = ps.flatten
 | [],_,_,_=>rfl
 | a :: ps,k,p,ls=>by
  rw [List.zipIdx_cons,List.map_cons,List.flatMap_cons,zip_flat ps (k + 1) p ls,List.flatten_cons]; rfl
theorem zip_mem {ps:List (List Nat)} {k:Nat} {x:List Nat × Nat} (h:x ∈ ps.zipIdx k) : x.1 ∈ ps ∧ x.2 < ps.length + k:=by
 obtain ⟨q1,q2,q3⟩:=List.mem_zipIdx h
 exact ⟨q3 ▸ List.getElem_mem _,by w_left⟩
theorem mem_zip {a:List Nat} : ∀ {ps:List (List Nat)} (k:Nat),a ∈ ps → ∃ n,(a,n) ∈ ps.zipIdx k
 | [],_,h=>by cases h
 | p :: ps,k,h=>by
  rw [List.zipIdx_cons]
  rcases memc h with rfl | h
  ·exact ⟨k,.head _⟩
  ·obtain ⟨n,hn⟩:=mem_zip (k + 1) h
   exact ⟨n,.tail _ hn⟩
theorem part_small : ∀ {ps:List (List Nat)},1 < ps.length → (∀ p ∈ ps,p ≠ []) → ∀ p ∈ ps,p.length + 1 ≤ (ps.map List.length).sum
 | A :: B :: ps,_,hne,p,hp=>by
  have hA:=List.length_pos_iff.mpr (hne A (.head _))
  have hB:=List.length_pos_iff.mpr (hne B (.tail _ (.head _)))
  rw [List.map_cons,List.sum_cons]
  rcases memc hp with rfl | hp
  ·rw [List.map_cons,List.sum_cons]; w_left
  ·have:=mem_len_sum hp; w_left
 | [],h,_,_,_=>absurd h (by decide)
 | [_],h,_,_,_=>absurd h (by rw [List.length_singleton]; decide)
theorem II.split {T:List (List Int)} (tab:TabS T) {e:It} {L:List It} {p:Nat} (hp:p < 3) (h:II T (e :: L)) (hl:1 < (partsF T e.2 (p:Int)).length) : II T (((partsF T e.2 (p:Int)).zipIdx).map (partI p e.1) ++ L):=by
 have hnd:=h.nd
 rw [List.flatMap_cons,List.nodup_append] at hnd
 obtain ⟨ok1,ok2,ok3,ok4⟩:=h.ok e (.head _)
 have P:=parts_I (T:=T) (paint:=(p:Int)) hnd.1 fun x hx y hy=>tie_sym tab (ok3 x hx) (ok3 y hy)
 have hne : ∀ a ∈ partsF T e.2 (p:Int),a ≠ []:=ne_parts e.2 [] fun a ha=>by cases ha
 have hle : (partsF T e.2 (p:Int)).length ≤ e.2.length:=parts_le
 have hsum : ((partsF T e.2 (p:Int)).map List.length).sum = e.2.length:=by
  have:=P.perm.length_eq
  rwa [List.length_flatten] at this
 have hel : e.2.length ≤ 5:=by w_left
 generalize partsF T e.2 (p:Int) = ps at *
 obtain ⟨ha1,ha2⟩:=List.pairwise_cons.mp h.ap
 refine ⟨fun i hi=>?_,?_,List.pairwise_append.mpr ⟨?_,ha2,fun i hi j hj=>?_⟩,fun S hS h1 h2=>?_⟩
 ·rcases mema hi with hi | hi
  ·obtain ⟨x,hx,rfl⟩:=memm hi
   obtain ⟨x1,x2⟩:=zip_mem hx
   refine ⟨⟨fun a ha=>?_⟩,hne _ x1,fun y hy=>ok3 y (P.perm.mem_iff.mp (List.mem_flatten.mpr ⟨_,x1,hy⟩)),?_⟩
   ·rcases memc ha with rfl | ha
    ·exact ⟨hp,by show x.2 < 5; w_left⟩
    ·exact ok1.lt a ha
   ·have:=part_small hl hne x.1 x1
    show (e.1.length + 1) + x.1.length ≤ 5
    w_left
  ·exact h.ok i (.tail _ hi)
 ·rw [List.flatMap_append,zip_flat]
  exact (P.perm.append (.refl _)).nodup_iff.mpr (by have:=h.nd; rwa [List.flatMap_cons] at this)
 ·rw [List.pairwise_map]
  refine (zip_pair ps 0 P.off).imp fun {a b} hab=>⟨[],[],e.1,p,a.2,b.2,hab.2,hp,rfl,rfl,fun x hx y hy=>(hab.1 x hx y hy).2⟩
 ·obtain ⟨x,hx,rfl⟩:=memm hi
  obtain ⟨A,B,d,q,n,m,k1,k2,k3,k4,k5⟩:=(ha1 j hj).ex
  exact ⟨(p,x.2) :: A,B,d,q,n,m,k1,k2,by show (p,x.2) :: e.1 = _; rw [k3]; rfl,k4,fun y hy z hz=>k5 y (P.perm.mem_iff.mp (List.mem_flatten.mpr ⟨_,(zip_mem hx).1,hy⟩)) z hz⟩
 ·by_cases hin : ∀ x ∈ S,x ∈ e.2
  ·obtain ⟨s,hs⟩:=List.exists_mem_of_ne_nil S hS
   obtain ⟨A,hA,hsA⟩:=P.part (hin s hs)
   obtain ⟨n,hn⟩:=mem_zip 0 hA
   obtain ⟨u,hu,huA⟩:=h2 (partI p e.1 (A,n)) (memL _ (List.mem_map_of_mem hn))
   refine ⟨fun z=>decide (z ∈ A),p,⟨s,hs,decide_eq_true hsA⟩,⟨u,hu,decide_eq_false huA⟩,fun x hx y hy q1 q2=>?_⟩
   have q1:=of_decide_eq_true q1
   have q2:=of_decide_eq_false q2
   obtain ⟨B,hB,hyB⟩:=P.part (hin y hy)
   exact (pair_mem Off.sym P.off hA hB (fun e=>q2 (e ▸ hyB)) x q1 y hyB).2.1
  ·obtain ⟨x,hx⟩:=Classical.not_forall.mp hin
   rw [Classical.not_imp] at hx
   refine h.cut S hS (fun y hy=>?_) fun i hi=>?_
   ·obtain ⟨i,hi,hyi⟩:=h1 y hy
    rcases mema hi with hi | hi
    ·obtain ⟨z,hz,rfl⟩:=memm hi
     exact ⟨e,.head _,P.perm.mem_iff.mp (List.mem_flatten.mpr ⟨_,(zip_mem hz).1,hyi⟩)⟩
    ·exact ⟨i,.tail _ hi,hyi⟩
   ·rcases memc hi with rfl | hi
    ·exact ⟨x,hx.1,hx.2⟩
    ·exact h2 i (memR _ hi)
end Mine.Internal
end
section
namespace Mine.Internal
noncomputable def meas (L:List It) : Nat:=(L.map fun i=>2 * i.2.length - 1).sum
theorem meas_app (L M:List It) : meas (L ++ M) = meas L + meas M:=by unfold meas; rw [List.map_append,List.sum_append]
theorem meas_zip : ∀ (ps:List (List Nat)) (k p:Nat) (ls:Lab),(∀ a ∈ ps,a ≠ []) → meas ((ps.zipIdx k).map (partI p ls)) + ps.length = 2 * (ps.map List.length).sum
 | [],_,_,_,_=>rfl
 | a :: ps,k,p,ls,h=>by
  have ih:=meas_zip ps (k + 1) p ls fun b hb=>h b (.tail _ hb)
  have ha:=List.length_pos_iff.mpr (h a (.head _))
  have e : meas (((a :: ps).zipIdx k).map (partI p ls)) = (2 * a.length - 1) + meas ((ps.zipIdx (k + 1)).map (partI p ls)):=by
   rw [List.zipIdx_cons,List.map_cons]
   unfold meas
   rw [List.map_cons,List.sum_cons]; rfl
  rw [e,List.length_cons,List.map_cons,List.sum_cons,Nat.mul_add,← ih,Nat.add_comm ps.length 1,Nat.add_add_add_comm,Nat.sub_add_cancel (Nat.mul_pos (by decide) ha)]
structure SI (T:List (List Int)) (n:Nat) (st:List Ent × List (Str × V)) (pile H:List It) : Prop where
 e1 : st.1 = pile.map entI
 e2 : st.2 = H.map hostP
 ii : II T (pile ++ H)
 one : ∀ i ∈ H,i.2.length = 1
 all : (cl1 T 5 && clq T 5) = true → ((pile ++ H).flatMap (·.2)).length = 5
 ms : pile = [] ∨ n + meas pile ≤ 9
theorem pushes3 (T:List (List Int)) (e:Ent) : pushesTo T e 3 = pushesP e.1 0 (partsF T e.2 (0:Nat)) ++ pushesP e.1 1 (partsF T e.2 (1:Nat)) ++ pushesP e.1 2 (partsF T e.2 (2:Nat)):=rfl
theorem pushes_no {dom:List Nat} {p:Nat} {ps:List (List Nat)} (h:¬ 1 < ps.length) : pushesP dom p ps = []:=if_neg h
theorem pushes_yes {ls:Lab} {p:Nat} {ps:List (List Nat)} (h:1 < ps.length) : pushesP (dtxt ls) p ps = (ps.zipIdx.map (partI p ls)).map entI:=by
 unfold pushesP
 rw [if_pos h,List.map_map]; rfl
theorem pushes_one {T:List (List Int)} {e:It} {p:Nat} (hp:p < 3) (h:1 < (partsF T e.2 (p:Int)).length) (ho:∀ q : Nat,q ≠ p → ¬ 1 < (partsF T e.2 (q:Int)).length) : pushesTo T (entI e) 3 = ((partsF T e.2 (p:Int)).zipIdx.map (partI p e.1)).map entI:=by
 rw [pushes3]
 show pushesP (dtxt e.1) 0 (partsF T e.2 (0:Nat)) ++ pushesP (dtxt e.1) 1 (partsF T e.2 (1:Nat)) ++ pushesP (dtxt e.1) 2 (partsF T e.2 (2:Nat)) = _
 rcases (Nat.lt_succ_iff_lt_or_eq.mp hp).imp_left Nat.lt_succ_iff_lt_or_eq.mp with (hp | rfl) | rfl
 ·cases Nat.lt_one_iff.mp hp
  rw [pushes_no (ho 1 (by decide)),pushes_no (ho 2 (by decide)),pushes_yes h,List.append_nil,List.append_nil]
 ·rw [pushes_no (ho 0 (by decide)),pushes_no (ho 2 (by decide)),pushes_yes h,List.append_nil,List.nil_append]
 ·rw [pushes_no (ho 0 (by decide)),pushes_no (ho 1 (by decide)),pushes_yes h]; rfl
theorem pushes_none {T:List (List Int)} {e:It} (h:∀ p : Nat,p < 3 → ¬ 1 < (partsF T e.2 (p:Int)).length) : pushesTo T (entI e) 3 = []:=by
 rw [pushes3]
 show pushesP (dtxt e.1) 0 (partsF T e.2 (0:Nat)) ++ pushesP (dtxt e.1) 1 (partsF T e.2 (1:Nat)) ++ pushesP (dtxt e.1) 2 (partsF T e.2 (2:Nat)) = _
 rw [pushes_no (h 0 (by decide)),pushes_no (h 1 (by decide)),pushes_no (h 2 (by decide))]; rfl
theorem two_ne {l:List Nat} (h:2 ≤ l.length) (hd:l.Nodup) : ∃ x ∈ l,∃ y ∈ l,x ≠ y:=
 len2 (P:=fun l=>l.Nodup → ∃ x ∈ l,∃ y ∈ l,x ≠ y) (fun x y l hd=>⟨x,.head _,y,.tail _ (.head _),fun e=>(ndc hd).1 (e ▸ .head _)⟩) l h hd
theorem split_of {T:List (List Int)} (tab:TabS T) (hc:(cl1 T 5 && clq T 5) = true) {ms:List Nat} (hp:∀ x ∈ ms,isPt x) (hd:ms.Nodup) (hl:2 ≤ ms.length) : ∃ p : Nat,p < 3 ∧ 1 < (partsF T ms (p:Int)).length:=by
 obtain ⟨f,p,⟨x,hx,h1⟩,⟨y,hy,h2⟩,hf⟩:=cut_ex (fine_of tab hc hp) hd hl
 have hxy:=hf x hx y hy h1 h2
 have hne : x ≠ y:=fun e=>by rw [e,h2] at h1; cases h1
 have hr:=tab.rng _ _ (pt_idx (hp x hx)).1 (pt_idx (hp y hy)).1 (idx_ne (hp x hx) (hp y hy) hne)
 rw [← tie_ent,hxy] at hr
 refine ⟨p.toNat,by w_left,?_⟩
 rw [Int.toNat_of_nonneg hr.1]
 have P:=parts_I (T:=T) (paint:=p) hd fun x hx y hy=>tie_sym tab (hp x hx) (hp y hy)
 have hcon:=P.con f fun a ha b hb hab=>by
  cases ea : f a with
  | true=>exact hf a ha b hb ea (by cases eb:f b with
   | true=>exact absurd (ea.trans eb.symm) hab
   | false=>rfl)
  | false=>
   rw [tie_sym tab (hp a ha) (hp b hb)]
   exact hf b hb a ha (by cases eb:f b with
    | true=>rfl
    | false=>exact absurd (ea.trans eb.symm) hab) ea
 obtain ⟨A,hA,hxA⟩:=P.part hx
 obtain ⟨B,hB,hyB⟩:=P.part hy
 generalize partsF T ms p = ps at *
 cases ps with
 | nil=>cases hA
 | cons C ps=>cases ps with
  | nil=>
   rw [mem1 hA] at hxA
   rw [mem1 hB] at hyB
   have:=hcon C (.head _) x hxA y hyB
   rw [h1,h2] at this
   cases this
  | cons _ _=>exact Nat.succ_lt_succ (Nat.succ_pos _)
theorem top_concat (rest:List It) (e:It) : ((rest ++ [e]).map entI).dropLast = rest.map entI ∧ topE ((rest ++ [e]).map entI) = entI e:=by
 rw [List.map_append]
 constructor
 ·exact List.dropLast_concat
 ·unfold topE
  rw [List.map_singleton]
  simp
theorem SI.turn {T:List (List Int)} (tab:TabS T) {n:Nat} {st:List Ent × List (Str × V)} {pile H:List It} (h:SI T n st pile H) : ∃ pile' H',SI T (n + 1) (turnF T st) pile' H':=by
 rcases List.eq_nil_or_concat pile with rfl | ⟨rest,e,rfl⟩
 ·refine ⟨[],H,?_,?_,h.ii,h.one,h.all,.inl rfl⟩
  ·unfold turnF; rw [h.e1]; rfl
  ·unfold turnF; rw [h.e1,← h.e2]; rfl
 rw [List.concat_eq_append] at h
 obtain ⟨t1,t2⟩:=top_concat rest e
 have hst : turnF T st = (rest.map entI ++ pushesTo T (entI e) 3,hostD (entI e) (H.map hostP)):=by
  unfold turnF
  rw [h.e1,h.e2,t1,t2]
 rw [hst]
 have hii:=h.ii
 have hms:=h.ms.resolve_left (by simp)
 have hall:=h.all
 rw [meas_app] at hms
 have hpe : (rest ++ [e] ++ H).Perm (e :: (rest ++ H)):=by
  rw [List.append_assoc]; exact List.perm_middle
 have hi:=hii.perm hpe
 obtain ⟨ok1,ok2,ok3,ok4⟩:=hi.ok e (.head _)
 have hnd:=hi.nd
 rw [List.flatMap_cons,List.nodup_append] at hnd
 have hme : meas [e] = 2 * e.2.length - 1:=rfl
 have hpos:=List.length_pos_iff.mpr ok2
 have hsm : ∀ {r m:Nat},n + (r + m) ≤ 9 → 1 ≤ m → n + 1 + r ≤ 9:=fun h h1=>Nat.le_trans (by rw [Nat.add_assoc,Nat.add_comm 1]; exact Nat.add_le_add_left (Nat.add_le_add_left h1 _) _) h
 have hst1 : n + 1 + meas rest ≤ 9:=hsm hms (by rw [hme]; exact two_less hpos)
 by_cases hone : e.2.length = 1
 ·have hpn : pushesTo T (entI e) 3 = []:=pushes_none fun p ζ hq=>absurd (Nat.lt_of_lt_of_le hq (parts_le (ms:=e.2))) (by rw [hone]; decide)
  refine ⟨rest,H ++ [e],⟨by rw [hpn,List.append_nil],?_,?_,fun i hi=>?_,fun hc=>?_,.inr hst1⟩⟩
  ·have hnew : ¬ (H.map hostP).any (fun p=>p.1 = wrd e.2) = true:=fun q=>by
    obtain ⟨p,hp,hq⟩:=List.any_eq_true.mp q
    obtain ⟨i,hiH,rfl⟩:=memm hp
    have e1 : i.2 = e.2:=wrd_inj (of_decide_eq_true hq)
    obtain ⟨x,hx⟩:=List.exists_mem_of_ne_nil _ ok2
    exact hnd.2.2 x hx x (List.mem_flatMap.mpr ⟨i,memR _ hiH,e1 ▸ hx⟩) rfl
   show hostD (entI e) (H.map hostP) = _
   have e1 : hostD (entI e) (H.map hostP) = putD (H.map hostP) (wrd e.2) (.str (wrd (e.2 ++ 46 :: dtxt e.1))):=if_pos hone
   rw [e1]
   unfold putD
   rw [if_neg hnew,List.map_append]; rfl
  ·refine hii.perm ?_
   rw [List.append_assoc]
   exact List.Perm.append_left rest List.perm_append_comm
  ·rcases mema hi with hi | hi
   ·exact h.one i hi
   ·rw [mem1 hi]; exact hone
  ·rw [← hall hc]
   refine List.Perm.length_eq (List.Perm.flatMap_right _ ?_)
   rw [List.append_assoc]
   exact List.Perm.append_left rest List.perm_append_comm
 have hh : hostD (entI e) (H.map hostP) = H.map hostP:=if_neg hone
 by_cases hex : ∃ p : Nat,p < 3 ∧ 1 < (partsF T e.2 (p:Int)).length
 ·obtain ⟨p,hp,hl⟩:=hex
  have hs:=fun {x y:Nat} (hx:x ∈ e.2) (hy:y ∈ e.2)=>tie_sym tab (ok3 x hx) (ok3 y hy)
  have ho : ∀ q : Nat,q ≠ p → ¬ 1 < (partsF T e.2 (q:Int)).length:=fun q hq hl2=>
   one_paint (fun e=>hq (Int.ofNat.inj e)) (parts_I hnd.1 fun x hx y hy=>hs hx hy) (parts_I hnd.1 fun x hx y hy=>hs hx hy) (ne_parts e.2 [] fun a ha=>by cases ha) (ne_parts e.2 [] fun a ha=>by cases ha) hl2 hl
  have hsp:=hi.split tab hp hl
  have P:=parts_I (T:=T) (paint:=(p:Int)) hnd.1 fun x hx y hy=>hs hx hy
  have hm:=meas_zip (partsF T e.2 (p:Int)) 0 p e.1 (ne_parts e.2 [] fun a ha=>by cases ha)
  have hsum : ((partsF T e.2 (p:Int)).map List.length).sum = e.2.length:=by
   have:=P.perm.length_eq
   rwa [List.length_flatten] at this
  have hpp : (((partsF T e.2 (p:Int)).zipIdx.map (partI p e.1)) ++ (rest ++ H)).Perm (rest ++ ((partsF T e.2 (p:Int)).zipIdx.map (partI p e.1)) ++ H):=by
   rw [← List.append_assoc]
   exact List.Perm.append_right H List.perm_append_comm
  refine ⟨rest ++ (partsF T e.2 (p:Int)).zipIdx.map (partI p e.1),H,⟨by rw [pushes_one hp hl ho,List.map_append],hh,hsp.perm hpp,h.one,fun hc=>?_,.inr (by rw [meas_app]; exact si_room hms hme hsum hm hl)⟩⟩
  rw [← hall hc,(List.Perm.flatMap_right (·.2) hpp.symm).length_eq,(List.Perm.flatMap_right (·.2) hpe).length_eq,List.flatMap_append,zip_flat,List.flatMap_cons,List.length_append,List.length_append,P.perm.length_eq]
 ·refine ⟨rest,H,⟨by rw [pushes_none fun p hp hq=>hex ⟨p,hp,hq⟩,List.append_nil],hh,hi.tail,h.one,fun hc=>?_,.inr hst1⟩⟩
  exact absurd (split_of tab hc ok3 hnd.1 (by w_left)) hex
theorem SI.init (T:List (List Int)) : SI T 0 (hostsN T 0) [([],klmnoL)] []:=by
 refine ⟨rfl,rfl,⟨fun i hi=>?_,by decide,List.pairwise_singleton _ _,fun S hS h1 h2=>?_⟩,fun i hi=>(by cases hi),fun ζ=>rfl,.inr (by decide)⟩
 ·rw [mem1 hi]
  refine ⟨⟨fun a ha=>(by cases ha)⟩,by decide,fun x hx=>?_,by decide⟩
  have : ∀ x ∈ klmnoL,107 ≤ x ∧ x ≤ 111:=by decide
  exact this x hx
 ·obtain ⟨x,hx,hn⟩:=h2 _ (.head _)
  obtain ⟨i,hi,hxi⟩:=h1 x hx
  rw [mem1 hi] at hxi
  exact absurd hxi hn
theorem SI.all' {T:List (List Int)} (tab:TabS T) : ∀ n,∃ pile H,SI T n (hostsN T n) pile H
 | 0=>⟨_,_,SI.init T⟩
 | n + 1=>by
  obtain ⟨pile,H,h⟩:=SI.all' tab n
  exact h.turn tab
theorem hosts_nine {T:List (List Int)} (tab:TabS T) : ∃ H : List It,(hostsN T 9).2 = H.map hostP ∧ II T H ∧ (∀ i ∈ H,∃ c,i.2 = [c]) ∧ ((cl1 T 5 && clq T 5) = true → H.length = 5):=by
 obtain ⟨pile,H,h⟩:=SI.all' tab 9
 have hp : pile = []:=h.ms.elim id fun q=>by
  cases pile with
  | nil=>rfl
  | cons e pile=>
   have:=List.length_pos_iff.mpr (h.ii.ok e (by simp)).ne
   unfold meas at q
   rw [List.map_cons,List.sum_cons] at q
   exact absurd (Nat.le_trans (Nat.add_le_add_left (Nat.le_trans (two_less this) (Nat.le_add_right _ _)) 9) q) (by decide)
 subst hp
 have hone : ∀ i ∈ H,∃ c,i.2 = [c]:=fun i hi=>len1 (P:=fun l=>∃ c,l = [c]) (fun c=>⟨c,rfl⟩) i.2 (h.one i hi)
 refine ⟨H,h.e2,h.ii,hone,fun hc=>?_⟩
 rw [← h.all hc,List.nil_append]
 have : ∀ L : List It,(∀ i ∈ L,i.2.length = 1) → L.length = (L.flatMap (·.2)).length:=fun L=>by
  induction L with
  | nil=>intro _; rfl
  | cons i L ih=>
   intro hL
   rw [List.flatMap_cons,List.length_append,hL i (.head _),List.length_cons,ih fun j hj=>hL j (.tail _ hj)]; w_left
 exact this H h.one
end Mine.Internal
end
section
namespace Mine.Internal
theorem nd_le : ∀ {l m:List Nat},l.Nodup → (∀ x ∈ l,x ∈ m) → l.length ≤ m.length
 | [],_,_,_=>Nat.zero_le _
 | a :: l,m,hd,hs=>by
  obtain ⟨h1,h2⟩:=ndc hd
  have ha:=hs a (.head _)
  have:=nd_le (l:=l) (m:=m.erase a) h2 fun x hx=>(List.mem_erase_of_ne (fun e=>h1 (by rw [← e]; exact hx))).mpr (hs x (.tail _ hx))
  rw [List.length_erase_of_mem ha] at this
  exact Nat.le_trans (Nat.succ_le_succ this) (Nat.le_of_eq (Nat.sub_add_cancel (List.length_pos_iff.mpr (List.ne_nil_of_mem ha))))
noncomputable def hostOf (H:List It) (c:Nat) : List Nat:=match H.find? (fun i=>decide (i.2 = [c])) with
 | some i=>htxt c i.1
 | none=>localL
theorem get_host {H:List It} {c:Nat} : getD (H.map hostP) (chr c) = (H.find? (fun i=>decide (i.2 = [c]))).map fun i=>V.str (wrd (i.2 ++ 46 :: dtxt i.1)):=by
 induction H with
 | nil=>rfl
 | cons i H ih=>
  rw [List.map_cons]
  have e : getD (hostP i :: H.map hostP) (chr c) = _:=getD_cons (D:=H.map hostP) (x:=wrd i.2) (y:=chr c) (v:=.str (wrd (i.2 ++ 46 :: dtxt i.1)))
  rw [e,ih]
  by_cases h : i.2 = [c]
  ·rw [if_pos (by rw [h]; rfl),List.find?_cons,decide_eq_true h]; rfl
  ·rw [if_neg (fun q:wrd i.2 = chr c=>h (wrd_inj q)),List.find?_cons,decide_eq_false h]
theorem names_item {H:List It} {c:Nat} (h:c ∈ namesL (H.map hostP)) : ∃ i ∈ H,i.2 = [c] ∧ getD (H.map hostP) (chr c) = some (.str (wrd (htxt c i.1))) ∧ hostOf H c = htxt c i.1:=by
 have h2:=(names_pt h).2
 rw [get_host] at h2 ⊢
 unfold hostOf
 cases hf : H.find? (fun i=>decide (i.2 = [c])) with
 | none=>rw [hf] at h2; cases h2
 | some i=>
  have hi:=List.mem_of_find?_eq_some hf
  have hc' : decide (i.2 = [c]) = true:=List.find?_some (p:=fun i : It=>decide (i.2 = [c])) hf
  have hc:=of_decide_eq_true hc'
  exact ⟨i,hi,hc,by rw [Option.map_some,hc]; rfl,rfl⟩
theorem ItOk.whole {i:It} {c:Nat} (h:ItOk i) (e:i.2 = [c]) : Whole (htxt c i.1) (dtxt i.1):=by
 have h4:=h.cnt
 rw [e,List.length_singleton] at h4
 exact whole_of (h.pt c (by rw [e]; exact .head _)) h.lab (by w_left)
theorem hostFacts {T:List (List Int)} (tab:TabS T) : ∃ hf,HostFacts T hf:=by
 obtain ⟨H,hD,ii,hone,hcl⟩:=hosts_nine tab
 refine ⟨hostOf H,?_⟩
 have hlen : ∀ L : List It,(∀ i ∈ L,∃ c,i.2 = [c]) → L.length = (L.flatMap (·.2)).length:=fun L=>by
  induction L with
  | nil=>intro _; rfl
  | cons i L ih=>
   intro hL
   obtain ⟨c,hc⟩:=hL i (.head _)
   rw [List.flatMap_cons,List.length_append,hc,List.length_cons,ih fun j hj=>hL j (.tail _ hj),List.length_singleton]; (first | lia | omega)
 have hpts : ∀ x ∈ H.flatMap (·.2),x ∈ klmnoL:=fun x hx=>by
  obtain ⟨i,hi,hx⟩:=List.mem_flatMap.mp hx
  obtain ⟨h1,h2⟩:=(ii.ok i hi).pt x hx
  have : ∀ y : Nat,y < 112 → 107 ≤ y → y ∈ klmnoL:=by decide
  exact this x (by w_left) h1
 have hle : H.length ≤ 5:=by rw [hlen H hone]; exact nd_le ii.nd hpts
 refine ⟨by rw [hD,List.length_map]; exact hle,?_,fun c hc=>?_,fun k y hy=>?_,?_⟩
 ·rw [hD,List.length_map,Bool.eq_iff_iff]
  constructor
  ·intro h
   have h5 : H.length = 5:=by have:=eq_of_beq h; (first | lia | omega)
   have hmem : ∀ x,isPt x → ∃ i ∈ H,i.2 = [x]:=fun x hx=>by
    have hin : x ∈ H.flatMap (·.2):=Classical.byContradiction fun q=>by
     have:=nd_le (l:=x :: H.flatMap (·.2)) (m:=klmnoL) (ndk ⟨q,ii.nd⟩) fun z hz=>by
      rcases memc hz with rfl | hz
      ·obtain ⟨h1,h2⟩:=hx
       have : ∀ y : Nat,y < 112 → 107 ≤ y → y ∈ klmnoL:=by decide
       exact this _ (by w_left) h1
      ·exact hpts z hz
     rw [List.length_cons,← hlen H hone,h5] at this
     exact absurd this (by decide)
    obtain ⟨i,hi,hx⟩:=List.mem_flatMap.mp hin
    obtain ⟨c,hc⟩:=hone i hi
    rw [hc] at hx
    exact ⟨i,hi,by rw [hc,mem1 hx]⟩
   refine clear_of tab fun S hS hd hl=>ii.cut S (fun e=>by rw [e] at hl; exact absurd hl (by decide)) (fun x hx=>?_) fun i hi=>?_
   ·obtain ⟨i,hi,e⟩:=hmem x (hS x hx)
    exact ⟨i,hi,by rw [e]; exact .head _⟩
   ·obtain ⟨c,hc⟩:=hone i hi
    rw [hc]
    obtain ⟨x,hx,y,hy,hne⟩:=two_ne hl hd
    by_cases e : x = c
    ·exact ⟨y,hy,fun q=>hne (e.trans (mem1 q).symm)⟩
    ·exact ⟨x,hx,fun q=>e (mem1 q)⟩
  ·intro h
   rw [hcl h]; rfl
 ·rw [hD] at hc ⊢
  obtain ⟨i,hi,e1,e2,e3⟩:=names_item hc
  rw [e3]
  exact ⟨e2,((ii.ok i hi).whole e1).hl⟩
 ·rw [hD] at hy ⊢
  have hym:=List.mem_of_getElem? hy
  obtain ⟨i,hi,i1,i2,i3⟩:=names_item hym
  have hnd : (namesL (H.map hostP)).Nodup:=List.Pairwise.filter _ (show pts.Nodup by decide)
  have hpy:=(names_pt hym).1
  unfold toldF
  rw [List.map_map,List.map_map]
  refine List.map_congr_left fun x hx=>?_
  have hxm:=List.mem_of_mem_take hx
  obtain ⟨j,hj,j1,j2,j3⟩:=names_item hxm
  have hne : i ≠ j:=fun e=>by
   have exy : y = x:=by
    have:=i1.symm.trans (e ▸ j1)
    injection this
   obtain ⟨m,hm,hmx⟩:=List.mem_iff_getElem.mp hx
   rw [List.length_take] at hm
   have hmk : m < k:=lt_min_l hm
   have hml : m < (namesL (H.map hostP)).length:=lt_min_r hm
   rw [List.getElem_take] at hmx
   rw [List.getElem?_eq_some_iff] at hy
   obtain ⟨hk,hky⟩:=hy
   exact Nat.ne_of_lt hmk ((List.getElem_inj hnd).mp (by rw [hmx,hky,exy]))
  obtain ⟨A,B,d,p,n,m,k1,k2,k3,k4,k5⟩:=(pair_mem Apart.sym ii.ap hi hj hne).ex
  have oi:=ii.ok i hi
  have oj:=ii.ok j hj
  have hli:=oi.lab
  have hlj:=oj.lab
  have hcn:=oi.cnt
  show (getD (climbN ((List.take k (namesL (H.map hostP))).map (hostOf H)) (hostOf H y,[]) 6).2 (wrd (hostOf H x))).getD .none = V.int (tie T y x)
  have ho : hostOf H x ∈ (List.take k (namesL (H.map hostP))).map (hostOf H):=List.mem_map_of_mem hx
  rw [i3,j3]
  rw [j3] at ho
  rw [k3] at hli hcn ⊢
  rw [k4] at hlj ho ⊢
  rw [told_ap (by obtain ⟨h1,h2⟩:=hpy; w_left) k1 k2 hli hlj (by w_left) ho,(k5 y (by rw [i1]; exact .head _) x (by rw [j1]; exact .head _)).1]
  rfl
 ·rw [hD]
  by_cases hk : 107 ∈ namesL (H.map hostP)
  ·obtain ⟨i,hi,i1,i2,i3⟩:=names_item hk
   refine ⟨_,_,(ii.ok i hi).whole i1,?_⟩
   rw [show ("k":Str) = chr 107 from rfl,i2]; rfl
  ·refine ⟨_,_,whole_of (x:=107) (r:=[]) ⟨by decide,by decide⟩ ⟨fun a ha=>by cases ha⟩ (by decide),?_⟩
   cases hg : getD (H.map hostP) (chr 107) with
   | none=>rw [show ("k":Str) = chr 107 from rfl,hg]; rfl
   | some v=>exact absurd (List.mem_filter.mpr ⟨by decide,by rw [hg]; rfl⟩) hk
end Mine.Internal
end
section
namespace Mine.Internal
theorem nf_nil : ∀ y u,([] : List (Str × V)).lookup y = some u → NoF u:=fun y u h=>by cases h
theorem nf_cons {l:List (Str × V)} {x:Str} {v:V} (h:NoF v) (r:∀ y u,l.lookup y = some u → NoF u) : ∀ y u,((x,v) :: l).lookup y = some u → NoF u:=fun y u e=>by
 rcases lookup_set e with ⟨rfl,rfl⟩ | ⟨_,e⟩
 ·exact h
 ·exact r y u e
theorem nfs_ints : ∀ r : List Int,NoFs (r.map V.int)
 | []=>.nil
 | _ :: r=>.cons (.int _) (nfs_ints r)
theorem nf_tab (T:List (List Int)) : NoF (tabV T):=.lst (by
 induction T with
 | nil=>exact .nil
 | cons r T ih=>exact .cons (.lst (nfs_ints r)) ih)
theorem rows5 {T:List (List Int)} (h:TabOk T) : ∀ r ∈ T,r.length = 5:=fun r hr=>by
 obtain ⟨i,hi,rfl⟩:=List.mem_iff_getElem.mp hr
 have:=h.rows i (h.len ▸ hi)
 rwa [List.getD_eq_getElem?_getD,List.getElem?_eq_getElem hi] at this
theorem nones0 : ∀ n,Eqvs false 0 (List.replicate n V.none) (List.replicate n V.none) true
 | 0=>.nil 0
 | n + 1=>.cons (.none 0) (nones0 n)
theorem nones (n:Nat) : Eqvs false 0 (List.replicate n V.none) ((rngV 0 1 n).map fun ζ=>V.none) true:=by
 have : (rngV 0 1 n).map (fun ζ=>V.none) = List.replicate n V.none:=by
  rw [List.map_const']
  congr 1
  simp [rngV]
 rw [this]
 exact nones0 n
theorem mod01 (a:Int) : a.fmod 2 = 0 ∨ a.fmod 2 = 1:=by
 have h1:=Int.fmod_nonneg_of_pos a (show (0:Int) < 2 by decide)
 have h2:=Int.fmod_lt_of_pos a (show (0:Int) < 2 by decide)
 w_left
theorem op_eqA {w:World} {S0:Shared} {k:Nat} {a:V} {i:Int} {r:Bool} (h:eqvA a (.int i) = some r) : OP2 w S0 k (compareOp .Eq) a (.int i) (.bool r):=by
 unfold eqvA at h
 split at h
 ·rename_i x y e; cases e; cases h; exact op_eq
 ·rename_i e; cases e
 ·rename_i x y e; cases e; cases h; exact op_eqv (n:=0) (.flt_int 0 _ _)
 ·cases h
section
variable {w:World} {S0:Shared} {k:Nat}
theorem hue_shape {v:V} (h:isHue v = true) : ∃ x r,v = .tup (.flt x :: r):=by
 unfold isHue at h
 split at h
 ·exact ⟨_,_,rfl⟩
 ·cases h
theorem nfs_all : ∀ {l:List V},(∀ v ∈ l,NoF v) → NoFs l
 | [],_=>.nil
 | v :: l,h=>.cons (h v (.head _)) (nfs_all fun u hu=>h u (.tail _ hu))
theorem filter_false (l:List V) : (l.filter fun ζ=>false).map (fun v=>v) = []:=by
 rw [List.filter_eq_nil_iff.mpr (fun ζ ζ=>by decide)]; rfl
theorem op_isnot_self {w:World} {S0:Shared} {k:Nat} {b:Bool} : OP2 w S0 k (compareOp .IsNot) (.bool b) (.bool b) (.bool false):=by
 have h:=op_isnot (w:=w) (S0:=S0) (k:=k) (a:=b) (b:=b)
 rwa [beq_self_eq_true] at h
theorem some_beq (b:Bool) : (some b == some true) = b:=by cases b <;> rfl
set_option maxHeartbeats 8000000 in
theorem law_raw {ns:List Int} (hl:ns.length ≤ 63) {T:List (List Int)} {first second third sh:Int} (e1:first = 10572 + (pickI ns 0).sum) (e2:second = 0 + (pickI ns 1).sum) (e3:third = 90 + (pickI ns 2).sum)
  (hT:T = tableF first (second * ((third.fdiv 4).fmod 2))) (hsh:sh = (third.fdiv 8).fmod 16) (tab:TabS T) (pf:PageFacts sh T) {hf:Nat → List Nat} (ho:HostFacts T hf) :
  FNM w S0 (k + 16) true (fun xs=>call (.ref 304) xs) [.lst (ns.map V.int)] [] (fun v mu'=>v = .bool true):=by
 refine FNM.intro (ns:=["script"]) (K1_of (by rfl) (by rfl)) (by kernel_rfl) (args1 fun ζ=>rfl) (by rfl) (by decide) (by decide) rfl rfl rfl (fun X=>?_)
 have hmod2 : (third.fdiv 4).fmod 2 = 0 ∨ (third.fdiv 4).fmod 2 = 1:=by
  have h1:=Int.fmod_nonneg_of_pos (third.fdiv 4) (show (0:Int) < 2 by decide)
  have h2:=Int.fmod_lt_of_pos (third.fdiv 4) (show (0:Int) < 2 by decide)
  w_left
 refine EXs.assignT (v:=.lst [.int first,.int second,.int third]) (EV.eq (EV.callv (vs:=[.lst (ns.map V.int),.lst [.int 10572,.int 0,.int 90]]) (EV.glob (v:=.ref 251) (by kernel_rfl) (by rfl)) (EVL.cons (EV.name (by rfl)) (EVL.cons (EV.list (EVL.ev (by rfl))) EVL.nil)) (.top (by kernel_rfl)) ((cells_ok ns hl).mono (Nat.le_add_left 1 _))) (by rw [e1,e2,e3])) (ASG.ulst (ns:=[("first",_),("second",_),("third",_)]) rfl (fun p hp=>.inl (by
  rcases memc hp with rfl | hp
  ·rfl
  rcases memc hp with rfl | hp
  ·rfl
  ·rw [mem1 hp]; rfl))) ?_
 refine EXs.norm (l':=[("first",.int first),("second",.int second),("third",.int third)]) (.ev rfl) ?_
 refine EXs.assign (v:=tabV T) (EV.eq (EV.callv (vs:=[.int first,.int (second * ((third.fdiv 4).fmod 2))]) (EV.glob (v:=.ref 256) (by kernel_rfl) (by rfl)) (EVL.cons (EV.name (by rfl)) (EVL.cons (EV.bin (EV.name (v:=.int second) (by rfl)) (EV.bin (EV.bin (EV.name (v:=.int third) (by rfl)) EV.int (op_fd (by decide) (by decide))) EV.int (op_mod (by decide))) (op_mul (IntMulOk.of_right (by rcases hmod2 with h | h <;> rw [h] <;> decide +kernel)))) EVL.nil)) (.top (by kernel_rfl)) ((table_ok first _).mono (Nat.le_add_left 2 _))) (by rw [hT])) (.inl (by rfl)) ?_
 refine EXs.assignTok (a:=.int (third.fdiv 8)) (v:=.int sh) rfl (EV.bin (EV.name (v:=.int third) (by rfl)) EV.int (op_fd (by decide) (by decide))) (by rw [hsh]; exact op_mod (by decide)) (.inl (by rfl)) ?_ fun n hn=>?_
 ·exact nf_cons (.int _) (nf_cons (nf_tab T) (nf_cons (.int _) (nf_cons (.int _) (nf_cons (.int _) nf_nil))))
 refine EXs.norm (l':=[("shift",.int sh),("table",tabV T),("third",.int third)]) (.ev rfl) ?_
 refine EXs.assign (v:=.str (strPick allLetters (some sh) (some (sh + 4)))) (ev_sliceSC (l:=some sh) (u:=some (sh + 4)) EV.str (EV.name (by rfl)) (EV.bin (EV.name (v:=.int sh) (by rfl)) EV.int op_add) pf.let4) (.inr ⟨by rfl,by rfl⟩) ?_
 refine EXs.assignTM (EM.callE (EV.glob (v:=.ref 263) (by kernel_rfl) (by rfl)) (.top (by kernel_rfl)) (EML.of (vs:=[tabV T,.int sh,.int ((third.fdiv 2).fmod 2),.int (third.fmod 2)]) (EVL.cons (EV.name (by rfl)) (EVL.cons (EV.name (by rfl)) (EVL.cons (EV.bin (EV.bin (EV.name (v:=.int third) (by rfl)) EV.int (op_fd (by decide) (by decide))) EV.int (op_mod (by decide))) (EVL.cons (EV.bin (EV.name (v:=.int third) (by rfl)) EV.int (op_mod (by decide))) EVL.nil)))) (FNM.weaken (page_ok (k:=k + 3) tab.ok.len (rows5 tab.ok) (mod01 _) (mod01 _)) fun v mu' w0=>?_)))
 obtain ⟨em,ev⟩:=w0
 subst em
 subst ev
 refine ⟨_,ASG.utup (ns:=[("page",_),("answers",_)]) rfl (fun p hp=>.inl (by
  rcases memc hp with rfl | hp
  ·rfl
  ·rw [mem1 hp]; rfl)),?_⟩
 have hpg:=pf.page
 refine EXs.norm (l':=[("page",.str (pageOf (lettersOf sh T))),("answers",.lst (List.replicate 25 .none)),("letters",.str (strPick allLetters (some sh) (some (sh + 4)))),("table",tabV T)]) (.ev rfl) ?_
 refine EXs.ite (b:=false) (EVB.or2 (a:=!(pageOf (lettersOf sh T) == Txt.join "/" (T.map (rowText sh)))) (EVB.cmp (EV.name (v:=.str (pageOf (lettersOf sh T))) (by rfl)) (EV.meth EV.str rfl m_join (EVL.cons (v:=.lst ((T.map (rowText sh)).map V.str)) ?_ EVL.nil) (op_join pf.join)) op_ne_str) (fun ζ=>?_) (fun h=>?_)) (fun h=>by cases h) (fun ζ=>?_)
 ·
  refine EV.eq (EV.compN (cap:=[("letters",.str (strPick allLetters (some sh) (some (sh + 4))))]) (vs:=T.map fun r=>.lst (r.map V.int)) (fun v=>.str (rowText sh v.ints)) (.of ["letters"] rfl rfl (by rfl) rfl (.ev rfl)) (.of (EV.name (v:=tabV T) (by rfl)) ITER.lst) (by rfl) (by rfl) (fun u hu L out=>?_) (by rw [List.length_map,tab.ok.len]; decide)) (congrArg V.lst ?_)
  ·obtain ⟨row,hrow,rfl⟩:=memm hu
   rw [ints_map]
   have hrl : row.length = 5:=rows5 tab.ok row hrow
   refine EV.bin EV.str (EV.meth EV.str rfl m_join (EVL.cons (v:=.lst ((row.map (letT sh)).map V.str)) ?_ EVL.nil) (op_join (pf.joinR row hrow))) (op_addS (pf.lenR row hrow))
   refine EV.eq (EV.compN (cap:=[("letters",.str (strPick allLetters (some sh) (some (sh + 4))))]) (vs:=row.map V.int) (fun v=>.str (letT sh v.toI)) (.of ["letters"] rfl rfl (by rfl) rfl (.ev rfl)) (.of (EV.name (v:=.lst (row.map V.int)) (by rfl)) ITER.lst) (by rfl) (by rfl) (fun u hu L out=>?_) (by rw [List.length_map,hrl]; decide)) (congrArg V.lst ?_)
   ·obtain ⟨t,ht,rfl⟩:=memm hu
    obtain ⟨h1,h2,h3⟩:=pf.item row hrow t ht
    exact EV.sub (EV.name (v:=.str (strPick allLetters (some sh) (some (sh + 4)))) (by rfl)) rfl ⟨_,PySem.F.slot_str_getitem.lookup⟩ (EV.name (v:=.int t) (by rfl)) (op_itemS (by rw [decide_eq_false (by w_left),decide_eq_false (by w_left)]; rfl) h3)
   ·rw [List.map_map,List.map_map]; rfl
  ·rw [List.map_map,List.map_map]
   exact List.map_congr_left fun row ζ=>by show V.str (rowText sh (V.lst (row.map V.int)).ints) = _; rw [ints_map]; rfl
 ·
  exact EVB.cmp (EV.name (v:=.lst (List.replicate 25 .none)) (by rfl)) (EV.compN (cap:=[]) (vs:=rngV 0 1 25) (fun ζ=>.none) (.of [] rfl rfl (by rfl) rfl (.ev rfl)) (.range (vs:=[.int 25]) (n:=25) (EV.boot (by kernel_rfl) (by rfl) (by rfl)) (EVL.ev (by rfl)) (fun ms s A xs Q h hQ=>range1 h hQ) (by decide) (by decide +kernel) (fun ζ ζ=>rfl) (by rfl) (by rfl)) (by rfl) (by rfl) (fun u hu L out=>EV.none) (by decide)) (op_ne_lst (n:=0) (r:=true) (nones 25))
 ·rw [hpg] at h; simp at h
 refine EXs.done ?_
 refine EXs.assign (v:=tabV T) ?_ (.inr ⟨by rfl,by rfl⟩) ?_
 ·
  refine EV.eq (EV.compN (cap:=[("letters",.str (strPick allLetters (some sh) (some (sh + 4))))]) (vs:=(T.map (rowText sh)).map V.str) (fun v=>.lst ((PySem.wordsOf v.toS).map fun y=>.int (((Builtin.Str.occurrences (strPick allLetters (some sh) (some (sh + 4))) y 0 (strPick allLetters (some sh) (some (sh + 4))).length 1).headD 0 : Nat) : Int))) (.of ["letters"] rfl rfl (by rfl) rfl (.ev rfl)) (.of (EV.eq (EV.meth (EV.name (v:=.str (pageOf (lettersOf sh T))) (by rfl)) rfl m_split (EVL.ev (by rfl)) (op_split1 pf.plen (by rw [pf.parts,List.length_map,tab.ok.len]; decide) pf.pkind (by rfl) pf.pocc)) (by rw [pf.parts])) ITER.lst) (by rfl) (by rfl) (fun u hu L out=>?_) (by rw [List.length_map,List.length_map,tab.ok.len]; decide)) ?_
  ·obtain ⟨x,hx,rfl⟩:=memm hu
   obtain ⟨row,hrow,rfl⟩:=memm hx
   have hrl : row.length = 5:=rows5 tab.ok row hrow
   have hw:=pf.words row hrow
   refine EV.eq (EV.compN (cap:=[("letters",.str (strPick allLetters (some sh) (some (sh + 4))))]) (vs:=(row.map (letT sh)).map V.str) (fun v=>.int (((Builtin.Str.occurrences (strPick allLetters (some sh) (some (sh + 4))) v.toS 0 (strPick allLetters (some sh) (some (sh + 4))).length 1).headD 0 : Nat) : Int)) (.of ["letters"] rfl rfl (by rfl) rfl (.ev rfl)) (.of (EV.eq (EV.meth (EV.name (v:=.str (rowText sh row)) (by rfl)) rfl m_split EVL.nil (op_split0 (pf.rlen row hrow) (pf.rsw row hrow) (pf.rsw2 row hrow))) (by rw [hw])) ITER.lst) (by rfl) (by rfl) (fun u hu L out=>?_) (by rw [List.length_map,List.length_map,hrl]; decide)) ?_
   ·obtain ⟨y,hy,rfl⟩:=memm hu
    obtain ⟨t,ht,rfl⟩:=memm hy
    obtain ⟨r,hr⟩:=pf.idx row hrow t ht
    refine EV.eq (EV.meth (EV.name (v:=.str (strPick allLetters (some sh) (some (sh + 4)))) (by rfl)) rfl m_sindex (EVL.ev (by rfl)) (op_sindex hr)) ?_
    show V.int _ = V.int _
    rw [show (V.str (letT sh t)).toS = letT sh t from rfl,hr]; rfl
   ·show V.lst _ = V.lst ((PySem.wordsOf (rowText sh row)).map _)
    rw [hw,List.map_map]; rfl
  ·unfold tabV
   refine congrArg V.lst ?_
   rw [List.map_map,List.map_map]
   refine List.map_congr_left fun row hrow=>?_
   show V.lst ((PySem.wordsOf (rowText sh row)).map _) = _
   rw [pf.words row hrow,List.map_map]
   refine congrArg V.lst (List.map_congr_left fun t ht=>?_)
   obtain ⟨r,hr⟩:=pf.idx row hrow t ht
   show V.int _ = V.int _
   rw [hr]
   show V.int ((t.toNat:Nat) : Int) = _
   rw [Int.toNat_of_nonneg (pf.item row hrow t ht).1]
 refine EXs.assign (v:=.bool true) EV.bool (.inl (by rfl)) ?_
 refine EXs.norm (l':=[("clear",.bool (cl1 T 0)),("ties",tabV T)]) (.ev rfl) ?_
 refine EXs.forR (n:=5) (fun i=>⟨[("clear",.bool (cl1 T i)),("ties",tabV T)],[]⟩) (EV.boot (by kernel_rfl) (by rfl) (by rfl)) EV.int (by decide) (.inl (by rfl)) rfl ?_ ?_ (by rfl) (by rfl) (by rfl) (fun ζ=>rfl)
 ·
  intro h hh out1 Q1 hQ1
  refine EXs.norm (l':=[("clear",.bool (cl1 T h && cl2 T h 0)),("ties",tabV T),("high",.int (h:Int))]) (.cons (by show _ = some (V.bool (cl1 T h && true)); rw [Bool.and_true]; rfl) (.ev rfl)) ?_
  refine EXs.forR (n:=h) (fun m=>⟨[("clear",.bool (cl1 T h && cl2 T h m)),("ties",tabV T),("high",.int (h:Int))],[]⟩) (EV.boot (by kernel_rfl) (by rfl) (by rfl)) (EV.name (by rfl)) (by w_left) (.inl (by rfl)) rfl ?_ ?_ (by rfl) (by rfl) (by rfl) (fun ζ=>rfl)
  ·intro m hm out2 Q2 hQ2
   refine EXs.norm (l':=[("clear",.bool (cl1 T h && cl2 T h m && cl3 T h m 0)),("ties",tabV T),("high",.int (h:Int)),("middle",.int (m:Int))]) (.cons (by show _ = some (V.bool (cl1 T h && cl2 T h m && true)); rw [Bool.and_true]; rfl) (.ev rfl)) ?_
   refine EXs.forR (n:=m) (fun l=>⟨[("clear",.bool (cl1 T h && cl2 T h m && cl3 T h m l)),("ties",tabV T),("high",.int (h:Int)),("middle",.int (m:Int))],[]⟩) (EV.boot (by kernel_rfl) (by rfl) (by rfl)) (EV.name (by rfl)) (by w_left) (.inl (by rfl)) rfl ?_ ?_ (by rfl) (by rfl) (by rfl) (fun ζ=>rfl)
   ·intro l hl' out3 Q3 hQ3
    have hcl : (cl1 T h && cl2 T h m && cl3 T h m (l + 1)) = ((cl1 T h && cl2 T h m && cl3 T h m l) && !dist3 (ent T l m) (ent T l h) (ent T m h)):=by
     unfold cl3
     rw [all_range_succ,← Bool.and_assoc]; rfl
    rw [hcl] at hQ3
    clear hcl
    have q1:=tab.rng l m (by w_left) (by w_left) (by w_left)
    have q2:=tab.rng l h (by w_left) (by w_left) (by w_left)
    have q3:=tab.rng m h (by w_left) (by w_left) (by w_left)
    have tk:=TriOk.of q1 q2 q3
    refine EXs.assign (v:=.lst ([ent T l m,ent T l h,ent T m h].map V.int)) (EV.list (EVL.cons (ev_ent tab.ok (EV.name (by rfl)) (EV.name (v:=.int (l:Int)) (by rfl)) (EV.name (v:=.int (m:Int)) (by rfl)) (by w_left) (by w_left)) (EVL.cons (ev_ent tab.ok (EV.name (by rfl)) (EV.name (v:=.int (l:Int)) (by rfl)) (EV.name (v:=.int (h:Int)) (by rfl)) (by w_left) (by w_left)) (EVL.cons (ev_ent tab.ok (EV.name (by rfl)) (EV.name (v:=.int (m:Int)) (by rfl)) (EV.name (v:=.int (h:Int)) (by rfl)) (by w_left) (by w_left)) EVL.nil)))) (.inl (by rfl)) ?_
    generalize ent T l m = t1 at *
    generalize ent T l h = t2 at *
    generalize ent T m h = t3 at *
    generalize (cl1 T h && cl2 T h m && cl3 T h m l) = B at *
    have hlv:=lightV_tup [t1,t2,t3]
    refine EXs.assign (v:=.tup (itemsV (lightV [t1,t2,t3]))) (EV.eq (EV.callv (vs:=[.lst ([t1,t2,t3].map V.int)]) (EV.glob (v:=.ref 270) (by kernel_rfl) (by rfl)) (EVL.ev (by rfl)) (.top (by kernel_rfl)) ((light_ok _ tk.light).mono (Nat.le_add_left 2 _))) hlv.1) (.inl (by rfl)) ?_
    refine EXs.norm (l':=[("light",.tup (itemsV (lightV [t1,t2,t3]))),("three",.lst ([t1,t2,t3].map V.int)),("clear",.bool B),("ties",tabV T),("high",.int (h:Int)),("middle",.int (m:Int))]) (.ev rfl) ?_
    refine EXs.iteF (EVB.neTup (r:=true) (l':=[("three",.lst ([t1,t2,t3].map V.int))]) rfl hn (EV.name (by rfl)) (.ev rfl) (nf_cons (.lst (nfs_ints _)) nf_nil) (fun n'=>EV.eq (EV.callv (vs:=[.lst ([t1,t2,t3].map V.int)]) (EV.glob (v:=.ref 277) (by kernel_rfl) (by rfl)) (EVL.ev (by rfl)) (.top (by kernel_rfl)) ((due_ok [t1,t2,t3] _ _ _ (show 3 < 64 by decide) tk.perm tk.sorted tk.due).mono (Nat.le_add_left 2 _))) (dueV_tup _ _ _)) tk.eqv) ?_
    obtain ⟨z,hz⟩ : ∃ z,(itemsV (lightV [t1,t2,t3]))[1]? = some z:=⟨_,List.getElem?_eq_getElem (by rw [hlv.2]; decide)⟩
    have hzz:=tk.zero
    rw [List.getD_eq_getElem?_getD,hz] at hzz
    refine EXs.ite (b:=dist3 t1 t2 t3) (EVB.cmp (a:=z) (EV.sub (EV.name (v:=.tup (itemsV (lightV [t1,t2,t3]))) (by rfl)) rfl ⟨_,PySem.F.slot_tuple_getitem.lookup⟩ EV.int (op_itemT (by decide) (by decide) hz)) EV.int (op_eqA hzz)) (fun hd=>?_) (fun hd=>?_)
    ·refine EXs.assign (v:=.bool false) EV.bool (.inl (by rfl)) ?_
     rw [hd] at hQ3
     refine EXs.norm (l':=[("clear",.bool (B && !true)),("ties",tabV T),("high",.int (h:Int)),("middle",.int (m:Int))]) (.cons (by rw [Bool.not_true,Bool.and_false]; rfl) (.ev rfl)) (EXs.nil (EXs.nil hQ3))
    ·rw [hd] at hQ3
     refine EXs.norm (l':=[("clear",.bool (B && !false)),("ties",tabV T),("high",.int (h:Int)),("middle",.int (m:Int))]) (.cons (by rw [Bool.not_false,Bool.and_true]; rfl) (.ev rfl)) (EXs.nil (EXs.nil hQ3))
   ·have hcl : (cl1 T h && cl2 T h (m + 1)) = (cl1 T h && cl2 T h m && cl3 T h m m):=by
     unfold cl2
     rw [all_range_succ,← Bool.and_assoc]
    exact EXs.norm (l':=[("clear",.bool (cl1 T h && cl2 T h (m + 1))),("ties",tabV T),("high",.int (h:Int))]) (.cons (by rw [hcl]; rfl) (.ev rfl)) (EXs.nil hQ2)
  ·have hcl : cl1 T (h + 1) = (cl1 T h && cl2 T h h):=by
    unfold cl1
    rw [all_range_succ]
   exact EXs.norm (l':=[("clear",.bool (cl1 T (h + 1))),("ties",tabV T)]) (.cons (by rw [hcl]; rfl) (.ev rfl)) (EXs.nil hQ1)
 refine EXs.norm (l':=[("clear",.bool (cl1 T 5 && clq T 0)),("ties",tabV T)]) (.cons (by show _ = some (V.bool (cl1 T 5 && true)); rw [Bool.and_true]; rfl) (.ev rfl)) ?_
 refine EXs.forR (n:=5) (fun i=>⟨[("clear",.bool (cl1 T 5 && clq T i)),("ties",tabV T)],[]⟩) (EV.boot (by kernel_rfl) (by rfl) (by rfl)) EV.int (by decide) (.inr ⟨by rfl,by rfl⟩) rfl ?_ ?_ (by rfl) (by rfl) (by rfl) (fun ζ=>rfl)
 ·
  intro left hh out1 Q1 hQ1
  have hcl : (cl1 T 5 && clq T (left + 1)) = (cl1 T 5 && clq T left && gQuad T left):=by
   unfold clq
   rw [all_range_succ,← Bool.and_assoc]
  rw [hcl] at hQ1
  clear hcl
  generalize (cl1 T 5 && clq T left) = B at *
  refine EXs.assign (v:=.lst (fourV left)) (EV.eq (EV.compF (cap:=[("left",.int (left:Int))]) (vs:=rngV 0 1 5) (fun v=>v.toI != (left:Int)) (fun v=>v) (.of ["left"] rfl rfl (by rfl) rfl (.ev rfl)) (src_range (EV.boot (by kernel_rfl) (by rfl) (by rfl)) (n:=5) EV.int (by decide) (fun ζ ζ=>rfl) (by rfl) (by rfl) (by rfl)) (by rfl) (by rfl) (fun u hu L out=>?_) (fun u hu ζ L out=>EV.name (by rfl)) (by decide)) (congrArg V.lst (four_eq hh))) (.inr ⟨by rfl,by rfl⟩) ?_
  ·obtain ⟨i,_,rfl⟩:=memm hu
   exact EVB.cmp (EV.name (v:=.int _) (by rfl)) (EV.name (v:=.int (left:Int)) (by rfl)) op_ne
  refine EXs.assign (v:=.lst ((sixL T left).map V.int)) (EV.eq (EV.comp2 (cap:=[("four",.lst (fourV left)),("ties",tabV T)]) (vs:=fourV left) (ws:=fun ζ=>fourV left) (f:=sixF T) (.of ["ties","four"] rfl rfl (by rfl) rfl (.ev rfl)) (.of (EV.name (v:=.lst (fourV left)) (by rfl)) ITER.lst) (by rfl) (by rfl) (by decide) (by rfl) (by rfl) (fun u hu C out l mu hs=>.of (EV.name (v:=.lst (fourV left)) (hs _ _ (by rfl))) ITER.lst) (fun u hu v hv C out l mu hs=>?_) (fun u hu v hv z hz C out l mu hs=>?_) (by rw [six_eq T hh,List.length_map,(six_shape tab hh).1]; decide) (fun ζ ζ=>rfl) (fun ζ=>rfl)) (congrArg V.lst (six_eq T hh))) (.inr ⟨by rfl,by rfl⟩) ?_
  ·obtain ⟨i,hi,rfl⟩:=mem_fourV hu
   obtain ⟨j,hj,rfl⟩:=mem_fourV hv
   rw [sixF_some]
   exact EVT.one (EVB.cmp (EV.name (v:=.int (j:Int)) (hs _ _ (by rfl))) (EV.name (v:=.int (i:Int)) (hs _ _ (by rfl))) op_lt)
  ·obtain ⟨i,hi,rfl⟩:=mem_fourV hu
   obtain ⟨j,hj,rfl⟩:=mem_fourV hv
   obtain rfl : V.int (ent T j i) = z:=by
    unfold sixF at hz
    split at hz
    ·exact Option.some.inj hz
    ·w_dflts hz
   exact ev_ent tab.ok (EV.name (hs _ _ (by rfl))) (EV.name (hs _ _ (by rfl))) (EV.name (hs _ _ (by rfl))) (four_mem left hh j hj).1 (four_mem left hh i hi).1
  have sx:=six_ok tab hh
  obtain ⟨hl6,hr6⟩:=six_shape tab hh
  have hlv:=lightV_tup (sixL T left)
  refine EXs.assign (v:=.tup (itemsV (lightV (sixL T left)))) (EV.eq (EV.callv (vs:=[.lst ((sixL T left).map V.int)]) (EV.glob (v:=.ref 270) (by kernel_rfl) (by rfl)) (EVL.ev (by rfl)) (.top (by kernel_rfl)) ((light_ok _ sx.rgb).mono (Nat.le_add_left 2 _))) hlv.1) (.inl (by rfl)) ?_
  refine EXs.assignCompN (cap:=[("six",.lst ((sixL T left).map V.int))]) (vs:=rngV 0 1 3) (fun v=>.int (cnt (sixL T left) v.toI)) (.of ["six"] rfl rfl (by rfl) rfl (.ev rfl)) (src_range (EV.boot (by kernel_rfl) (by rfl) (by rfl)) (n:=3) EV.int (by decide) (fun ζ ζ=>rfl) (by rfl) (by rfl) (by rfl)) (by rfl) (by rfl) (fun u hu L out=>?_) (by decide) (.inl (by rfl)) ?_ (by rfl) (fun ζ=>rfl)
  ·obtain ⟨i,_,rfl⟩:=memm hu
   exact EV.meth (EV.name (v:=.lst ((sixL T left).map V.int)) (by rfl)) rfl m_count (EVL.ev (by rfl)) op_count
  have hsm : (sixL T left).map V.int = (sixL T left).map V.int:=rfl
  refine EXs.norm (l':=[("clear",.bool B),("counts",.lst ([cnt (sixL T left) 0,cnt (sixL T left) 1,cnt (sixL T left) 2].map V.int)),("light",.tup (itemsV (rgbV (cnt (sixL T left) 0) (cnt (sixL T left) 1) (cnt (sixL T left) 2)))),("four",.lst (fourV left)),("ties",tabV T)]) (.ev rfl) ?_
  have hg : gQuad T left = !(is33 (cnt (sixL T left) 0) (cnt (sixL T left) 1) (cnt (sixL T left) 2) && noStar T left):=rfl
  rw [hg] at hQ1
  clear hg
  have hl3 : (itemsV (rgbV (cnt (sixL T left) 0) (cnt (sixL T left) 1) (cnt (sixL T left) 2))).length = 3:=hlv.2
  generalize cnt (sixL T left) 0 = a at *
  generalize cnt (sixL T left) 1 = b at *
  generalize cnt (sixL T left) 2 = d at *
  refine EXs.iteF (EVB.neTup (r:=true) (l':=[("counts",.lst ([a,b,d].map V.int))]) rfl hn (ev_sliceT (l:=1) (EV.name (v:=.tup (itemsV (rgbV a b d))) (by rfl)) EV.int (by decide) (by rw [hl3]; decide) (by rw [hl3]; decide)) (.ev rfl) (nf_cons (.lst (nfs_ints _)) nf_nil) (fun n'=>EV.tuple (EVL.cons (v:=.flt (fr (max a (max b d) - min a (min b d)) (max a (max b d)))) (EV.bin (EV.bin (EV.callv (vs:=[.lst [.int a,.int b,.int d]]) (EV.boot (by kernel_rfl) (by rfl) (by rfl)) (EVL.ev (by rfl)) .builtin op_max3L) (EV.callv (vs:=[.lst [.int a,.int b,.int d]]) (EV.boot (by kernel_rfl) (by rfl) (by rfl)) (EVL.ev (by rfl)) .builtin op_min3L) op_sub) (EV.callv (vs:=[.lst [.int a,.int b,.int d]]) (EV.boot (by kernel_rfl) (by rfl) (by rfl)) (EVL.ev (by rfl)) .builtin op_max3L) (op_fr sx.fr)) (EVL.cons (v:=.int (max a (max b d))) (EV.callv (vs:=[.lst [.int a,.int b,.int d]]) (EV.boot (by kernel_rfl) (by rfl) (by rfl)) (EVL.ev (by rfl)) .builtin op_max3L) EVL.nil))) sx.sat) ?_
  refine EXs.ite (b:=is33 a b d) (EVB.cmp (a:=.tup ((itemsV (rgbV a b d)).drop 1)) (ev_sliceT (l:=1) (EV.name (v:=.tup (itemsV (rgbV a b d))) (by rfl)) EV.int (by decide) (by rw [hl3]; decide) (by rw [hl3]; decide)) (EV.tuple (EVL.ev (by rfl))) (op_eqv (n:=1) (.tup (eqvT_okI 0 (b:=[1,3]) sx.full)))) (fun h3=>?_) (fun h3=>?_)
  ·
   obtain ⟨q1,q2,q3,q4,q5⟩:=sx.hue h3
   obtain ⟨x,r,hx⟩:=hue_shape q1
   rw [hx] at q3 ⊢
   refine EXs.assignCompC (cl:=[("ties",_),("four",_)]) (cap:=[("four",.lst (fourV left)),("ties",tabV T)]) (vs:=fourV left) (f:=starsF T left) ⟨rfl,fun ζ=>rfl,fun ζ=>rfl,rfl,by decide,ck_cons (by rfl) (by rfl) (ck_cons (by rfl) (by rfl) ck_nil),(show (["ties","four"] : List Str).Nodup by decide),cap3 (cap_cons (by rfl) (by rfl) (by rfl) (by rfl) (cap_cons (by rfl) (by rfl) (by rfl) (by rfl) cap_nil)) (fun o h=>by cases h; rfl)⟩ (.of (EV.name (v:=.lst (fourV left)) (by rfl)) ITER.lst) (by rfl) (by rfl) (fun u hu C K hK out l mu hs=>?_) (by unfold fourV; rw [List.length_map,four_len _ hh]; decide) (.inl (by rfl)) ?_ (by rfl) (fun ζ=>rfl)
   ·obtain ⟨p,hp,rfl⟩:=mem_fourV hu
    obtain ⟨p5,_,_,_⟩:=four_mem left hh p hp
    refine EV.eq (EV.compF (cap:=[("point",.int (p:Int)),("ties",tabV T)]) (vs:=fourV left) (fun v=>v.toI != (p:Int)) (fun v=>.int (ent T p v.toI.toNat)) (.of ["ties","point"] rfl rfl (by rfl) rfl (.trans (.ev rfl) hs)) (.of (EV.name (v:=.lst (fourV left)) (hs _ _ (by rfl))) ITER.lst) (by rfl) (by rfl) (fun u hu L out=>?_) (fun u hu ζ L out=>?_) (by unfold fourV; rw [List.length_map,four_len _ hh]; decide)) (congrArg V.lst (star_eq T hh hp))
    ·obtain ⟨o,ho,rfl⟩:=mem_fourV hu
     exact EVB.cmp (EV.name (v:=.int (o:Int)) (by rfl)) (EV.name (v:=.int (p:Int)) (by rfl)) op_ne
    ·obtain ⟨o,ho,rfl⟩:=mem_fourV hu
     exact ev_ent tab.ok (EV.name (by rfl)) (EV.name (by rfl)) (EV.name (by rfl)) p5 (four_mem left hh o ho).1
   rw [stars_map T left]
   refine EXs.assignCompN (cap:=[]) (vs:=starsV T left) lampsF (.of [] rfl rfl (by rfl) rfl (.ev rfl)) (.of (EV.name (v:=.lst (starsV T left)) (by rfl)) ITER.lst) (by rfl) (by rfl) (fun u hu L out=>?_) (by rw [stars_len T hh]; decide) (.inl (by rfl)) ?_ (by rfl) (fun ζ=>rfl)
   ·obtain ⟨p,hp,rfl⟩:=mem_starsV hu
    have hso:=star_ok tab hh hp
    refine EV.eq (EV.callv (vs:=[.lst ((starL T left p).map V.int)]) (EV.glob (v:=.ref 270) (by kernel_rfl) (by rfl)) (EVL.ev (by rfl)) (.top (by kernel_rfl)) ((light_ok _ hso.light).mono (Nat.le_add_left 2 _))) ?_
    unfold lampsF
    rw [ints_map]
    exact (lightV_tup _).1
   refine EXs.norm (l':=[("clear",.bool B),("counts",.lst ([a,b,d].map V.int)),("light",.tup (.flt x :: r)),("stars",.lst (starsV T left)),("lights",.lst ((starsV T left).map lampsF)),("ties",tabV T)]) (.ev rfl) ?_
   refine EXs.iteF (EVB.orF (EVB.cmp (a:=.flt x) (b:=.flt (fr ((2 * (dark a b d:Int) + 3).fmod 6) 6)) (EV.sub (EV.name (v:=.tup (.flt x :: r)) (by rfl)) rfl ⟨_,PySem.F.slot_tuple_getitem.lookup⟩ EV.int (op_itemT (by decide) (by decide) rfl)) (EV.bin (EV.bin (EV.bin (EV.bin EV.int (EV.meth (EV.name (v:=.lst ([a,b,d].map V.int)) (by rfl)) rfl m_index (EVL.ev (by rfl)) (op_index q4 q5 (show 3 < 64 by decide))) (op_mul (IntMulOk.of_left (by decide)))) EV.int op_add) EV.int (op_mod (by decide))) EV.int (op_fr q2)) (by rw [← q3]; exact op_fne)) (EVB.neLst (r:=true) (l':=[("stars",.lst (starsV T left))]) rfl hn (EV.name (v:=.lst ((starsV T left).map lampsF)) (by rfl)) (.ev rfl) ?_ (fun n'=>EV.compN (cap:=[]) (vs:=starsV T left) duesF (.of [] rfl rfl (by rfl) rfl (.ev rfl)) (.of (EV.name (v:=.lst (starsV T left)) (by rfl)) ITER.lst) (by rfl) (by rfl) (fun u hu L out=>?_) (by rw [stars_len T hh]; decide)) (eqvs_map ?_))) ?_
   ·refine nf_cons (.lst (nfs_all fun v hv=>?_)) nf_nil
    obtain ⟨p,hp,rfl⟩:=mem_starsV hv
    exact .lst (nfs_ints _)
   ·obtain ⟨p,hp,rfl⟩:=mem_starsV hu
    obtain ⟨s1,s2,s3,e,tk⟩:=star_shape tab hh hp
    rw [e]
    refine EV.eq (EV.callv (vs:=[.lst ([s1,s2,s3].map V.int)]) (EV.glob (v:=.ref 277) (by kernel_rfl) (by rfl)) (EVL.ev (by rfl)) (.top (by kernel_rfl)) ((due_ok [s1,s2,s3] _ _ _ (show 3 < 64 by decide) tk.perm tk.sorted tk.due).mono (Nat.le_add_left 2 _))) ?_
    unfold duesF
    rw [ints_map]
    rfl
   ·intro v hv
    obtain ⟨p,hp,rfl⟩:=mem_starsV hv
    exact (star_ok tab hh hp).eqv
   refine EXs.ite (b:=noStar T left) (EVB.cmp (a:=.lst (((starsV T left).map lampsF).filter thirdB)) (b:=.lst []) (EV.eq (EV.compF (cap:=[]) (vs:=(starsV T left).map lampsF) thirdB (fun v=>v) (.of [] rfl rfl (by rfl) rfl (.ev rfl)) (.of (EV.name (v:=.lst ((starsV T left).map lampsF)) (by rfl)) ITER.lst) (by rfl) (by rfl) (fun u hu L out=>?_) (fun u hu ζ L out=>EV.name (by rfl)) (by rw [List.length_map,stars_len T hh]; decide)) (congrArg V.lst (List.map_id _))) (EV.list EVL.nil) (by rw [← no_stars tab hh]; exact op_eqv (n:=2) (.lst eqvs_nil))) (fun hs=>?_) (fun hs=>?_)
   ·obtain ⟨v,hv,rfl⟩:=memm hu
    obtain ⟨p,hp,rfl⟩:=mem_starsV hv
    have hso:=star_ok tab hh hp
    have h3':=hso.three
    unfold thirdB
    rw [h3',some_beq]
    obtain ⟨z,hz⟩ : ∃ z,(itemsV (lampsF (V.lst ((starL T left p).map V.int))))[2]? = some z:=⟨_,List.getElem?_eq_getElem (by rw [hso.len]; decide)⟩
    rw [List.getD_eq_getElem?_getD,hz] at h3'
    exact EVB.cmp (a:=z) (EV.sub (EV.name (v:=.tup (itemsV (lampsF (V.lst ((starL T left p).map V.int))))) (by rfl)) rfl ⟨_,PySem.F.slot_tuple_getitem.lookup⟩ EV.int (op_itemT (by decide) (by decide) hz)) EV.int (op_eqA h3')
   ·refine EXs.assign (v:=.bool false) EV.bool (.inl (by rfl)) ?_
    rw [h3,hs] at hQ1
    refine EXs.norm (l':=[("clear",.bool (B && !(true && true))),("ties",tabV T)]) (.cons (by rw [Bool.and_self,Bool.not_true,Bool.and_false]; rfl) (.ev rfl)) (EXs.nil (EXs.nil (EXs.nil hQ1)))
   ·rw [h3,hs] at hQ1
    refine EXs.norm (l':=[("clear",.bool (B && !(true && false))),("ties",tabV T)]) (.cons (by rw [Bool.and_false,Bool.not_false,Bool.and_true]; rfl) (.ev rfl)) (EXs.nil (EXs.nil (EXs.nil hQ1)))
  ·rw [h3] at hQ1
   refine EXs.norm (l':=[("clear",.bool (B && !(false && noStar T left))),("ties",tabV T)]) (.cons (by rw [Bool.false_and,Bool.not_false,Bool.and_true]; rfl) (.ev rfl)) (EXs.nil (EXs.nil hQ1))
 refine EXs.assignTM (EM.callE (EV.glob (v:=.ref 289) (by kernel_rfl) (by rfl)) (.top (by kernel_rfl)) (EML.of (vs:=[tabV T]) (EVL.ev (by rfl)) (FNM.weaken (hosts_ok (k:=k + 12) tab.ok) fun v mu' w0=>?_)))
 obtain ⟨H,nn,em,ev,hnn⟩:=w0
 subst em
 subst ev
 refine ⟨_,ASG.utup (ns:=[("hosts",_),("told",_)]) rfl (fun p hp=>(memc hp).elim (fun e=>e ▸ .inr ⟨by rfl,by rfl⟩) fun hp=>(mem1 hp) ▸ .inl (by rfl)),?_⟩
 have hlk : List.lookup H [(H,MO.dict (hostsN T 9).2)] = some (.dict (hostsN T 9).2):=by rw [List.lookup_cons,beq_self_eq_true]
 refine EXs.norm (l':=[("clear",.bool (cl1 T 5 && clq T 5)),("hosts",.mob H),("told",.lst (List.replicate nn .none)),("ties",tabV T)]) (.ev rfl) ?_
 refine EXs.iteF (EVB.orF (EVB.cmp (a:=.lst []) (b:=.lst []) (EV.eq (EV.compF (cap:=[]) (vs:=List.replicate nn .none) (fun ζ=>false) (fun v=>v) (.of [] rfl rfl (by rfl) rfl (.ev rfl)) (.of (EV.name (v:=.lst (List.replicate nn .none)) (by rfl)) ITER.lst) (by rfl) (by rfl) (fun u hu L out=>?_) (fun u hu ζ L out=>EV.name (by rfl)) (by rw [List.length_replicate]; exact Nat.le_trans hnn (by decide))) (congrArg V.lst (filter_false _))) (EV.list EVL.nil) (op_ne_lst (n:=0) (r:=true) (.nil 0))) (EVB.cmp (a:=.bool (((hostsN T 9).2.length : Int) == 5)) (b:=.bool (cl1 T 5 && clq T 5)) (EV.cmp (ev_lenD (EV.boot (by kernel_rfl) (by rfl) (by rfl)) (EVL.ev (by rfl)) hlk (by have:=ho.len; (first | lia | omega)) (by rfl) (by rfl)) EV.int op_eq) (EV.name (by rfl)) (by rw [ho.all]; exact op_isnot_self))) ?_
 ·have e:=List.eq_of_mem_replicate hu
  subst e
  exact EVB.cmp (EV.name (v:=.none) (by rfl)) EV.none op_isnotN
 have hnl:=names_len (hostsN T 9).2
 refine EXs.assignCompF (cap:=[("hosts",.mob H)]) (vs:=chars "klmno") (hasV (hostsN T 9).2) (fun v=>v) (.of ["hosts"] rfl rfl (by rfl) rfl (.ev rfl)) (.of EV.str ITER.str) (by rfl) (by rfl) (fun u hu L out=>?_) (fun u hu ζ L out=>EV.name (by rfl)) (by decide) (.inl (by rfl)) ?_ (by rfl) (fun ζ=>rfl)
 ·rw [show ("klmno":Str) = wrd pts from rfl,chars_wrd] at hu
  obtain ⟨y,_,rfl⟩:=memm hu
  exact ev_in (EV.name (v:=.str (chr y)) (by rfl)) (EV.name (v:=.mob H) (by rfl)) hlk
 rw [names_eq]
 have hp:=fun {y:Nat} (h:y ∈ namesL (hostsN T 9).2)=>(names_pt h).1
 have hh:=ho.host
 have ht:=ho.told
 obtain ⟨kh,kb,hw,hk⟩:=ho.k
 generalize (hostsN T 9).2 = D at *
 generalize namesL D = N at *
 refine EXs.norm (l':=[("names",.lst (N.map ptV)),("hosts",.mob H),("ties",tabV T)]) (.ev rfl) ?_
 refine EXs.forS (fun i=>⟨[("names",.lst (N.map ptV)),("hosts",.mob H),("ties",tabV T)],[(H,.dict D)]⟩) (.enum (EV.boot (by kernel_rfl) (by rfl) (by rfl)) (EVL.ev (by rfl)) (by rfl) (by rfl)) rfl ?_ ?_
 ·
  intro i v hv out1 Q1 hQ1
  obtain ⟨y,hy,rfl⟩:=enum_turn hv
  have hym:=List.mem_of_getElem? hy
  have hpy:=hp hym
  obtain ⟨hrow,hr5⟩:=tab_row tab.ok hpy
  have hty:=ht i y hy
  have hi : i ≤ (N.map ptV).length:=by
   rw [List.length_map]
   rw [List.getElem?_eq_some_iff] at hy
   exact Nat.le_of_lt hy.1
  refine ⟨_,ASG.utup (ns:=[("number",_),("later",_)]) rfl (fun p hp=>(memc hp).elim (fun e=>e ▸ .inl (by rfl)) fun hp=>(mem1 hp) ▸ .inl (by rfl)),?_⟩
  show EXs _ _ _ _ _
  generalize T.getD (y - 107) [] = row at *
  have hsub : ∀ x ∈ N.take i,x ∈ N:=fun x hx=>List.mem_of_mem_take hx
  have hxl : (N.take i).length ≤ 5:=Nat.le_trans (List.length_take_le' _ _) hnl
  have hpk : pickV (N.map ptV) none (some (i:Int)) none = (N.take i).map ptV:=by rw [pickV_to hi,List.map_take]
  generalize N.take i = xs at *
  refine EXs.assign (v:=.lst (row.map V.int)) (EV.sub (EV.name (v:=tabV T) (by rfl)) rfl ⟨_,F.slot_list_getitem.lookup⟩ (ev_idx hpy (EV.name (by rfl))) (op_itemL (by (first | lia | omega)) (by obtain ⟨h1,h2⟩:=hpy; (first | lia | omega)) hrow)) (.inr ⟨by rfl,by rfl⟩) ?_
  refine EXs.ite (b:=false) (EVB.cmp (a:=.lst (toldF (hf y) (xs.map hf))) (b:=.lst ((xs.map fun x=>tieP row x).map V.int)) (EV.callv (vs:=[.str (wrd (hf y)),.lst ((xs.map hf).map fun o=>.str (wrd o))]) (EV.glob (v:=.ref 294) (by kernel_rfl) (by rfl)) (EVL.cons (op_getItemD (EV.name (v:=.mob H) (by rfl)) (EV.name (v:=.str (chr y)) (by rfl)) hlk (hh y hym).1) (EVL.cons (EV.eq (EV.compN (cap:=[("hosts",.mob H)]) (vs:=xs.map ptV) (fun v=>.str (wrd (hf v.toC))) (.of ["hosts"] rfl rfl (by rfl) rfl (.ev rfl)) (.of (EV.eq (ev_sliceL (l:=none) (u:=some (i:Int)) (EV.name (v:=.lst (N.map ptV)) (by rfl)) rfl (EV.name (by rfl)) (by rw [List.length_map]; exact Nat.le_trans hnl (by decide))) (congrArg V.lst hpk)) ITER.lst) (by rfl) (by rfl) (fun u hu L out=>?_) (by rw [List.length_map]; exact Nat.le_trans hxl (by decide))) (by rw [List.map_map,List.map_map]; rfl)) EVL.nil)) (.top (by kernel_rfl)) ((told_ok (hh y hym).2 (fun o ho=>?_) (by rw [List.length_map]; exact hxl)).mono (Nat.le_add_left 3 _))) (EV.eq (EV.compN (cap:=[("row",.lst (row.map V.int))]) (vs:=xs.map ptV) (fun v=>.int (tieP row v.toC)) (.of ["row"] rfl rfl (by rfl) rfl (.ev rfl)) (.of (EV.eq (ev_sliceL (l:=none) (u:=some (i:Int)) (EV.name (v:=.lst (N.map ptV)) (by rfl)) rfl (EV.name (by rfl)) (by rw [List.length_map]; exact Nat.le_trans hnl (by decide))) (congrArg V.lst hpk)) ITER.lst) (by rfl) (by rfl) (fun u hu L out=>?_) (by rw [List.length_map]; exact Nat.le_trans hxl (by decide))) (by rw [List.map_map,List.map_map]; rfl)) (by rw [hty]; exact op_ne_lst (r:=true) (eqvs_ints _))) (fun h=>by cases h) (fun ζ=>?_)
  ·obtain ⟨x,hx,rfl⟩:=memm hu
   exact op_getItemD (EV.name (v:=.mob H) (by rfl)) (EV.name (v:=.str (chr x)) (by rfl)) hlk (hh x (hsub x hx)).1
  ·obtain ⟨x,hx,rfl⟩:=memm ho
   exact (hh x (hsub x hx)).2
  ·obtain ⟨x,hx,rfl⟩:=memm hu
   have hpx:=hp (hsub x hx)
   exact EV.sub (EV.name (v:=.lst (row.map V.int)) (by rfl)) rfl ⟨_,F.slot_list_getitem.lookup⟩ (ev_idx hpx (EV.name (by rfl))) (op_itemRow hpx hr5)
  ·exact EXs.done (EXs.norm (l':=[("names",.lst (N.map ptV)),("hosts",.mob H),("ties",tabV T)]) (.ev rfl) (EXs.nil hQ1))
 refine EXs.ret (EV.callv (vs:=[.str (wrd kh)]) (EV.glob (v:=.ref 299) (by kernel_rfl) (by rfl)) (EVL.cons (EV.eq (ev_get2 (EV.name (v:=.mob H) (by rfl)) hlk (EVL.ev (by rfl)) (by exact ⟨rfl,rfl,rfl,rfl⟩)) hk) EVL.nil) (.top (by kernel_rfl)) ((holds_ok hw).mono (Nat.le_add_left 3 _))) ?_
 rfl
end
end Mine.Internal
end
section
set_option maxHeartbeats 4000000
namespace Mine.Internal
theorem law_all {w:World} {S0:Shared} {k:Nat} (ns:List Int) (hl:ns.length ≤ 63) : FNM w S0 (k + 16) true (fun xs=>call (.ref 304) xs) [.lst (ns.map V.int)] [] (fun v mu'=>v = .bool true):=by
 obtain ⟨hf,ho⟩:=hostFacts (tabS (10572 + (pickI ns 0).sum) ((0 + (pickI ns 1).sum) * (((90 + (pickI ns 2).sum).fdiv 4).fmod 2)))
 have h1:=Int.fmod_nonneg_of_pos ((90 + (pickI ns 2).sum).fdiv 8) (show (0:Int) < 16 by decide)
 have h2:=Int.fmod_lt_of_pos ((90 + (pickI ns 2).sum).fdiv 8) (show (0:Int) < 16 by decide)
 exact law_raw hl rfl rfl rfl rfl rfl (tabS _ _) (pageFacts ⟨h1,h2⟩ (tabS _ _)) ho
theorem ints_vr {S:Shared} {ms:List Addr} {s:Shared} {vs:List Value} {ns:List Int} (h:IntsAre vs ns) : VRs S ms s (ns.map V.int) vs:=by
 induction h with
 | nil=>exact .nil
 | cons n t _ ih=>exact .cons (.int n t) ih
theorem glob_of {w:World} {s:Shared} {p:Program} {loose:List Str} {mean:ExcName → Option Value} {mg mb:Str → Option Value} (X:(K0 w).In s.heap) (K:∀ P ∈ [197,204],s.heap.get? P = some (tabObj #[])) (T:Top p loose mean mg mb s.heap) (hg:s.gens = #[]) : Glob w s s:=
 have ht : ∀ P,(P = 197 ∨ P = 204) → s.heap.get? P = some (tabObj #[]):=fun P hP=>K P (by rcases hP with rfl | rfl <;> decide)
 ⟨⟨X,ht,⟨p,loose,mg,mb,topRead_of T⟩,⟨p,loose,mean,mg,mb,T⟩⟩,.of_keep fun ζ ζ e=>e,fun ζ e=>e,rfl,.of_eq hg,Nat.le_refl _,fun P hP=>⟨#[],ht P hP,trivial⟩⟩
theorem fit_caller : Fit (4 + 16) callerA:=⟨rfl,by decide,by decide⟩
end Mine.Internal
theorem PySem.Challenge.cw_xr0019_01_holds : PySem.Challenge.rw_xr0019_01.Holds := by
 refine Mine.Internal.hd ?_
 intro w s₀ s₁ mg mb G Y fa o pm cd doc dV kV ho hd hcd hD hmg hg args vals as hpre hlay hrd hwl hlo
 have KX:=km_in_of Y
 have KT:=km_tabs_of Y
 refine Ground.open G ?_
 intro T B D TE TW
 have gl:=Mine.Internal.glob_of KX KT T hg
 have efa:=(mg_of gl.X1 T.g (n:="law") (v:=.ref 304) (by kernel_rfl)).symm.trans hmg
 cases efa
 clear ho hd hcd hD hmg B D TE TW Y KX KT G
 wrow_args hpre hlay hrd hwl hlo
 rename_i ns _ _ _ _ _ _ _ l xs _ hl _ hw _ hi _ hlen _
 cases hw with | list e1 _=>
 refine wpAny_mono (Mine.Internal.law_all (k:=4) ns (by w_left) [] callerA s₁ [.ref l] Mine.Internal.fit_caller ⟨gl,fun a ha=>(by cases ha),fun p hp=>(by cases hp),.nil,fun a ha=>(by cases ha),fun a ha=>(by cases ha)⟩ (.cons (.lst e1 (by simp) (Mine.Internal.ints_vr ?_)) .nil)) (fun z s' q=>?_) (fun z s' q=>?_)
 ·obtain ⟨o',h1,_,n,h3⟩:=hl
  have e:=h1.symm.trans e1
  cases e
  injection h3 with h3 _
  have e2:=congrArg Array.toList h3
  rw [e2]
  exact hi
 ·obtain ⟨v,mu',rfl,g',hz,st⟩:=q
  cases hz
  refine ⟨.inl ⟨_,.bool true,[],rfl,raisesW_false ?_,.bool true,?_,fun ζ=>⟨.nil,fun a ha=>(by cases ha)⟩⟩,g'.glob.old,g'.glob.os,g'.glob.bare⟩
  ·wrow_none_raised
  ·wrow_post
 ·exact q.elim
end
