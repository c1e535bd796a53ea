/- Joined: RmA,RmB,VmC,IrO,OgA,OgB,OgC,OgD,OgE. -/
import Derived.Test.YtokkphocaloelaaGreatDoorBB
section
section
namespace Go.Proofs.YtokkphocaloelaaGreatDoor
open Go Go.Vc

theorem nwrap32 {n:Nat} (h:n < 4294967296):IntKind.u32.wrap (n:Int) = n := by rw [IntKind.wrap_u32]; omega
theorem nwrap64 {n:Nat} (h:n < 18446744073709551616):IntKind.u64.wrap (n:Int) = n := by rw [IntKind.wrap_u64]; omega
theorem nwrap8 {n:Nat} (h:n < 256):IntKind.u8.wrap (n:Int) = n := by rw [IntKind.wrap_u8]; omega
theorem nwrapi {n:Nat} (h:n < 9223372036854775808):IntKind.i64.wrap (n:Int) = n := by rw [IntKind.wrap_i64]; omega
theorem ntdiv (a b:Nat):(a:Int).tdiv (b:Int) = ((a / b:Nat):Int) := (Int.ofNat_tdiv a b).symm
theorem ntmod (a b:Nat):(a:Int).tmod (b:Int) = ((a % b:Nat):Int) := (Int.ofNat_tmod a b).symm
theorem nfdiv (a n:Nat):(a:Int).fdiv ((2:Int) ^ n) = ((a / 2 ^ n:Nat):Int) := by
 rw [Int.fdiv_eq_ediv_of_nonneg _ (by exact_mod_cast Nat.zero_le _)]
 norm_cast
theorem nshl (a n:Nat):(a:Int) * (2:Int) ^ n = ((a * 2 ^ n:Nat):Int) := by norm_cast
theorem ofInt_nat (w n:Nat):(BitVec.ofInt w (n:Int)) = BitVec.ofNat w n := by
 simp
theorem nand32 {a b:Nat} (ha:a < 4294967296) (hb:b < 4294967296):IntKind.u32.wrap (((BitVec.ofInt IntKind.u32.bits (a:Int) &&& BitVec.ofInt IntKind.u32.bits (b:Int)).toNat:Nat):Int) = ((a &&& b:Nat):Int) := by
 rw [ofInt_nat,ofInt_nat,BitVec.toNat_and,BitVec.toNat_ofNat,BitVec.toNat_ofNat]
 rw [Nat.mod_eq_of_lt (by simpa [IntKind.bits] using ha),Nat.mod_eq_of_lt (by simpa [IntKind.bits] using hb)]
 exact nwrap32 (Nat.lt_of_le_of_lt Nat.and_le_left ha)
theorem nandi {a b:Nat} (ha:a < 9223372036854775808) (hb:b < 9223372036854775808):IntKind.i64.wrap (((BitVec.ofInt IntKind.i64.bits (a:Int) &&& BitVec.ofInt IntKind.i64.bits (b:Int)).toNat:Nat):Int) = ((a &&& b:Nat):Int) := by
 rw [ofInt_nat,ofInt_nat,BitVec.toNat_and,BitVec.toNat_ofNat,BitVec.toNat_ofNat]
 rw [Nat.mod_eq_of_lt (by simp [IntKind.bits]; omega),Nat.mod_eq_of_lt (by simp [IntKind.bits]; omega)]
 exact nwrapi (Nat.lt_of_le_of_lt Nat.and_le_left ha)
theorem nand8 {a b:Nat} (ha:a < 256) (hb:b < 256):IntKind.u8.wrap (((BitVec.ofInt IntKind.u8.bits (a:Int) &&& BitVec.ofInt IntKind.u8.bits (b:Int)).toNat:Nat):Int) = ((a &&& b:Nat):Int) := by
 rw [ofInt_nat,ofInt_nat,BitVec.toNat_and,BitVec.toNat_ofNat,BitVec.toNat_ofNat]
 rw [Nat.mod_eq_of_lt (by simpa [IntKind.bits] using ha),Nat.mod_eq_of_lt (by simpa [IntKind.bits] using hb)]
 exact nwrap8 (Nat.lt_of_le_of_lt Nat.and_le_left ha)
theorem nor32 {a b:Nat} (ha:a < 4294967296) (hb:b < 4294967296):IntKind.u32.wrap (((BitVec.ofInt IntKind.u32.bits (a:Int) ||| BitVec.ofInt IntKind.u32.bits (b:Int)).toNat:Nat):Int) = ((a ||| b:Nat):Int) := by
 rw [ofInt_nat,ofInt_nat,BitVec.toNat_or,BitVec.toNat_ofNat,BitVec.toNat_ofNat]
 rw [Nat.mod_eq_of_lt (by simpa [IntKind.bits] using ha),Nat.mod_eq_of_lt (by simpa [IntKind.bits] using hb)]
 exact nwrap32 (Nat.or_lt_two_pow (n := 32) ha hb)
theorem nor64 {a b:Nat} (ha:a < 18446744073709551616) (hb:b < 18446744073709551616):IntKind.u64.wrap (((BitVec.ofInt IntKind.u64.bits (a:Int) ||| BitVec.ofInt IntKind.u64.bits (b:Int)).toNat:Nat):Int) = ((a ||| b:Nat):Int) := by
 rw [ofInt_nat,ofInt_nat,BitVec.toNat_or,BitVec.toNat_ofNat,BitVec.toNat_ofNat]
 rw [Nat.mod_eq_of_lt (by simpa [IntKind.bits] using ha),Nat.mod_eq_of_lt (by simpa [IntKind.bits] using hb)]
 exact nwrap64 (Nat.or_lt_two_pow (n := 64) ha hb)
theorem nor_add {a b i:Nat} (hb:b < 2 ^ i):a * 2 ^ i ||| b = a * 2 ^ i + b := by
 rw [Nat.mul_comm,Nat.two_pow_add_eq_or_of_lt hb]
theorem nand_mask (a i:Nat):a &&& (2 ^ i - 1) = a % 2 ^ i := Nat.and_two_pow_sub_one_eq_mod a i
theorem nshr (k:IntKind) (a n:Nat) (h:n ≤ k.bits):(a:Int).fdiv ((2:Int) ^ min n k.bits) = ((a / 2 ^ n:Nat):Int) := by rw [Nat.min_eq_left h,nfdiv]
theorem nshrv (k:IntKind) (a n:Nat) (h:n ≤ k.bits):(a:Int).fdiv ((2:Int) ^ min ((n:Nat):Int).toNat k.bits) = ((a / 2 ^ n:Nat):Int) := by rw [Int.toNat_natCast,Nat.min_eq_left h,nfdiv]
theorem nshlk (k:IntKind) (a n:Nat) (h:n ≤ k.bits):(a:Int) * ((2:Int) ^ min n k.bits) = ((a * 2 ^ n:Nat):Int) := by rw [Nat.min_eq_left h,nshl]
theorem nsub {a b:Nat} (h:b ≤ a):(a:Int) - (b:Int) = ((a - b:Nat):Int) := by omega
theorem nadd (a b:Nat):(a:Int) + (b:Int) = ((a + b:Nat):Int) := by omega
theorem nmul (a b:Nat):(a:Int) * (b:Int) = ((a * b:Nat):Int) := by norm_cast
theorem nshr8 (a n:Nat) (h:n ≤ 8):(a:Int).fdiv ((2:Int) ^ min n IntKind.u8.bits) = ((a / 2 ^ n:Nat):Int) := nshr .u8 a n h
theorem nshr32 (a n:Nat) (h:n ≤ 32):(a:Int).fdiv ((2:Int) ^ min n IntKind.u32.bits) = ((a / 2 ^ n:Nat):Int) := nshr .u32 a n h
theorem nshl32 (a n:Nat) (h:n ≤ 32):(a:Int) * ((2:Int) ^ min n IntKind.u32.bits) = ((a * 2 ^ n:Nat):Int) := nshlk .u32 a n h
theorem nshr64 (a n:Nat) (h:n ≤ 64):(a:Int).fdiv ((2:Int) ^ min n IntKind.u64.bits) = ((a / 2 ^ n:Nat):Int) := nshr .u64 a n h
theorem nshrv64 (a n:Nat) (h:n ≤ 64):(a:Int).fdiv ((2:Int) ^ min ((n:Nat):Int).toNat IntKind.u64.bits) = ((a / 2 ^ n:Nat):Int) := nshrv .u64 a n h
theorem nshl64 (a n:Nat) (h:n ≤ 64):(a:Int) * ((2:Int) ^ min n IntKind.u64.bits) = ((a * 2 ^ n:Nat):Int) := nshlk .u64 a n h
theorem nshri (a n:Nat) (h:n ≤ 64):(a:Int).fdiv ((2:Int) ^ min n IntKind.i64.bits) = ((a / 2 ^ n:Nat):Int) := nshr .i64 a n h
def u32 (n:Nat):AV := .o (.c (.val (.int .u32 n)))
def u64 (n:Nat):AV := .o (.c (.val (.int .u64 n)))
def i64 (n:Int):AV := .o (.c (.val (.int .i64 n)))
theorem u32_of {x:Int} {n:Nat} (h:x = n):resV [(A1.c (.val (.int .u32 x))).norm] = u32 n := by subst h; rfl
theorem u64_of {x:Int} {n:Nat} (h:x = n):resV [(A1.c (.val (.int .u64 x))).norm] = u64 n := by subst h; rfl
theorem i64_of {x y:Int} (h:x = y):resV [(A1.c (.val (.int .i64 x))).norm] = i64 y := by subst h; rfl
theorem eq_u32 {x y:Int} (h:x = y):some (AV.o (.c (.val (.int .u32 x)))) = some (AV.o (.c (.val (.int .u32 y)))) := by rw [h]
theorem eq_u64 {x y:Int} (h:x = y):some (AV.o (.c (.val (.int .u64 x)))) = some (AV.o (.c (.val (.int .u64 y)))) := by rw [h]
theorem eq_i64 {x y:Int} (h:x = y):some (AV.o (.c (.val (.int .i64 x)))) = some (AV.o (.c (.val (.int .i64 y)))) := by rw [h]
theorem bne_f {a b:Nat} (h:((a:Int) != (b:Int)) = false):a = b := by
 have:(a:Int) = b := by
   by_cases hab:(a:Int) = b
   · exact hab
   · rw [bne_iff_ne.2 hab] at h
     cases h
 omega
theorem bne_t {a b:Nat} (h:((a:Int) != (b:Int)) = true):a ≠ b := by
 have := bne_iff_ne.1 h
 omega
theorem beq_t {a b:Nat} (h:((a:Int) == (b:Int)) = true):a = b := by
 have := eq_of_beq h
 omega
theorem beq_f {a b:Nat} (h:((a:Int) == (b:Int)) = false):a ≠ b := by
 intro hab
 subst hab
 simp at h
theorem lt_t {a b:Nat} (h:decide ((a:Int) < (b:Int)) = true):a < b := by
 have := of_decide_eq_true h
 omega
theorem lt_f {a b:Nat} (h:decide ((a:Int) < (b:Int)) = false):b ≤ a := by
 have := of_decide_eq_false h
 omega
theorem le_t {a b:Nat} (h:decide ((a:Int) ≤ (b:Int)) = true):a ≤ b := by
 have := of_decide_eq_true h
 omega
theorem le_f {a b:Nat} (h:decide ((a:Int) ≤ (b:Int)) = false):b < a := by
 have := of_decide_eq_false h
 omega
theorem ge_t {a b:Nat} (h:decide ((a:Int) ≥ (b:Int)) = true):b ≤ a := by
 have := of_decide_eq_true h
 omega
theorem ge_f {a b:Nat} (h:decide ((a:Int) ≥ (b:Int)) = false):a < b := by
 have := of_decide_eq_false h
 omega
theorem gt_t {a b:Nat} (h:decide ((a:Int) > (b:Int)) = true):b < a := by
 have := of_decide_eq_true h
 omega
theorem gt_f {a b:Nat} (h:decide ((a:Int) > (b:Int)) = false):a ≤ b := by
 have := of_decide_eq_false h
 omega
theorem CallsA_frame {P:Program} {w0:World} {f:FuncId} {args:List A1} {v:AV} (hargs:args.map (A1.ren []) = args) (hv:v.ren [] = v) (h:CallsA P w0 f args [] fun r H => r = v ∧ H = []) (H:List Blk) :
   CallsA P w0 f args H fun r H' => r = v ∧ H' = H := by
 refine CallsA.lift (H0 := []) [] rfl trivial hargs h ?_
 rintro _ _ ⟨rfl,rfl⟩
 exact ⟨hv,by simp [putAll]⟩
theorem embNil {e0 e:Env} (h:embE [] e e0):EmbS 0 ⟨e0,[]⟩ ⟨e,[]⟩ := ⟨[],⟨rfl,trivial,rfl⟩,h⟩
theorem ieq_f {a b:Int} (h:(a == b) = false):a ≠ b := by
 rintro rfl
 rw [beq_self_eq_true] at h
 cases h
end Go.Proofs.YtokkphocaloelaaGreatDoor
end
section
namespace Go.Proofs.YtokkphocaloelaaGreatDoor
open Go Go.Vc
set_option maxRecDepth 100000

structure Dec where
 data:List Int
 br:Nat
 rb:Nat
 nb:Nat
 rng:Nat
 val:Nat
def Dec.H (d:Dec):List Blk := [.cells 146 [.vec 1 d.data.length,.val (.int .u64 d.br),.val (.int .u64 d.rb),.val (.int .u64 d.nb),.val (.int .u32 d.rng),.val (.int .u32 d.val)],.vec false 5 (encI .u8) [] 1 d.data]
structure Dec.ok (d:Dec):Prop where
 bytes:∀ x ∈ d.data,0 ≤ x ∧ x < 256
 len:d.data.length ≤ 1099511627776
 br:d.br ≤ 8796093022208
 rb:d.rb ≤ 4611686018427387904
 nb:d.nb ≤ 4611686018427387904
theorem Dec.H_of {d:Dec} {br rb nb rng val:Int} (h1:br = d.br) (h2:rb = d.rb) (h3:nb = d.nb) (h4:rng = d.rng) (h5:val = d.val) :
   [Blk.cells 146 [.vec 1 d.data.length,.val (.int .u64 br),.val (.int .u64 rb),.val (.int .u64 nb),.val (.int .u32 rng),.val (.int .u32 val)],.vec false 5 (encI .u8) [] 1 d.data] = d.H := by
 subst h1 h2 h3 h4 h5
 rfl
def Dec.byte (d:Dec) (i:Nat):Nat := (d.data.getD i 0).toNat
theorem Dec.byte_get {d:Dec} (h:d.ok) {i:Nat} (hi:i < d.data.length):d.data[i]? = some (d.byte i:Int) ∧ d.byte i < 256 := by
 have hm := h.bytes _ (List.getElem_mem hi)
 unfold Dec.byte
 rw [List.getD_eq_getElem?_getD,List.getElem?_eq_getElem hi,Option.getD_some]
 exact ⟨by congr 1; omega,by omega⟩
theorem Dec.byte_out {d:Dec} {i:Nat} (hi:d.data.length ≤ i):d.byte i = 0 := by
 unfold Dec.byte
 rw [List.getD_eq_getElem?_getD,List.getElem?_eq_none hi]
 rfl
theorem Dec.byte_lt {d:Dec} (h:d.ok) (i:Nat):d.byte i < 256 := by
 rcases Nat.lt_or_ge i d.data.length with hi | hi
 · exact (d.byte_get h hi).2
 · rw [d.byte_out hi]
   omega
def Dec.bit (d:Dec):Nat := d.byte (d.br / 8) / 2 ^ (7 - d.br % 8) % 2
def Dec.bitOn (d:Dec):Dec := { d with br := if d.br / 8 < d.data.length then d.br + 1 else d.br }
theorem getBit (w0:World) (d:Dec) (h:d.ok):CallsA Tryz.prog w0 128 [.c (.ptr 0 0)] d.H fun r H => r = u32 d.bit ∧ H = d.bitOn.H := by
 have := h.br
 have := h.len
 refine callsA_of_ev c128_ ?_
 conv => whnf
 refine Or.inl ?_
 conv => whnf
 refine ⟨fun h1 => ?_,fun h1 => ?_⟩
 · simp only [decide_eq_true_eq,IntKind.wrap_u64] at h1
   rw [ntdiv] at h1
   have h2:¬ d.br / 8 < d.data.length := by omega
   conv => whnf
   refine Or.inl ⟨?_,?_⟩
   · unfold Dec.bit
     rw [d.byte_out (by omega),Nat.zero_div]
     rfl
   · exact Dec.H_of (d := d.bitOn) (by simp [Dec.bitOn,h2]) rfl rfl rfl rfl
 · simp only [decide_eq_false_iff_not,IntKind.wrap_u64] at h1
   rw [ntdiv] at h1
   have h2:d.br / 8 < d.data.length := by omega
   obtain ⟨hb,hb2⟩ := d.byte_get h h2
   conv => whnf
   rw [ntdiv,nwrap64 (by omega)]
   refine ⟨by omega,?_⟩
   conv => whnf
   refine ⟨_,hb,?_⟩
   conv => whnf
   rw [ntmod,nsub (by omega),nwrap64 (by omega)]
   refine ⟨by omega,?_⟩
   conv => whnf
   refine Or.inl ⟨u32_of ?_,Dec.H_of (d := d.bitOn) ?_ rfl rfl rfl rfl⟩
   · have h3:d.byte (d.br / 8) / 2 ^ (7 - d.br % 8) < 256 := Nat.lt_of_le_of_lt (Nat.div_le_self _ _) hb2
     rw [nshrv _ _ _ (by show 7 - d.br % 8 ≤ 8; omega),nand8 h3 (by omega),Nat.and_one_is_mod,nwrap32 (by omega)]
     rfl
   · rw [nadd,nwrap64 (by omega)]
     simp [Dec.bitOn,h2]
end Go.Proofs.YtokkphocaloelaaGreatDoor
end
section
namespace Go.Proofs.YtokkphocaloelaaGreatDoor
open Go Go.Vc
set_option maxRecDepth 100000

def Dec.two (d:Dec):Nat := d.byte (d.br / 8) * 256 + d.byte (d.br / 8 + 1)
def Dec.bits (d:Dec) (n:Nat):Nat := d.two / 2 ^ (16 - d.br % 8 - n) % 2 ^ n
def Dec.bitsOn (d:Dec) (n:Nat):Dec := { d with br := if d.br + n ≤ 8 * d.data.length then d.br + n else max d.br (8 * d.data.length) }
theorem Dec.bits_succ {d:Dec} (h:d.ok) {i:Nat} (hi:i < 8):d.bits (i + 1) = 2 * d.bits i + (d.bitsOn i).bit := by
 have hx := d.byte_lt h (d.br / 8)
 have hy := d.byte_lt h (d.br / 8 + 1)
 have hbit:(d.bitsOn i).bit = d.two / 2 ^ (16 - d.br % 8 - (i + 1)) % 2 := by
   have hb1:∀ e:Dec,e.data = d.data → ∀ k,e.byte k = d.byte k := fun e he k => by unfold Dec.byte; rw [he]
   unfold Dec.bit
   rw [hb1 (d.bitsOn i) rfl]
   unfold Dec.bitsOn
   simp only
   split
   · rename_i hle
     rcases Nat.lt_or_ge (d.br % 8 + i) 8 with hp | hp
     · have e1:(d.br + i) / 8 = d.br / 8 := by omega
       have e2:(d.br + i) % 8 = d.br % 8 + i := by omega
       have e3:16 - d.br % 8 - (i + 1) = 8 + (7 - (d.br % 8 + i)) := by omega
       rw [e1,e2,e3,Nat.pow_add,← Nat.div_div_eq_div_mul]
       congr 2
       unfold Dec.two
       omega
     · have e1:(d.br + i) / 8 = d.br / 8 + 1 := by omega
       have e2:(d.br + i) % 8 = d.br % 8 + i - 8 := by omega
       have e3:16 - d.br % 8 - (i + 1) = 7 - (d.br % 8 + i - 8) := by omega
       rw [e1,e2,e3]
       have e4:d.two = 2 ^ (7 - (d.br % 8 + i - 8)) * (2 * (d.byte (d.br / 8) * 2 ^ (d.br % 8 + i - 8))) + d.byte (d.br / 8 + 1) := by
         unfold Dec.two
         congr 1
         have:(256:Nat) = 2 ^ (7 - (d.br % 8 + i - 8)) * (2 * 2 ^ (d.br % 8 + i - 8)) := by
           rw [Nat.mul_left_comm,← Nat.pow_add,show 7 - (d.br % 8 + i - 8) + (d.br % 8 + i - 8) = 7 by omega]
         rw [this]
         ac_rfl
       rw [e4,Nat.mul_add_div (Nat.two_pow_pos _),Nat.mul_add_mod]
   · rename_i hgt
     have hz:d.byte (max d.br (8 * d.data.length) / 8) = 0 := d.byte_out (by omega)
     rw [hz,Nat.zero_div]
     rcases Nat.lt_or_ge (d.br / 8) d.data.length with hl | hl
     · have e0:d.byte (d.br / 8 + 1) = 0 := d.byte_out (by omega)
       have e3:16 - d.br % 8 - (i + 1) = 7 - (d.br % 8 + i - 8) := by omega
       rw [e3]
       have e4:d.two = 2 ^ (7 - (d.br % 8 + i - 8)) * (2 * (d.byte (d.br / 8) * 2 ^ (d.br % 8 + i - 8))) := by
         unfold Dec.two
         rw [e0,Nat.add_zero]
         have:(256:Nat) = 2 ^ (7 - (d.br % 8 + i - 8)) * (2 * 2 ^ (d.br % 8 + i - 8)) := by
           rw [Nat.mul_left_comm,← Nat.pow_add,show 7 - (d.br % 8 + i - 8) + (d.br % 8 + i - 8) = 7 by omega]
         rw [this]
         ac_rfl
       rw [e4,Nat.mul_div_cancel_left _ (Nat.two_pow_pos _)]
       omega
     · have e0:d.byte (d.br / 8) = 0 := d.byte_out hl
       have e1:d.byte (d.br / 8 + 1) = 0 := d.byte_out (by omega)
       unfold Dec.two
       rw [e0,e1]
       simp
 rw [hbit]
 unfold Dec.bits
 have e5:16 - d.br % 8 - i = 16 - d.br % 8 - (i + 1) + 1 := by omega
 rw [e5,Nat.pow_succ 2 (16 - d.br % 8 - (i + 1)),← Nat.div_div_eq_div_mul]
 generalize d.two / 2 ^ (16 - d.br % 8 - (i + 1)) = v
 rw [Nat.pow_succ,Nat.mul_comm (2 ^ i) 2,Nat.mod_mul]
 omega
theorem Dec.bits_zero (d:Dec):d.bits 0 = 0 := by simp [Dec.bits,Nat.mod_one]
theorem Dec.bits_lt (d:Dec) (n:Nat):d.bits n < 2 ^ n := Nat.mod_lt _ (Nat.two_pow_pos _)
theorem Dec.bitsOn_zero (d:Dec):d.bitsOn 0 = d := by
 unfold Dec.bitsOn
 split
 · rfl
 · rw [Nat.max_eq_left (by omega)]
theorem Dec.bitsOn_succ (d:Dec) (i:Nat):(d.bitsOn i).bitOn = d.bitsOn (i + 1) := by
 unfold Dec.bitOn Dec.bitsOn
 simp only
 congr 1
 split <;> split <;> (try split) <;> omega
theorem Dec.bitsOn_ok {d:Dec} (h:d.ok) (n:Nat):(d.bitsOn n).ok := by
 have := h.br
 have := h.len
 refine ⟨h.bytes,h.len,?_,h.rb,h.nb⟩
 unfold Dec.bitsOn
 simp only
 split <;> omega
theorem Dec.fast {d:Dec} (h:d.ok) {n y:Nat} (hy:y = d.byte (d.br / 8 + 1)):d.byte (d.br / 8) * 2 ^ 8 ||| y = d.two ∧ d.two < 65536 ∧ d.two / 2 ^ (16 - d.br % 8 - n) &&& (2 ^ n - 1) = d.bits n := by
 have h1 := d.byte_lt h (d.br / 8)
 have h2 := d.byte_lt h (d.br / 8 + 1)
 subst hy
 refine ⟨nor_add (i := 8) h2,?_,nand_mask _ _⟩
 unfold Dec.two
 omega
theorem Dec.emb {d d':Dec} {e0 e:Env} (hd:d' = d) (he:embE [0,1] e e0):EmbS 2 ⟨e0,d.H⟩ ⟨e,d'.H⟩ := by
 subst hd
 exact ⟨[0,1],⟨rfl,⟨rfl,rfl,rfl,rfl,trivial⟩,rfl⟩,he⟩
theorem Dec.embH {d:Dec} {H:List Blk} {e0 e:Env} (hd:H = d.H) (he:embE [0,1] e e0):EmbS 2 ⟨e0,d.H⟩ ⟨e,H⟩ := by
 subst hd
 exact ⟨[0,1],⟨rfl,⟨rfl,rfl,rfl,rfl,trivial⟩,rfl⟩,he⟩
theorem getBits (w0:World) (d:Dec) (h:d.ok) {n:Nat} (hn:1 ≤ n) (hn8:n ≤ 8):CallsA Tryz.prog w0 110 [.c (.ptr 0 0),.c (.val (.int .i64 n))] d.H fun r H => r = u32 (d.bits n) ∧ H = (d.bitsOn n).H := by
 have hbr := h.br
 have hlen := h.len
 have hp8:2 ^ n ≤ 2 ^ 8 := Nat.pow_le_pow_right (by omega) hn8
 have hp1 := Nat.two_pow_pos n
 refine callsA_of_ev c110_ ?_
 conv => whnf
 refine Or.inl ?_
 conv => whnf
 refine ⟨fun h1 => ?_,fun h1 => ?_⟩
 · conv => whnf
   refine ⟨fun h2 => ?_,fun h2 => ?_⟩
   · conv => whnf
     simp (disch := omega) only [nadd,nmul,nwrap64]
     refine ⟨fun h3 => ?_,fun h3 => ?_⟩
     · have h3 := of_decide_eq_true h3
       obtain ⟨hb,hb2⟩ := d.byte_get h (i := d.br / 8) (by omega)
       conv => whnf
       simp (disch := omega) only [ntdiv,nwrap64]
       refine ⟨by omega,?_⟩
       conv => whnf
       refine ⟨_,hb,?_⟩
       conv => whnf
       refine Or.inl ?_
       conv => whnf
       simp (disch := omega) only [nadd,nwrap64]
       have hfin:∀ (z y:Nat),z = d.byte (d.br / 8) * 2 ^ 8 ||| y → y = d.byte (d.br / 8 + 1) → ∀ m:Nat,m = 2 ^ n - 1 → IntKind.u32.wrap (((BitVec.ofInt IntKind.u32.bits ((z / 2 ^ (16 - d.br % 8 - n):Nat):Int) &&& BitVec.ofInt IntKind.u32.bits (m:Int)).toNat:Nat):Int) = (d.bits n:Int) := by
         intro z y hz hy m hm
         obtain ⟨f1,f2,f3⟩ := d.fast h (n := n) hy
         rw [f1] at hz
         subst hz hm
         rw [nand32 (Nat.lt_of_le_of_lt (Nat.div_le_self _ _) (by omega)) (by omega),f3]
       have hon:(d.bitsOn n).br = d.br + n := by simp [Dec.bitsOn]; omega
       refine ⟨fun h4 => ?_,fun h4 => ?_⟩
       · have h4 := of_decide_eq_true h4
         obtain ⟨hc,hc2⟩ := d.byte_get h (i := d.br / 8 + 1) (by omega)
         conv => whnf
         simp (disch := omega) only [nadd,nwrap64]
         refine ⟨by omega,?_⟩
         conv => whnf
         refine ⟨_,hc,?_⟩
         conv => whnf
         simp (disch := omega) only [nadd,nwrap64,ntmod,nsub]
         refine ⟨by omega,?_⟩
         conv => whnf
         refine ⟨by omega,?_⟩
         conv => whnf
         refine Or.inl ⟨u32_of ?_,Dec.H_of (d := d.bitsOn n) (by rw [hon]) rfl rfl rfl rfl⟩
         simp (disch := omega) only [nwrap32,nshl32,nshr32,nor32,Int.toNat_natCast,Nat.one_mul,nsub]
         exact hfin _ _ rfl rfl _ rfl
       · have h4 := of_decide_eq_false h4
         conv => whnf
         simp (disch := omega) only [nadd,nwrap64,ntmod,nsub]
         refine ⟨by omega,?_⟩
         conv => whnf
         refine ⟨by omega,?_⟩
         conv => whnf
         refine Or.inl ⟨u32_of ?_,Dec.H_of (d := d.bitsOn n) (by rw [hon]) rfl rfl rfl rfl⟩
         simp (disch := omega) only [nwrap32,nshl32,nshr32,Int.toNat_natCast,Nat.one_mul,nsub]
         refine hfin _ 0 (by simp) (d.byte_out (by omega)).symm _ rfl
     · have h3 := of_decide_eq_false h3
       conv => whnf
       refine Or.inl ?_
       conv => whnf
       refine ⟨Fin (n + 1),fun i => ⟨[(0,.o (.c (.ptr 0 0))),(8,.o (.c (.val (.int .u32 (d.bits i.1:Nat))))),(92,.o (.c (.val (.int .i64 n)))),(93,.o (.c (.val (.int .i64 (i.1:Nat)))))],(d.bitsOn i.1).H⟩,fun i => n - i.1,⟨⟨0,by omega⟩,Dec.emb (d.bitsOn_zero).symm ⟨rfl,?_,rfl,rfl,trivial⟩⟩,fun ⟨i,hi⟩ => ?_⟩
       · rw [d.bits_zero]
         rfl
       · conv => whnf
         refine ⟨fun h4 => ?_,fun h4 => ?_⟩
         · have h4:(i:Int) < n := of_decide_eq_true h4
           conv => whnf
           refine Or.inl ?_
           conv => whnf
           refine Or.inl ?_
           conv => whnf
           have hi8:i < 8 := by omega
           have hlt := d.bits_lt i
           have hp7:2 ^ i ≤ 2 ^ 7 := Nat.pow_le_pow_right (by omega) (by omega)
           have hbit := Nat.mod_lt ((d.bitsOn i).byte ((d.bitsOn i).br / 8) / 2 ^ (7 - (d.bitsOn i).br % 8)) (show 0 < 2 by omega)
           refine ⟨fun h5 => ?_,fun h5 => ?_⟩
           · conv => whnf
             simp (disch := omega) only [nwrap32,nshl32]
             refine (getBit w0 (d.bitsOn i) (d.bitsOn_ok h i)).mono fun r H ⟨hr,hH⟩ => ?_
             subst hr hH
             conv => whnf
             refine ⟨⟨i + 1,by omega⟩,Dec.emb (d.bitsOn_succ i) ⟨rfl,?_,rfl,?_,trivial⟩,?_⟩
             · refine eq_u32 ?_
               rw [nor32 (by omega) (by show _ % 2 < _; omega),nor_add (i := 1) (b := (d.bitsOn i).bit) hbit,d.bits_succ h hi8]
               show ((d.bits i * 2 + (d.bitsOn i).bit:Nat):Int) = _
               omega
             · refine eq_i64 ?_
               rw [nadd,nwrapi (by omega)]
             · show n - (i + 1) < n - i
               omega
           · conv => whnf
             have h5:i = 0 := by simpa using h5
             subst h5
             refine (getBit w0 (d.bitsOn 0) (d.bitsOn_ok h 0)).mono fun r H ⟨hr,hH⟩ => ?_
             subst hr hH
             conv => whnf
             refine ⟨⟨1,by omega⟩,Dec.emb (d.bitsOn_succ 0) ⟨rfl,?_,rfl,?_,trivial⟩,?_⟩
             · refine eq_u32 ?_
               have e0:(d.bitsOn 0).bit = d.bits 1 := by rw [d.bits_succ h (i := 0) (by omega),d.bits_zero]; omega
               show IntKind.u32.wrap (((BitVec.ofInt IntKind.u32.bits ((d.bits 0:Nat):Int) ||| BitVec.ofInt IntKind.u32.bits (((d.bitsOn 0).bit:Nat):Int)).toNat:Nat):Int) = _
               rw [d.bits_zero,nor32 (by omega) (by show _ % 2 < _; omega),e0,Nat.zero_or]
             · rfl
             · show n - 1 < n - 0
               omega
         · have h4:¬ (i:Int) < n := of_decide_eq_false h4
           have hin:i = n := by omega
           subst hin
           conv => whnf
           refine Or.inl ⟨rfl,rfl⟩
   · simp at h2
     omega
 · simp at h1
   omega
end Go.Proofs.YtokkphocaloelaaGreatDoor
end
section
namespace Go.Proofs.YtokkphocaloelaaGreatDoor
open Go Go.Vc
set_option maxRecDepth 100000

def Dec.step (d:Dec):Dec := { d.bitsOn 8 with rng := d.rng * 256,nb := d.nb + 8,val := (d.val * 256 + (255 - d.bits 8)) % 2147483648 }
def Dec.iter (d:Dec):Nat → Dec
 | 0 => d
 | k + 1 => (d.iter k).step
def Dec.norm (d:Dec):Dec :=
 if d.rng ≤ 8388608 then (if d.step.rng ≤ 8388608 then (if d.step.step.rng ≤ 8388608 then d.step.step.step else d.step.step) else d.step) else d
theorem Dec.step_ok {d:Dec} (h:d.ok) (hn:d.nb ≤ 4611686018427387896):d.step.ok := by
 have := d.bitsOn_ok h 8
 exact ⟨this.bytes,this.len,this.br,this.rb,by show d.nb + 8 ≤ _; omega⟩
theorem Dec.iter_facts {d:Dec} (h:d.ok) (hn:d.nb ≤ 4611686018427387800):∀ k,k ≤ 4 → (d.iter k).ok ∧ (d.iter k).rng = d.rng * 256 ^ k ∧ (d.iter k).nb = d.nb + 8 * k
 | 0,_ => ⟨h,by simp [Dec.iter],rfl⟩
 | k + 1,hk => by
   obtain ⟨h1,h2,h3⟩ := Dec.iter_facts h hn k (by omega)
   refine ⟨Dec.step_ok h1 (by omega),?_,?_⟩
   · show (d.iter k).rng * 256 = _
     rw [h2,Nat.mul_assoc,← Nat.pow_succ]
   · show (d.iter k).nb + 8 = _
     omega
theorem Dec.norm_iter {d:Dec} {k:Nat} (hk:k ≤ 3) (h:∀ i,i < k → (d.iter i).rng ≤ 8388608) (hg:8388608 < (d.iter k).rng):d.norm = d.iter k := by
 unfold Dec.norm
 rcases k with _ | _ | _ | _ | k
 · have:¬ d.rng ≤ 8388608 := by simpa [Dec.iter] using hg
   rw [if_neg this]
   rfl
 · have h0:d.rng ≤ 8388608 := h 0 (by omega)
   have:¬ d.step.rng ≤ 8388608 := by simpa [Dec.iter] using hg
   rw [if_pos h0,if_neg this]
   rfl
 · have h0:d.rng ≤ 8388608 := h 0 (by omega)
   have h1:d.step.rng ≤ 8388608 := h 1 (by omega)
   have:¬ d.step.step.rng ≤ 8388608 := by simpa [Dec.iter] using hg
   rw [if_pos h0,if_pos h1,if_neg this]
   rfl
 · have h0:d.rng ≤ 8388608 := h 0 (by omega)
   have h1:d.step.rng ≤ 8388608 := h 1 (by omega)
   have h2:d.step.step.rng ≤ 8388608 := h 2 (by omega)
   rw [if_pos h0,if_pos h1,if_pos h2]
   rfl
 · omega
structure Dec.pre (d:Dec):Prop where
 ok:d.ok
 nb:d.nb ≤ 4611686018427387800
 lo:1 ≤ d.rng
 hi:d.rng ≤ 2147483648
 val:d.val < 4294967296
theorem normalize (w0:World) (d:Dec) (h:d.pre):CallsA Tryz.prog w0 111 [.c (.ptr 0 0)] d.H fun r H => r = .t [] ∧ H = d.norm.H := by
 have hlo := h.lo
 have hhi := h.hi
 refine callsA_of_ev c111_ ?_
 conv => whnf
 refine ⟨{k:Nat // k ≤ 3 ∧ ∀ i,i < k → (d.iter i).rng ≤ 8388608},fun k => ⟨[(0,.o (.c (.ptr 0 0)))],(d.iter k.1).H⟩,fun k => 3 - k.1,⟨⟨0,by omega,by omega⟩,Dec.emb rfl ⟨rfl,trivial⟩⟩,fun ⟨k,hk3,hk⟩ => ?_⟩
 obtain ⟨hok,hr,hb⟩ := d.iter_facts h.ok h.nb k (by omega)
 have hnb := h.nb
 have hpow:d.rng * 256 ^ k ≤ 8388608 → d.rng * 256 ^ k * 256 ≤ 2147483648 := by omega
 have hval:(d.iter k).val < 4294967296 := by
   cases k with
   | zero => exact h.val
   | succ k =>
     show (_:Nat) % 2147483648 < _
     omega
 conv => whnf
 refine ⟨fun h1 => ?_,fun h1 => ?_⟩
 · have h1 := of_decide_eq_true h1
   have h1:(d.iter k).rng ≤ 8388608 := by
     have h1:((d.iter k).rng:Int) ≤ ((8388608:Nat):Int) := h1
     omega
   have hk2:k < 3 := by
     rcases Nat.lt_or_ge k 3 with h | h
     · exact h
     · have:k = 3 := by omega
       subst this
       rw [hr] at h1
       omega
   conv => whnf
   simp (disch := omega) only [nshl32,nwrap32,nadd,nwrap64]
   refine (getBits w0 ⟨(d.iter k).data,(d.iter k).br,(d.iter k).rb,(d.iter k).nb + 8,(d.iter k).rng * 2 ^ 8,(d.iter k).val⟩ ⟨hok.bytes,hok.len,hok.br,hok.rb,by show (d.iter k).nb + 8 ≤ _; omega⟩ (n := 8) (by omega) (by omega)).mono ?_
   rintro _ _ ⟨rfl,rfl⟩
   conv => whnf
   refine ⟨⟨⟨rfl,rfl⟩,trivial⟩,?_⟩
   conv => whnf
   refine ⟨trivial,?_⟩
   conv => whnf
   refine ⟨⟨k + 1,by omega,fun i hi => ?_⟩,Dec.embH (Dec.H_of (d := (d.iter k).step) rfl rfl rfl rfl ?_) ⟨rfl,trivial⟩,?_⟩
   · rcases Nat.lt_or_ge i k with h | h
     · exact hk i h
     · have:i = k := by omega
       subst this
       exact h1
   · generalize hv:(d.iter k).val = v at *
     have hb8 := (d.iter k).bits_lt 8
     change IntKind.u32.wrap (((BitVec.ofInt IntKind.u32.bits (IntKind.u32.wrap (IntKind.u32.wrap ((v * 2 ^ 8:Nat):Int) + IntKind.u32.wrap (((255:Nat):Int) - (((d.iter k).bits 8:Nat):Int)))) &&& BitVec.ofInt IntKind.u32.bits ((2147483647:Nat):Int)).toNat:Nat):Int) = ((((d.iter k).val * 256 + (255 - (d.iter k).bits 8)) % 2147483648:Nat):Int)
     rw [hv]
     generalize (d.iter k).bits 8 = b at *
     have e1:IntKind.u32.wrap (IntKind.u32.wrap ((v * 2 ^ 8:Nat):Int) + IntKind.u32.wrap (((255:Nat):Int) - (b:Int))) = (((v * 256 + (255 - b)) % 4294967296:Nat):Int) := by
       simp only [IntKind.wrap_u32]
       omega
     rw [e1,nand32 (Nat.mod_lt _ (by omega)) (by omega)]
     have e2 := nand_mask ((v * 256 + (255 - b)) % 4294967296) 31
     rw [show (2:Nat) ^ 31 - 1 = 2147483647 by rfl] at e2
     rw [e2]
     omega
   · show 3 - (k + 1) < 3 - k
     omega
 · have h1 := of_decide_eq_false h1
   have h1:8388608 < (d.iter k).rng := by
     have h1:¬ ((d.iter k).rng:Int) ≤ ((8388608:Nat):Int) := h1
     omega
   conv => whnf
   exact Or.inl ⟨rfl,by rw [d.norm_iter hk3 hk h1]⟩
end Go.Proofs.YtokkphocaloelaaGreatDoor
end
section
namespace Go.Proofs.YtokkphocaloelaaGreatDoor
open Go Go.Vc
set_option maxRecDepth 100000

theorem localMin (w0:World) (H:List Blk) (a b:Nat):CallsA Tryz.prog w0 114 [.c (.val (.int .u64 a)),.c (.val (.int .u64 b))] H fun r H' => r = u64 (min a b) ∧ H' = H := by
 refine callsA_of_ev c114_ ?_
 conv => whnf
 refine Or.inl ?_
 conv => whnf
 refine ⟨fun h1 => ?_,fun h1 => ?_⟩
 · have h1:(a:Int) < (b:Int) := of_decide_eq_true h1
   conv => whnf
   refine Or.inl ⟨u64_of ?_,rfl⟩
   rw [Nat.min_eq_left (by omega)]
 · have h1:¬ (a:Int) < (b:Int) := of_decide_eq_false h1
   conv => whnf
   refine Or.inl ⟨u64_of ?_,rfl⟩
   rw [Nat.min_eq_right (by omega)]
def Dec.at (d:Dec) (total:Nat):Nat := total - min (d.val / (d.rng / total) + 1) total
theorem uniSym (w0:World) (d:Dec) {n:Nat} (hn:1 ≤ n) (hr:n ≤ d.rng) (hr2:d.rng < 4294967296) (hv:d.val < 4294967295) :
   CallsA Tryz.prog w0 112 [.c (.ptr 0 0),.c (.val (.int .u32 n))] d.H fun r H => r = u32 (d.at n) ∧ H = d.H := by
 have hdiv:1 ≤ d.rng / n := Nat.div_pos hr hn
 have hq:d.rng / n ≤ d.rng := Nat.div_le_self _ _
 have hq2:d.val / (d.rng / n) ≤ d.val := Nat.div_le_self _ _
 refine callsA_of_ev c112_ ?_
 conv => whnf
 simp (disch := omega) only [ntdiv,nwrap32]
 refine ⟨by omega,?_⟩
 conv => whnf
 simp (disch := omega) only [ntdiv,nwrap32]
 refine ⟨by omega,?_⟩
 conv => whnf
 simp (disch := omega) only [nwrap32,nadd,nwrap64]
 refine (localMin w0 d.H _ _).mono ?_
 rintro _ _ ⟨rfl,rfl⟩
 conv => whnf
 refine Or.inl ⟨u32_of ?_,rfl⟩
 have hle:n - min (d.val / (d.rng / n) + 1) n ≤ n := Nat.sub_le _ _
 rw [nwrap32 (Nat.lt_of_le_of_lt (Nat.min_le_right _ _) (by omega)),nsub (Nat.min_le_right _ _),nwrap32 (by omega)]
 rfl
def Dec.cut (d:Dec) (scale low high total:Nat):Dec :=
 { d with val := d.val - scale * (total - high),rng := if low ≠ 0 then scale * (high - low) else d.rng - scale * (total - high) }
theorem update (w0:World) (d:Dec) (h:d.pre) {scale low high total:Nat} (hs:1 ≤ scale) (hl:low < high) (hh:high ≤ total) (ht:scale * total ≤ d.rng) (hv:scale * (total - high) ≤ d.val) :
   CallsA Tryz.prog w0 113 [.c (.ptr 0 0),.c (.val (.int .u32 scale)),.c (.val (.int .u32 low)),.c (.val (.int .u32 high)),.c (.val (.int .u32 total))] d.H fun r H => r = .t [] ∧ H = (d.cut scale low high total).norm.H ∧ (d.cut scale low high total).pre := by
 have hhi := h.hi
 have hval := h.val
 have hlo := h.lo
 have e1:scale * (total - high) + scale * high = scale * total := by rw [← Nat.mul_add,Nat.sub_add_cancel hh]
 have e2:scale * (high - low) + scale * low = scale * high := by rw [← Nat.mul_add,Nat.sub_add_cancel (by omega)]
 have e3:1 ≤ scale * (high - low) := Nat.mul_pos hs (by omega)
 have e4:total ≤ scale * total := Nat.le_mul_of_pos_left _ hs
 have e5:1 ≤ scale * high := Nat.mul_pos hs (by omega)
 have hpre:(d.cut scale low high total).pre := by
   refine ⟨⟨h.ok.bytes,h.ok.len,h.ok.br,h.ok.rb,h.ok.nb⟩,h.nb,?_,?_,?_⟩
   · show 1 ≤ (if low ≠ 0 then _ else _)
     split <;> omega
   · show (if low ≠ 0 then _ else _) ≤ _
     split <;> omega
   · show d.val - _ < _
     omega
 refine callsA_of_ev c113_ ?_
 conv => whnf
 simp (disch := omega) only [nsub,nwrap32,nmul]
 refine Or.inl ?_
 conv => whnf
 refine ⟨fun h1 => ?_,fun h1 => ?_⟩
 · have h1:low ≠ 0 := by
     intro h0
     subst h0
     cases h1
   conv => whnf
   simp (disch := omega) only [nsub,nwrap32,nmul]
   refine (normalize w0 ⟨d.data,d.br,d.rb,d.nb,scale * (high - low),d.val - scale * (total - high)⟩ ?_).mono ?_
   · have := hpre
     unfold Dec.cut at this
     rwa [if_pos h1] at this
   · rintro _ _ ⟨rfl,rfl⟩
     conv => whnf
     refine Or.inl ⟨rfl,?_,hpre⟩
     show Dec.H _ = _
     unfold Dec.cut
     rw [if_pos h1]
 · have h1:low = 0 := by
     have h1:((low:Int) != ((0:Nat):Int)) = false := h1
     simpa using h1
   conv => whnf
   simp (disch := omega) only [nsub,nwrap32,nmul]
   refine (normalize w0 ⟨d.data,d.br,d.rb,d.nb,d.rng - scale * (total - high),d.val - scale * (total - high)⟩ ?_).mono ?_
   · have := hpre
     unfold Dec.cut at this
     rwa [if_neg (by simp [h1])] at this
   · rintro _ _ ⟨rfl,rfl⟩
     conv => whnf
     refine Or.inl ⟨rfl,?_,hpre⟩
     show Dec.H _ = _
     unfold Dec.cut
     rw [if_neg (by simp [h1])]
end Go.Proofs.YtokkphocaloelaaGreatDoor
end
section
namespace Go.Proofs.YtokkphocaloelaaGreatDoor
open Go Go.Vc
set_option maxRecDepth 100000

def len (n:Nat):Nat := if n = 0 then 0 else n.log2 + 1
theorem len_eq {n k:Nat} (h1:2 ^ k ≤ n) (h2:n < 2 ^ (k + 1)):len n = k + 1 := by
 have h0:n ≠ 0 := by
   have := Nat.two_pow_pos k
   omega
 unfold len
 rw [if_neg h0,(Nat.log2_eq_iff h0).2 ⟨h1,h2⟩]
theorem len_spec {n:Nat} (h:n ≠ 0):∃ k,len n = k + 1 ∧ 2 ^ k ≤ n ∧ n < 2 ^ (k + 1) := by
 refine ⟨n.log2,by unfold len; rw [if_neg h],?_⟩
 exact (Nat.log2_eq_iff h).1 rfl
theorem len_div {n j:Nat} (h:2 ^ j ≤ n):len n = len (n / 2 ^ j) + j := by
 have hp := Nat.two_pow_pos j
 have h0:n / 2 ^ j ≠ 0 := by
   have := Nat.div_pos h hp
   omega
 obtain ⟨k,h1,h2,h3⟩ := len_spec h0
 have:len n = (k + j) + 1 := by
   refine len_eq ?_ ?_
   · rw [Nat.pow_add]
     exact (Nat.le_div_iff_mul_le hp).1 h2
   · rw [show k + j + 1 = (k + 1) + j by omega,Nat.pow_add]
     exact (Nat.div_lt_iff_lt_mul hp).1 h3
 omega
theorem len_le {n k:Nat} (h:n < 2 ^ k):len n ≤ k := by
 by_cases h0:n = 0
 · subst h0
   exact Nat.zero_le _
 · obtain ⟨j,h1,h2,h3⟩ := len_spec h0
   have := (Nat.pow_lt_pow_iff_right (show 1 < 2 by omega)).1 (Nat.lt_of_le_of_lt h2 h)
   omega
theorem le_len {n k:Nat} (h:2 ^ k ≤ n):k + 1 ≤ len n := by
 have hp := Nat.two_pow_pos k
 obtain ⟨j,h1,h2,h3⟩ := len_spec (n := n) (by omega)
 have := (Nat.pow_lt_pow_iff_right (show 1 < 2 by omega)).1 (Nat.lt_of_le_of_lt h h3)
 omega
def lens:ByteArray := ByteArray.mk #[0,1,2,2,3,3,3,3,4,4,4,4,4,4,4,4,5,5,5,5,5,5,5,5,5,5,5,5,5,5,5,5,6,6,6,6,6,6,6,6,6,6,6,6,6,6,6,6,6,6,6,6,6,6,6,6,6,6,6,6,6,6,6,6,7,7,7,7,7,7,7,7,7,7,7,7,7,7,7,7,7,7,7,7,7,7,7,7,7,7,7,7,7,7,7,7,7,7,7,7,7,7,7,7,7,7,7,7,7,7,7,7,7,7,7,7,7,7,7,7,7,7,7,7,7,7,7,7,8,8,8,8,8,8,8,8,8,8,8,8,8,8,8,8,8,8,8,8,8,8,8,8,8,8,8,8,8,8,8,8,8,8,8,8,8,8,8,8,8,8,8,8,8,8,8,8,8,8,8,8,8,8,8,8,8,8,8,8,8,8,8,8,8,8,8,8,8,8,8,8,8,8,8,8,8,8,8,8,8,8,8,8,8,8,8,8,8,8,8,8,8,8,8,8,8,8,8,8,8,8,8,8,8,8,8,8,8,8,8,8,8,8,8,8,8,8,8,8,8,8,8,8,8,8,8,8]
theorem lens_get:∀ x,x < 256 → lens[x]? = some (UInt8.ofNat (len x)) := by decide +kernel
theorem len32 (w0:World) (H:List Blk) {n:Nat} (hn:n < 4294967296):CallsA Tryz.prog w0 103 [.c (.val (.int .u32 n))] H fun r H' => r = i64 (len n) ∧ H' = H := by
 refine CallsA_frame rfl rfl ?_ H
 refine callsA_of_ev c103_ ?_
 conv => whnf
 refine Or.inr ⟨{p:Nat × Nat // p.1 < 65536 ∧ len n = p.2 + len p.1 ∧ p.2 ≤ 16},fun p => ⟨[(0,.o (.c (.val (.int .u32 (p.1.1:Nat))))),(2,.o (.c (.val (.int .i64 (p.1.2:Nat)))))],[]⟩,?_,?_⟩
 · conv => whnf
   refine ⟨fun h1 => ?_,fun h1 => ?_⟩
   · have h1 := of_decide_eq_true h1
     have h1:65536 ≤ n := by
       have h1:(n:Int) ≥ ((65536:Nat):Int) := h1
       omega
     conv => whnf
     simp (disch := omega) only [nshr32]
     refine ⟨⟨(n / 2 ^ 16,16),by simp only; omega,?_,by simp⟩,embNil ⟨rfl,rfl,trivial⟩⟩
     rw [len_div (j := 16) h1]
     simp only
     omega
   · have h1 := of_decide_eq_false h1
     have h1:n < 65536 := by
       have h1:¬ (n:Int) ≥ ((65536:Nat):Int) := h1
       omega
     conv => whnf
     exact ⟨⟨(n,0),h1,by simp,by simp⟩,embNil ⟨rfl,rfl,trivial⟩⟩
 · rintro ⟨⟨x,b⟩,hx,hl,hb⟩
   simp only at hx hl hb
   conv => whnf
   refine Or.inr ⟨{p:Nat × Nat // p.1 < 256 ∧ len n = p.2 + len p.1 ∧ p.2 ≤ 24},fun p => ⟨[(0,.o (.c (.val (.int .u32 (p.1.1:Nat))))),(2,.o (.c (.val (.int .i64 (p.1.2:Nat)))))],[]⟩,?_,?_⟩
   · conv => whnf
     refine ⟨fun h1 => ?_,fun h1 => ?_⟩
     · have h1 := of_decide_eq_true h1
       have h1:256 ≤ x := by
         have h1:(x:Int) ≥ ((256:Nat):Int) := h1
         omega
       conv => whnf
       refine ⟨⟨(x / 2 ^ 8,b + 8),by simp only; omega,?_,by simp only; omega⟩,embNil ⟨?_,?_,trivial⟩⟩
       · rw [hl,len_div (j := 8) h1]
         simp only
         omega
       · refine eq_u32 ?_
         rw [nshr32 _ _ (by omega)]
       · refine eq_i64 ?_
         show IntKind.i64.wrap ((b:Int) + ((8:Nat):Int)) = _
         rw [nadd,nwrapi (by omega)]
     · have h1 := of_decide_eq_false h1
       have h1:x < 256 := by
         have h1:¬ (x:Int) ≥ ((256:Nat):Int) := h1
         omega
       conv => whnf
       exact ⟨⟨(x,b),h1,hl,by simp only; omega⟩,embNil ⟨rfl,rfl,trivial⟩⟩
   · rintro ⟨⟨x,b⟩,hx,hl,hb⟩
     simp only at hx hl hb
     have hl8 := len_le (n := x) (k := 8) hx
     conv => whnf
     refine ⟨UInt8.ofNat (len x),?_,?_⟩
     · show (if 0 ≤ IntKind.u8.wrap (x:Int) then lens[(IntKind.u8.wrap (x:Int)).toNat]? else none) = _
       rw [nwrap8 hx,if_pos (by omega),Int.toNat_natCast]
       exact lens_get x hx
     · conv => whnf
       refine Or.inl ⟨i64_of ?_,rfl⟩
       have e1:(UInt8.ofNat (len x)).toNat = len x := by
         rw [UInt8.toNat_ofNat']
         omega
       show IntKind.i64.wrap ((b:Int) + IntKind.i64.wrap (((UInt8.ofNat (len x)).toNat:Nat):Int)) = _
       rw [e1,nwrapi (by omega),nadd,nwrapi (by omega),hl]
theorem finalRange (w0:World) (d:Dec):CallsA Tryz.prog w0 81 [.c (.ptr 0 0)] d.H fun r H => r = u32 d.rng ∧ H = d.H := by
 refine callsA_of_ev c81_ ?_
 conv => whnf
 exact Or.inl ⟨rfl,rfl⟩
theorem remaining (w0:World) (d:Dec) (h:d.ok):CallsA Tryz.prog w0 84 [.c (.ptr 0 0)] d.H fun r H => r = i64 ((d.data.length * 8:Nat) - (d.br:Int) - (d.rb:Int)) ∧ H = d.H := by
 have := h.br
 have := h.rb
 have := h.len
 refine callsA_of_ev c84_ ?_
 conv => whnf
 refine Or.inl ⟨i64_of ?_,rfl⟩
 simp only [IntKind.wrap_i64]
 omega
def Dec.tell (d:Dec):Nat := d.nb - len d.rng
theorem tell (w0:World) (d:Dec) (h:d.ok) (h1:1 ≤ d.rng) (h2:d.rng < 4294967296):CallsA Tryz.prog w0 82 [.c (.ptr 0 0)] d.H fun r H => r = u64 d.tell ∧ H = d.H := by
 have hnb := h.nb
 have hl1 := le_len (n := d.rng) (k := 0) h1
 have hl2 := len_le (n := d.rng) (k := 32) h2
 refine callsA_of_ev c82_ ?_
 conv => whnf
 refine (len32 w0 d.H h2).mono ?_
 rintro _ _ ⟨rfl,rfl⟩
 conv => whnf
 refine Or.inl ?_
 conv => whnf
 simp (disch := omega) only [nwrap64]
 refine ⟨fun h3 => ?_,fun h3 => ?_⟩
 · have h3:((len d.rng:Nat):Int) = ((0:Nat):Int) := by simpa using h3
   omega
 · conv => whnf
   refine Or.inl ?_
   conv => whnf
   refine ⟨fun h4 => ?_,fun h4 => ?_⟩
   · have h4 := of_decide_eq_true h4
     have h4:(d.nb:Int) ≤ ((len d.rng:Nat):Int) := h4
     conv => whnf
     refine Or.inl ⟨u64_of ?_,rfl⟩
     unfold Dec.tell
     omega
   · have h4 := of_decide_eq_false h4
     have h4:¬ (d.nb:Int) ≤ ((len d.rng:Nat):Int) := h4
     conv => whnf
     refine Or.inl ⟨u64_of ?_,rfl⟩
     unfold Dec.tell
     rw [nsub (by omega),nwrap64 (by omega)]
end Go.Proofs.YtokkphocaloelaaGreatDoor
end
section
namespace Go.Proofs.YtokkphocaloelaaGreatDoor
open Go Go.Vc
set_option maxRecDepth 100000

def fracStep (p:Nat × Nat):Nat × Nat :=
 let s := p.1 * p.1 / 32768
 let b := s / 65536
 (if b ≠ 0 then s / 2 else s,2 * p.2 + b)
def fracIter (p:Nat × Nat):Nat → Nat × Nat
 | 0 => p
 | k + 1 => fracStep (fracIter p k)
def frac (total rng:Nat):Nat := total * 8 - (fracIter (rng / 2 ^ (len rng - 16),len rng) 3).2
def Dec.frac (d:Dec):Nat := Go.Proofs.YtokkphocaloelaaGreatDoor.frac d.nb d.rng
theorem fracStep_pos {r l:Nat} (h:r * r / 32768 / 65536 ≠ 0):(fracStep (r,l)).1 = r * r / 32768 / 2 := if_pos h
theorem fracStep_neg {r l:Nat} (h:r * r / 32768 / 65536 = 0):(fracStep (r,l)).1 = r * r / 32768 := if_neg (fun hn => hn h)
theorem fracStep_lt {p:Nat × Nat} (h:32768 ≤ p.1) (h2:p.1 < 65536):32768 ≤ (fracStep p).1 ∧ (fracStep p).1 < 65536 ∧ (fracStep p).2 ≤ 2 * p.2 + 1 ∧ p.1 * p.1 < 4294967296 := by
 have h3:32768 * 32768 ≤ p.1 * p.1 := Nat.mul_le_mul h h
 have h4:p.1 * p.1 ≤ 65535 * 65535 := Nat.mul_le_mul (by omega) (by omega)
 unfold fracStep
 simp only
 generalize p.1 * p.1 = m at *
 refine ⟨?_,?_,?_,?_⟩
 · split <;> omega
 · split <;> omega
 · omega
 · omega
theorem fracIter_lt {p:Nat × Nat} (h:32768 ≤ p.1) (h2:p.1 < 65536) (h3:p.2 ≤ 32):∀ k,k ≤ 3 → 32768 ≤ (fracIter p k).1 ∧ (fracIter p k).1 < 65536 ∧ (fracIter p k).2 + 1 ≤ 2 ^ k * 33
 | 0,_ => ⟨h,h2,by simp [fracIter]; omega⟩
 | k + 1,hk => by
   obtain ⟨a,b,c⟩ := fracIter_lt h h2 h3 k (by omega)
   obtain ⟨a',b',c',_⟩ := fracStep_lt a b
   refine ⟨a',b',?_⟩
   have:(fracIter p (k + 1)).2 ≤ 2 * (fracIter p k).2 + 1 := c'
   rw [Nat.pow_succ]
   omega
theorem top_bits {n:Nat} (h:8388608 ≤ n):32768 ≤ n / 2 ^ (len n - 16) ∧ n / 2 ^ (len n - 16) < 65536 := by
 obtain ⟨k,h1,h2,h3⟩ := len_spec (n := n) (by omega)
 have h4 := le_len (n := n) (k := 23) h
 have e1:len n - 16 = k - 15 := by omega
 have hp := Nat.two_pow_pos (k - 15)
 rw [e1]
 constructor
 · rw [Nat.le_div_iff_mul_le hp,show (32768:Nat) = 2 ^ 15 by rfl,← Nat.pow_add,show 15 + (k - 15) = k by omega]
   exact h2
 · rw [Nat.div_lt_iff_lt_mul hp,show (65536:Nat) = 2 ^ 16 by rfl,← Nat.pow_add,show 16 + (k - 15) = k + 1 by omega]
   exact h3
theorem tellFrac (w0:World) (d:Dec) (hnb:d.nb ≤ 1152921504606846976) (h1:8388608 ≤ d.rng) (h2:d.rng < 4294967296):CallsA Tryz.prog w0 83 [.c (.ptr 0 0)] d.H fun r H => r = u64 d.frac ∧ H = d.H := by
 have hl1 := le_len (n := d.rng) (k := 23) h1
 have hl2 := len_le (n := d.rng) (k := 32) h2
 obtain ⟨ht1,ht2⟩ := top_bits h1
 refine callsA_of_ev c83_ ?_
 conv => whnf
 refine (len32 w0 d.H h2).mono ?_
 rintro _ _ ⟨rfl,rfl⟩
 conv => whnf
 refine Or.inl ?_
 conv => whnf
 simp (disch := omega) only [nwrap64]
 refine ⟨fun h3 => ?_,fun h3 => ?_⟩
 · have h3:((len d.rng:Nat):Int) = ((0:Nat):Int) := by simpa using h3
   omega
 · conv => whnf
   refine Or.inl ?_
   conv => whnf
   refine ⟨fun h4 => ?_,fun h4 => ?_⟩
   · have h4 := of_decide_eq_true h4
     have h4:((len d.rng:Nat):Int) < ((24:Nat):Int) := h4
     omega
   · conv => whnf
     simp (disch := omega) only [nsub,nwrap64]
     refine ⟨by omega,?_⟩
     conv => whnf
     simp (disch := omega) only [Int.toNat_natCast,nshr32,nwrap64]
     refine Or.inl ?_
     conv => whnf
     refine ⟨_root_.Fin 4,fun ⟨k,_⟩ => ⟨[(0,.o (.c (.ptr 0 0))),(3,.o (.c (.val (.int .u64 ((fracIter (d.rng / 2 ^ (len d.rng - 16),len d.rng) k).2:Nat))))),(4,.o (.c (.val (.int .u64 ((fracIter (d.rng / 2 ^ (len d.rng - 16),len d.rng) k).1:Nat))))),(33,.o (.c (.val (.int .i64 (k:Nat)))))],d.H⟩,fun k => 3 - k.1,⟨0,Dec.embH rfl ⟨rfl,rfl,rfl,rfl,trivial⟩⟩,fun ⟨k,hk⟩ => ?_⟩
     obtain ⟨a,b,c⟩ := fracIter_lt (p := (d.rng / 2 ^ (len d.rng - 16),len d.rng)) ht1 ht2 hl2 k (by omega)
     have hpk:2 ^ k ≤ 2 ^ 3 := Nat.pow_le_pow_right (by omega) (by omega)
     obtain ⟨a',b',c',d'⟩ := fracStep_lt a b
     conv => whnf
     refine ⟨fun h5 => ?_,fun h5 => ?_⟩
     · have h5 := of_decide_eq_true h5
       have h5:(k:Int) < ((3:Nat):Int) := h5
       conv => whnf
       refine Or.inl ?_
       conv => whnf
       have hs:fracIter (d.rng / 2 ^ (len d.rng - 16),len d.rng) (k + 1) = fracStep (fracIter (d.rng / 2 ^ (len d.rng - 16),len d.rng) k) := rfl
       generalize hq:fracIter (d.rng / 2 ^ (len d.rng - 16),len d.rng) k = q at *
       obtain ⟨r,l⟩ := q
       simp only at a b c d'
       have hb2:r * r / 32768 / 65536 ≤ 1 := by omega
       simp (disch := omega) only [nmul,nwrap64,nshr64,nadd]
       refine ⟨fun h6 => ?_,fun h6 => ?_⟩
       · have h6:r * r / 2 ^ 15 / 2 ^ 16 ≠ 0 := by
           intro h0
           rw [h0] at h6
           cases h6
         conv => whnf
         refine ⟨⟨k + 1,by omega⟩,Dec.embH rfl ⟨rfl,?_,?_,?_,trivial⟩,?_⟩
         · refine eq_u64 ?_
           rw [hs]
           rfl
         · refine eq_u64 ?_
           rw [hs,nshr64 _ _ (by omega),fracStep_pos h6]
         · refine eq_i64 ?_
           rw [nadd,nwrapi (by omega)]
         · show 3 - (k + 1) < 3 - k
           omega
       · have h6:r * r / 2 ^ 15 / 2 ^ 16 = 0 := bne_f h6
         conv => whnf
         refine ⟨⟨k + 1,by omega⟩,Dec.embH rfl ⟨rfl,?_,?_,?_,trivial⟩,?_⟩
         · refine eq_u64 ?_
           rw [hs]
           rfl
         · refine eq_u64 ?_
           rw [hs,fracStep_neg h6]
         · refine eq_i64 ?_
           rw [nadd,nwrapi (by omega)]
         · show 3 - (k + 1) < 3 - k
           omega
     · have h5 := of_decide_eq_false h5
       have h5:¬ (k:Int) < ((3:Nat):Int) := h5
       have hk3:k = 3 := by omega
       subst hk3
       conv => whnf
       refine Or.inl ?_
       conv => whnf
       simp (disch := omega) only [nmul,nwrap64]
       refine ⟨fun h6 => ?_,fun h6 => ?_⟩
       · have h6 := of_decide_eq_true h6
         conv => whnf
         refine Or.inl ⟨u64_of ?_,rfl⟩
         have h6:((d.nb * 8:Nat):Int) ≤ ((fracIter (d.rng / 2 ^ (len d.rng - 16),len d.rng) 3).2:Nat) := h6
         show (0:Int) = ((d.nb * 8 - (fracIter (d.rng / 2 ^ (len d.rng - 16),len d.rng) 3).2:Nat):Int)
         omega
       · have h6 := of_decide_eq_false h6
         conv => whnf
         refine Or.inl ⟨u64_of ?_,rfl⟩
         have h6:¬ ((d.nb * 8:Nat):Int) ≤ ((fracIter (d.rng / 2 ^ (len d.rng - 16),len d.rng) 3).2:Nat) := h6
         show _ = ((d.nb * 8 - (fracIter (d.rng / 2 ^ (len d.rng - 16),len d.rng) 3).2:Nat):Int)
         rw [nsub (by omega),nwrap64 (by omega)]
end Go.Proofs.YtokkphocaloelaaGreatDoor
end
section
namespace Go.Proofs.YtokkphocaloelaaGreatDoor
open Go Go.Vc
set_option maxRecDepth 100000

structure Dec.inv (d:Dec) (N:Nat):Prop where
 bytes:∀ x ∈ d.data,0 ≤ x ∧ x < 256
 len:d.data.length ≤ 1099511627776
 br:d.br ≤ 8796093022208
 nb:d.nb ≤ N
 rb:d.rb ≤ N
 lo:8388608 < d.rng
 hi:d.rng ≤ 2147483648
 val:d.val < d.rng
theorem Dec.inv.pre {d:Dec} {N:Nat} (h:d.inv N) (hN:N ≤ 2305843009213693952):d.pre := by
 have := h.nb; have := h.rb; have := h.lo; have := h.hi; have := h.val
 exact ⟨⟨h.bytes,h.len,h.br,by omega,by omega⟩,by omega,by omega,by omega,by omega⟩
theorem Dec.iter_val {d:Dec} (hv:d.val < d.rng):∀ k,(d.iter k).val < (d.iter k).rng
 | 0 => hv
 | k + 1 => by
   have := Dec.iter_val hv k
   show ((d.iter k).val * 256 + (255 - (d.iter k).bits 8)) % 2147483648 < (d.iter k).rng * 256
   exact Nat.lt_of_le_of_lt (Nat.mod_le _ _) (by omega)
theorem Dec.iter_data {d:Dec}:∀ k,(d.iter k).data = d.data ∧ (d.iter k).rb = d.rb
 | 0 => ⟨rfl,rfl⟩
 | k + 1 => Dec.iter_data k
theorem Dec.norm_inv {d:Dec} {N:Nat} (hN:N ≤ 1152921504606846976) (hb:∀ x ∈ d.data,0 ≤ x ∧ x < 256) (hl:d.data.length ≤ 1099511627776) (hbr:d.br ≤ 8796093022208) (hnb:d.nb ≤ N) (hrb:d.rb ≤ N) (hlo:1 ≤ d.rng) (hhi:d.rng ≤ 2147483648) (hv:d.val < d.rng) :
   d.norm.inv (N + 24) ∧ d.norm.data = d.data ∧ d.norm.rb = d.rb := by
 have hok:d.ok := ⟨hb,hl,hbr,by omega,by omega⟩
 have key:∃ k,k ≤ 3 ∧ (∀ i,i < k → (d.iter i).rng ≤ 8388608) ∧ 8388608 < (d.iter k).rng := by
   have hr := fun k hk => (d.iter_facts hok (by omega) k hk).2.1
   have h0 := hr 0 (by omega); have h1 := hr 1 (by omega); have h2 := hr 2 (by omega); have h3 := hr 3 (by omega)
   by_cases c0:8388608 < (d.iter 0).rng
   · exact ⟨0,by omega,fun i hi => by omega,c0⟩
   by_cases c1:8388608 < (d.iter 1).rng
   · refine ⟨1,by omega,fun i hi => ?_,c1⟩
     have:i = 0 := by omega
     subst this
     omega
   by_cases c2:8388608 < (d.iter 2).rng
   · refine ⟨2,by omega,fun i hi => ?_,c2⟩
     rcases (show i = 0 ∨ i = 1 by omega) with rfl | rfl <;> omega
   · refine ⟨3,by omega,fun i hi => ?_,?_⟩
     · rcases (show i = 0 ∨ i = 1 ∨ i = 2 by omega) with rfl | rfl | rfl <;> omega
     · rw [h3]
       omega
 obtain ⟨k,hk,h1,h2⟩ := key
 obtain ⟨g1,g2,g3⟩ := d.iter_facts hok (by omega) k (by omega)
 obtain ⟨e1,e2⟩ := d.iter_data k
 rw [d.norm_iter hk h1 h2]
 refine ⟨⟨g1.bytes,g1.len,g1.br,by omega,by omega,h2,?_,d.iter_val hv k⟩,e1,e2⟩
 cases k with
 | zero => exact hhi
 | succ k =>
   have := h1 k (by omega)
   show (d.iter k).rng * 256 ≤ _
   omega
theorem Dec.at_spec {d:Dec} {N n:Nat} (h:d.inv N) (hn:1 ≤ n) (hn2:n ≤ 65536) :
   d.at n < n ∧ 1 ≤ d.rng / n ∧ d.rng / n * n ≤ d.rng ∧ ∀ low high,low ≤ d.at n → d.at n < high → high ≤ n → d.rng / n * (n - high) ≤ d.val ∧ (low ≠ 0 → d.val < d.rng / n * (n - low)) := by
 have hlo := h.lo
 have hhi := h.hi
 have hs:1 ≤ d.rng / n := Nat.div_pos (by omega) hn
 have hmul := Nat.div_mul_le_self d.rng n
 refine ⟨?_,hs,hmul,fun low high hl hh hhn => ?_⟩
 · unfold Dec.at
   generalize d.val / (d.rng / n) = q
   omega
 · unfold Dec.at at hl hh
   generalize hsc:d.rng / n = s at *
   have hdm := Nat.div_add_mod d.val s
   have hml := Nat.mod_lt d.val (show 0 < s by omega)
   generalize d.val / s = q at *
   constructor
   · have:n - high ≤ q := by omega
     have := Nat.mul_le_mul_left s this
     omega
   · intro hl0
     have h1:q + 1 ≤ n - low := by omega
     have h2 := Nat.mul_le_mul_left s h1
     have h3:s * (q + 1) = s * q + s := Nat.mul_succ s q
     omega
theorem Dec.cut_inv {d:Dec} {N n low high:Nat} (h:d.inv N) (hN:N ≤ 1152921504606846976) (hn:1 ≤ n) (hn2:n ≤ 65536) (hl:low ≤ d.at n) (hh:d.at n < high) (hhn:high ≤ n) :
   (d.cut (d.rng / n) low high n).norm.inv (N + 24) ∧ (d.cut (d.rng / n) low high n).norm.data = d.data ∧ (d.cut (d.rng / n) low high n).norm.rb = d.rb := by
 obtain ⟨h1,h2,h3,h4⟩ := d.at_spec h hn hn2
 obtain ⟨h5,h6⟩ := h4 low high hl hh hhn
 have hlo := h.lo; have hhi := h.hi; have hv := h.val
 generalize d.rng / n = s at *
 have e1:s * (n - high) + s * high = s * n := by rw [← Nat.mul_add,Nat.sub_add_cancel hhn]
 have e2:s * (high - low) + s * low = s * high := by rw [← Nat.mul_add,Nat.sub_add_cancel (by omega)]
 have e3:1 ≤ s * (high - low) := Nat.mul_pos h2 (by omega)
 have e4:s * (n - low) + s * low = s * n := by rw [← Nat.mul_add,Nat.sub_add_cancel (by omega)]
 have := Dec.norm_inv (d := d.cut s low high n) hN h.bytes h.len h.br h.nb h.rb ?_ ?_ ?_
 · exact this
 · show 1 ≤ (if low ≠ 0 then _ else _)
   split <;> omega
 · show (if low ≠ 0 then _ else _) ≤ _
   split <;> omega
 · show d.val - s * (n - high) < (if low ≠ 0 then _ else _)
   split
   · rename_i hl0
     have := h6 hl0
     omega
   · omega
theorem updateAt (w0:World) {d:Dec} {N n low high:Nat} (h:d.inv N) (hN:N ≤ 1152921504606846976) (hn:1 ≤ n) (hn2:n ≤ 65536) (hl:low ≤ d.at n) (hh:d.at n < high) (hhn:high ≤ n) :
   CallsA Tryz.prog w0 113 [.c (.ptr 0 0),.c (.val (.int .u32 (d.rng / n:Nat))),.c (.val (.int .u32 low)),.c (.val (.int .u32 high)),.c (.val (.int .u32 n))] d.H fun r H => r = .t [] ∧ H = (d.cut (d.rng / n) low high n).norm.H := by
 obtain ⟨h1,h2,h3,h4⟩ := d.at_spec h hn hn2
 obtain ⟨h5,h6⟩ := h4 low high hl hh hhn
 exact (update w0 d (h.pre (by omega)) h2 (by omega) hhn h3 h5).mono fun r H h => ⟨h.1,h.2.1⟩
theorem cumulative (w0:World) {d:Dec} {N n:Nat} (h:d.inv N) (hn:1 ≤ n) (hn2:n ≤ 65536) :
   CallsA Tryz.prog w0 73 [.c (.ptr 0 0),.c (.val (.int .u32 n))] d.H fun r H => r = u32 (d.at n) ∧ H = d.H := by
 have hlo := h.lo; have hhi := h.hi; have hv := h.val
 refine callsA_of_ev c73_ ?_
 conv => whnf
 refine (uniSym w0 d hn (by omega) (by omega) (by omega)).mono ?_
 rintro _ _ ⟨rfl,rfl⟩
 conv => whnf
 exact Or.inl ⟨rfl,rfl⟩
theorem updCumulative (w0:World) {d:Dec} {N n low high:Nat} (h:d.inv N) (hN:N ≤ 1152921504606846976) (hn:1 ≤ n) (hn2:n ≤ 65536) (hl:low ≤ d.at n) (hh:d.at n < high) (hhn:high ≤ n) :
   CallsA Tryz.prog w0 74 [.c (.ptr 0 0),.c (.val (.int .u32 low)),.c (.val (.int .u32 high)),.c (.val (.int .u32 n))] d.H fun r H => r = .t [] ∧ H = (d.cut (d.rng / n) low high n).norm.H := by
 have hlo := h.lo; have hhi := h.hi; have hv := h.val
 have hq := Nat.div_le_self d.rng n
 refine callsA_of_ev c74_ ?_
 conv => whnf
 simp (disch := omega) only [ntdiv,nwrap32]
 refine ⟨by omega,?_⟩
 conv => whnf
 refine (updateAt w0 h hN hn hn2 hl hh hhn).mono ?_
 rintro _ _ ⟨rfl,rfl⟩
 conv => whnf
 exact Or.inl ⟨rfl,rfl⟩
def Dec.uni (d:Dec) (n:Nat):Dec := (d.cut (d.rng / n) (d.at n) (d.at n + 1) n).norm
theorem uniUpd (w0:World) {d:Dec} {N n:Nat} (h:d.inv N) (hN:N ≤ 1152921504606846976) (hn:1 ≤ n) (hn2:n ≤ 65536) :
   CallsA Tryz.prog w0 115 [.c (.ptr 0 0),.c (.val (.int .u32 n))] d.H fun r H => r = u32 (d.at n) ∧ H = (d.uni n).H := by
 have hlo := h.lo; have hhi := h.hi; have hv := h.val
 have hq := Nat.div_le_self d.rng n
 obtain ⟨h1,h2,h3,h4⟩ := d.at_spec h hn hn2
 refine callsA_of_ev c115_ ?_
 conv => whnf
 refine (uniSym w0 d hn (by omega) (by omega) (by omega)).mono ?_
 rintro _ _ ⟨rfl,rfl⟩
 conv => whnf
 simp (disch := omega) only [ntdiv,nwrap32]
 refine ⟨by omega,?_⟩
 conv => whnf
 simp (disch := omega) only [nadd,nwrap32]
 refine (updateAt w0 h hN hn hn2 (Nat.le_refl _) (Nat.lt_succ_self _) h1).mono ?_
 rintro _ _ ⟨rfl,rfl⟩
 conv => whnf
 exact Or.inl ⟨rfl,rfl⟩
def Dec.logp (d:Dec) (k:Nat):Nat × Dec :=
 if d.rng / 2 ^ k ≤ d.val then (0,{ d with val := d.val - d.rng / 2 ^ k,rng := d.rng - d.rng / 2 ^ k }.norm) else (1,{ d with rng := d.rng / 2 ^ k }.norm)
theorem Dec.logp_inv {d:Dec} {N k:Nat} (h:d.inv N) (hN:N ≤ 1152921504606846976) (hk:1 ≤ k) (hk2:k ≤ 15):(d.logp k).2.inv (N + 24) ∧ (d.logp k).2.data = d.data ∧ (d.logp k).2.rb = d.rb ∧ 1 ≤ d.rng / 2 ^ k ∧ 2 * (d.rng / 2 ^ k) ≤ d.rng := by
 have hlo := h.lo; have hhi := h.hi; have hv := h.val
 have hp:2 ^ k ≤ 2 ^ 15 := Nat.pow_le_pow_right (by omega) hk2
 have hp1:2 ^ 1 ≤ 2 ^ k := Nat.pow_le_pow_right (by omega) hk
 have h1:1 ≤ d.rng / 2 ^ k := Nat.div_pos (by omega) (by omega)
 have h2:2 * (d.rng / 2 ^ k) ≤ d.rng := by
   have := Nat.div_mul_le_self d.rng (2 ^ k)
   have h3 := Nat.mul_le_mul_left (d.rng / 2 ^ k) hp1
   omega
 unfold Dec.logp
 split
 · obtain ⟨a,b,c⟩ := Dec.norm_inv (d := { d with val := d.val - d.rng / 2 ^ k,rng := d.rng - d.rng / 2 ^ k }) hN h.bytes h.len h.br h.nb h.rb (by show 1 ≤ d.rng - _; omega) (by show d.rng - _ ≤ _; omega) (by show d.val - _ < d.rng - _; omega)
   exact ⟨a,b,c,h1,h2⟩
 · obtain ⟨a,b,c⟩ := Dec.norm_inv (d := { d with rng := d.rng / 2 ^ k }) hN h.bytes h.len h.br h.nb h.rb (by show 1 ≤ d.rng / _; omega) (by show d.rng / _ ≤ _; omega) (by show d.val < d.rng / _; omega)
   exact ⟨a,b,c,h1,h2⟩
theorem logP (w0:World) {d:Dec} {N k:Nat} (h:d.inv N) (hN:N ≤ 1152921504606846976) (hk:1 ≤ k) (hk2:k ≤ 15) :
   CallsA Tryz.prog w0 75 [.c (.ptr 0 0),.c (.val (.int .u64 k))] d.H fun r H => r = u32 (d.logp k).1 ∧ H = (d.logp k).2.H := by
 have hlo := h.lo; have hhi := h.hi; have hv := h.val
 have hnb := h.nb; have hrb := h.rb
 obtain ⟨_,_,_,h1,h2⟩ := d.logp_inv h hN hk hk2
 refine callsA_of_ev c75_ ?_
 conv => whnf
 refine ⟨by omega,?_⟩
 conv => whnf
 simp (disch := omega) only [Int.toNat_natCast,nshr32]
 refine Or.inl ?_
 conv => whnf
 refine ⟨fun h3 => ?_,fun h3 => ?_⟩
 · have h3:d.rng / 2 ^ k ≤ d.val := le_t h3
   conv => whnf
   simp (disch := omega) only [nsub,nwrap32]
   refine (normalize w0 ⟨d.data,d.br,d.rb,d.nb,d.rng - d.rng / 2 ^ k,d.val - d.rng / 2 ^ k⟩ ⟨⟨h.bytes,h.len,h.br,by show d.rb ≤ _; omega,by show d.nb ≤ _; omega⟩,by show d.nb ≤ _; omega,by show 1 ≤ d.rng - _; omega,by show d.rng - _ ≤ _; omega,by show d.val - _ < _; omega⟩).mono ?_
   rintro _ _ ⟨rfl,rfl⟩
   conv => whnf
   unfold Dec.logp
   rw [if_pos h3]
   exact Or.inl ⟨rfl,rfl⟩
 · have h3:d.val < d.rng / 2 ^ k := le_f h3
   conv => whnf
   refine (normalize w0 ⟨d.data,d.br,d.rb,d.nb,d.rng / 2 ^ k,d.val⟩ ⟨⟨h.bytes,h.len,h.br,by show d.rb ≤ _; omega,by show d.nb ≤ _; omega⟩,by show d.nb ≤ _; omega,by show 1 ≤ d.rng / _; omega,by show d.rng / _ ≤ _; omega,by show d.val < _; omega⟩).mono ?_
   rintro _ _ ⟨rfl,rfl⟩
   conv => whnf
   unfold Dec.logp
   rw [if_neg (by omega)]
   exact Or.inl ⟨rfl,rfl⟩
end Go.Proofs.YtokkphocaloelaaGreatDoor
end
section
namespace Go.Proofs.YtokkphocaloelaaGreatDoor
open Go Go.Vc
set_option maxRecDepth 100000

def Dec.rawAt (d:Dec) (i:Nat):Nat := if i / 8 < d.data.length then d.byte (d.data.length - 1 - i / 8) / 2 ^ (i % 8) % 2 else 0
def Dec.rawOn (d:Dec) (n:Nat):Dec := { d with rb := d.rb + n,nb := d.nb + n }
theorem Dec.rawAt_lt (d:Dec) (i:Nat):d.rawAt i < 2 := by
 unfold Dec.rawAt
 split
 · exact Nat.mod_lt _ (by omega)
 · omega
def Dec.raw (d:Dec):Nat → Nat
 | 0 => 0
 | n + 1 => d.raw n + d.rawAt (d.rb + n) * 2 ^ n
theorem Dec.raw_lt (d:Dec):∀ n,d.raw n < 2 ^ n
 | 0 => by simp [Dec.raw]
 | n + 1 => by
   have h1 := Dec.raw_lt d n
   have h2 := d.rawAt_lt (d.rb + n)
   have h3:d.rawAt (d.rb + n) * 2 ^ n ≤ 1 * 2 ^ n := Nat.mul_le_mul_right _ (by omega)
   show d.raw n + _ < _
   rw [Nat.pow_succ]
   omega
theorem Dec.rawOn_inv {d:Dec} {N n:Nat} (h:d.inv N):(d.rawOn n).inv (N + n) := by
 have := h.nb; have := h.rb
 exact ⟨h.bytes,h.len,h.br,by show d.nb + n ≤ _; omega,by show d.rb + n ≤ _; omega,h.lo,h.hi,h.val⟩
theorem rawBit (w0:World) (d:Dec) (h:d.ok) (hrb:d.rb ≤ 4611686018427387800) (hnb:d.nb ≤ 4611686018427387800) :
   CallsA Tryz.prog w0 129 [.c (.ptr 0 0)] d.H fun r H => r = u32 (d.rawAt d.rb) ∧ H = (d.rawOn 1).H := by
 have hlen := h.len
 refine callsA_of_ev c129_ ?_
 conv => whnf
 simp (disch := omega) only [ntdiv,ntmod,nwrap64,nadd]
 refine Or.inl ?_
 conv => whnf
 refine ⟨fun h1 => ?_,fun h1 => ?_⟩
 · have h1:d.data.length ≤ d.rb / 8 := by
     have h1 := of_decide_eq_true h1
     simp only [IntKind.wrap_u64] at h1
     omega
   conv => whnf
   refine Or.inl ⟨u32_of ?_,rfl⟩
   unfold Dec.rawAt
   rw [if_neg (by omega)]
 · have h1:d.rb / 8 < d.data.length := by
     have h1 := of_decide_eq_false h1
     simp only [IntKind.wrap_u64] at h1
     omega
   obtain ⟨hb,hb2⟩ := d.byte_get h (i := d.data.length - 1 - d.rb / 8) (by omega)
   conv => whnf
   simp (disch := omega) only [nsub,nwrapi]
   refine ⟨by omega,?_⟩
   conv => whnf
   refine ⟨_,hb,?_⟩
   conv => whnf
   refine ⟨by omega,?_⟩
   conv => whnf
   refine Or.inl ⟨u32_of ?_,rfl⟩
   have h3:d.byte (d.data.length - 1 - d.rb / 8) / 2 ^ (d.rb % 8) < 256 := Nat.lt_of_le_of_lt (Nat.div_le_self _ _) hb2
   rw [Int.toNat_natCast,nshr8 _ _ (by omega),nand8 h3 (by omega),Nat.and_one_is_mod,nwrap32 (by omega)]
   unfold Dec.rawAt
   rw [if_pos h1]
theorem getRawBits (w0:World) {d:Dec} {N n:Nat} (h:d.inv N) (hN:N ≤ 1152921504606846976) (hn:n ≤ 32) :
   CallsA Tryz.prog w0 116 [.c (.ptr 0 0),.c (.val (.int .u64 n))] d.H fun r H => r = u32 (d.raw n) ∧ H = (d.rawOn n).H := by
 have hnb := h.nb; have hrb := h.rb
 refine callsA_of_ev c116_ ?_
 conv => whnf
 refine Or.inl ?_
 conv => whnf
 refine ⟨_root_.Fin (n + 1),fun ⟨i,_⟩ => ⟨[(0,.o (.c (.ptr 0 0))),(1,.o (.c (.val (.int .u64 n)))),(5,.o (.c (.val (.int .u32 (d.raw i:Nat))))),(6,.o (.c (.val (.int .u64 i))))],(d.rawOn i).H⟩,fun i => n - i.1,⟨⟨0,by omega⟩,Dec.embH rfl ⟨rfl,rfl,rfl,rfl,trivial⟩⟩,fun ⟨i,hi⟩ => ?_⟩
 conv => whnf
 refine ⟨fun h1 => ?_,fun h1 => ?_⟩
 · have h1:i < n := lt_t h1
   conv => whnf
   refine ⟨fun h2 => ?_,fun h2 => ?_⟩
   · conv => whnf
     have hin := d.rawOn_inv (n := i) h
     refine (rawBit w0 (d.rawOn i) (hin.pre (by omega)).ok (by show d.rb + i ≤ _; omega) (by show d.nb + i ≤ _; omega)).mono ?_
     rintro _ _ ⟨rfl,rfl⟩
     have hlt := d.raw_lt i
     have hlt1 := d.raw_lt (i + 1)
     have hb := d.rawAt_lt (d.rb + i)
     have hp:2 ^ i ≤ 2 ^ 31 := Nat.pow_le_pow_right (by omega) (by omega)
     have hsh:(d.rawOn i).rawAt (d.rawOn i).rb = d.rawAt (d.rb + i) := rfl
     have hm:d.rawAt (d.rb + i) * 2 ^ i ≤ 1 * 2 ^ i := Nat.mul_le_mul_right _ (by omega)
     conv => whnf
     refine ⟨by omega,?_⟩
     conv => whnf
     refine ⟨⟨i + 1,by omega⟩,Dec.embH rfl ⟨rfl,rfl,?_,?_,trivial⟩,?_⟩
     · refine eq_u32 ?_
       rw [hsh,Int.toNat_natCast,nshl32 _ _ (by omega),nwrap32 (n := d.rawAt (d.rb + i) * 2 ^ i) (by omega),nor32 (by omega) (by omega),Nat.or_comm,nor_add hlt]
       show _ = ((d.raw i + d.rawAt (d.rb + i) * 2 ^ i:Nat):Int)
       omega
     · refine eq_u64 ?_
       rw [nadd,nwrap64 (by omega)]
     · show n - (i + 1) < n - i
       omega
   · have h2:32 ≤ i := lt_f h2
     omega
 · have h1:n ≤ i := lt_f h1
   have:i = n := by omega
   subst this
   conv => whnf
   refine Or.inl ?_
   conv => whnf
   refine ⟨Unit,fun _ => ⟨[(0,.o (.c (.ptr 0 0))),(1,.o (.c (.val (.int .u64 i)))),(5,.o (.c (.val (.int .u32 (d.raw i:Nat))))),(7,.o (.c (.val (.int .u64 ((32:Nat):Int)))))],(d.rawOn i).H⟩,fun _ => 0,⟨(),Dec.embH rfl ⟨rfl,rfl,rfl,rfl,trivial⟩⟩,fun _ => ?_⟩
   conv => whnf
   refine ⟨fun h3 => ?_,fun h3 => ?_⟩
   · have h3:32 < i := lt_t h3
     omega
   · conv => whnf
     exact Or.inl ⟨rfl,rfl⟩
theorem rawBits (w0:World) {d:Dec} {N n:Nat} (h:d.inv N) (hN:N ≤ 1152921504606846976) (hn:n ≤ 32) :
   CallsA Tryz.prog w0 78 [.c (.ptr 0 0),.c (.val (.int .u64 n))] d.H fun r H => r = u32 (d.raw n) ∧ H = (d.rawOn n).H := by
 refine callsA_of_ev c78_ ?_
 conv => whnf
 refine (getRawBits w0 h hN hn).mono ?_
 rintro _ _ ⟨rfl,rfl⟩
 conv => whnf
 exact Or.inl ⟨rfl,rfl⟩
end Go.Proofs.YtokkphocaloelaaGreatDoor
end
section
namespace Go.Proofs.YtokkphocaloelaaGreatDoor
open Go Go.Vc
set_option maxRecDepth 100000

def Dec.whole (d:Dec) (n:Nat):Nat × Bool × Dec :=
 if len (n - 1) ≤ 8 then (d.at n,true,d.uni n)
 else
   let k := len (n - 1) - 8
   let t := (n - 1) / 2 ^ k + 1
   let v := d.at t * 2 ^ k + (d.uni t).raw k
   (if v ≤ n - 1 then v else n - 1,decide (v ≤ n - 1),(d.uni t).rawOn k)
theorem small_of_len {n:Nat} (h:len n ≤ 8):n < 256 := by
 rcases Nat.lt_or_ge n 256 with h1 | h1
 · exact h1
 · have := le_len (n := n) (k := 8) h1
   omega
theorem top_small {n:Nat} (h:8 < len n):n / 2 ^ (len n - 8) < 256 ∧ 1 ≤ n / 2 ^ (len n - 8) := by
 have h0:n ≠ 0 := by
   intro h0
   subst h0
   simp [len] at h
 obtain ⟨k,h1,h2,h3⟩ := len_spec h0
 have hp := Nat.two_pow_pos (len n - 8)
 constructor
 · rw [Nat.div_lt_iff_lt_mul hp,show (256:Nat) = 2 ^ 8 by rfl,← Nat.pow_add,show 8 + (len n - 8) = k + 1 by omega]
   exact h3
 · rw [Nat.le_div_iff_mul_le hp,Nat.one_mul]
   exact Nat.le_trans (Nat.pow_le_pow_right (by omega) (by omega)) h2
theorem Dec.uni_inv {d:Dec} {N n:Nat} (h:d.inv N) (hN:N ≤ 1152921504606846976) (hn:1 ≤ n) (hn2:n ≤ 65536):(d.uni n).inv (N + 24) ∧ (d.uni n).data = d.data ∧ (d.uni n).rb = d.rb :=
 Dec.cut_inv h hN hn hn2 (Nat.le_refl _) (Nat.lt_succ_self _) (d.at_spec h hn hn2).1
theorem Dec.whole_inv {d:Dec} {N n:Nat} (h:d.inv N) (hN:N ≤ 1152921504606846976) (hn:1 ≤ n) (hn2:n < 4294967296):(d.whole n).2.2.inv (N + 48) ∧ (d.whole n).2.2.data = d.data := by
 unfold Dec.whole
 split
 · rename_i hl
   have := small_of_len hl
   obtain ⟨a,b,c⟩ := d.uni_inv h hN hn (by omega)
   exact ⟨⟨a.bytes,a.len,a.br,Nat.le_trans a.nb (by omega),Nat.le_trans a.rb (by omega),a.lo,a.hi,a.val⟩,b⟩
 · rename_i hl
   obtain ⟨h1,h2⟩ := top_small (n := n - 1) (by omega)
   have h3 := len_le (n := n - 1) (k := 32) (by omega)
   obtain ⟨a,b,c⟩ := d.uni_inv (n := (n - 1) / 2 ^ (len (n - 1) - 8) + 1) h hN (by omega) (by omega)
   have := Dec.rawOn_inv (n := len (n - 1) - 8) a
   exact ⟨⟨this.bytes,this.len,this.br,Nat.le_trans this.nb (by omega),Nat.le_trans this.rb (by omega),this.lo,this.hi,this.val⟩,b⟩
theorem uniform (w0:World) {d:Dec} {N n:Nat} (h:d.inv N) (hN:N ≤ 1152921504606846900) (hn:2 ≤ n) (hn2:n < 4294967296) :
   CallsA Tryz.prog w0 77 [.c (.ptr 0 0),.c (.val (.int .u32 n))] d.H fun r H => r = .t [.c (.val (.int .u32 ((d.whole n).1:Nat))),.c (.val (.bool (d.whole n).2.1))] ∧ H = (d.whole n).2.2.H := by
 have h32 := len_le (n := n - 1) (k := 32) (by omega)
 refine callsA_of_ev c77_ ?_
 conv => whnf
 refine Or.inl ?_
 conv => whnf
 refine ⟨fun h1 => absurd (beq_t h1) (by omega),fun h1 => ?_⟩
 conv => whnf
 refine Or.inl ?_
 conv => whnf
 refine ⟨fun h2 => absurd (beq_t h2) (by omega),fun h2 => ?_⟩
 conv => whnf
 simp (disch := omega) only [nsub,nwrap32]
 refine (len32 w0 d.H (n := n - 1) (by omega)).mono ?_
 rintro _ _ ⟨rfl,rfl⟩
 conv => whnf
 refine Or.inl ?_
 conv => whnf
 refine ⟨fun h3 => ?_,fun h3 => ?_⟩
 · have h3:len (n - 1) ≤ 8 := le_t h3
   have := small_of_len h3
   conv => whnf
   refine (uniUpd w0 h (by omega) (n := n) (by omega) (by omega)).mono ?_
   rintro _ _ ⟨rfl,rfl⟩
   conv => whnf
   unfold Dec.whole
   rw [if_pos h3]
   exact Or.inl ⟨rfl,rfl⟩
 · have h3:8 < len (n - 1) := le_f h3
   obtain ⟨t1,t2⟩ := top_small (n := n - 1) h3
   conv => whnf
   simp (disch := omega) only [nsub,nwrapi]
   refine ⟨by omega,?_⟩
   conv => whnf
   simp (disch := omega) only [Int.toNat_natCast,nshr32,nadd,nwrap32]
   refine (uniUpd w0 h (by omega) (n := (n - 1) / 2 ^ (len (n - 1) - 8) + 1) (by omega) (by omega)).mono ?_
   rintro _ _ ⟨rfl,rfl⟩
   have hat := (d.at_spec h (n := (n - 1) / 2 ^ (len (n - 1) - 8) + 1) (by omega) (by omega)).1
   obtain ⟨a,b,c⟩ := d.uni_inv (n := (n - 1) / 2 ^ (len (n - 1) - 8) + 1) h (by omega) (by omega) (by omega)
   have hraw := (d.uni ((n - 1) / 2 ^ (len (n - 1) - 8) + 1)).raw_lt (len (n - 1) - 8)
   have hp24:2 ^ (len (n - 1) - 8) ≤ 2 ^ 24 := Nat.pow_le_pow_right (by omega) (by omega)
   have hval:(if d.at ((n - 1) / 2 ^ (len (n - 1) - 8) + 1) * 2 ^ (len (n - 1) - 8) + (d.uni ((n - 1) / 2 ^ (len (n - 1) - 8) + 1)).raw (len (n - 1) - 8) ≤ n - 1 then (d.at ((n - 1) / 2 ^ (len (n - 1) - 8) + 1) * 2 ^ (len (n - 1) - 8) + (d.uni ((n - 1) / 2 ^ (len (n - 1) - 8) + 1)).raw (len (n - 1) - 8)) else n - 1) = (d.whole n).1 ∧ decide (d.at ((n - 1) / 2 ^ (len (n - 1) - 8) + 1) * 2 ^ (len (n - 1) - 8) + (d.uni ((n - 1) / 2 ^ (len (n - 1) - 8) + 1)).raw (len (n - 1) - 8) ≤ n - 1) = (d.whole n).2.1 ∧ (d.uni ((n - 1) / 2 ^ (len (n - 1) - 8) + 1)).rawOn (len (n - 1) - 8) = (d.whole n).2.2 := by
     have hw:d.whole n = _ := if_neg (show ¬ len (n - 1) ≤ 8 by omega)
     rw [hw]
     exact ⟨rfl,rfl,rfl⟩
   have ht256:(n - 1) / 2 ^ (len (n - 1) - 8) + 1 ≤ 256 := t1
   generalize hk:len (n - 1) - 8 = k at *
   generalize (n - 1) / 2 ^ k + 1 = t at *
   have hmul:d.at t * 2 ^ k ≤ 255 * 2 ^ k := Nat.mul_le_mul_right _ (by omega)
   conv => whnf
   refine ⟨by omega,?_⟩
   conv => whnf
   simp (disch := omega) only [Int.toNat_natCast,nshl32,nwrap32,nwrap64]
   refine (rawBits w0 (d := d.uni t) a (by omega) (n := k) (by omega)).mono ?_
   rintro _ _ ⟨rfl,rfl⟩
   conv => whnf
   refine ⟨trivial,?_⟩
   conv => whnf
   simp (disch := omega) only [nor32,nor_add]
   refine Or.inl ?_
   conv => whnf
   obtain ⟨v1,v2,v3⟩ := hval
   refine ⟨fun h4 => ?_,fun h4 => ?_⟩
   · have h4:d.at t * 2 ^ k + (d.uni t).raw k ≤ n - 1 := le_t h4
     conv => whnf
     rw [if_pos h4] at v1
     rw [decide_eq_true h4] at v2
     rw [← v1,← v2,← v3]
     exact Or.inl ⟨rfl,rfl⟩
   · have h4:n - 1 < d.at t * 2 ^ k + (d.uni t).raw k := le_f h4
     conv => whnf
     rw [if_neg (by omega)] at v1
     rw [decide_eq_false (by omega)] at v2
     rw [← v1,← v2,← v3]
     exact Or.inl ⟨rfl,rfl⟩
end Go.Proofs.YtokkphocaloelaaGreatDoor
end
section
namespace Go.Proofs.YtokkphocaloelaaGreatDoor
open Go Go.Vc
set_option maxRecDepth 100000

def lapFirst (fs decay:Nat):Nat := (32736 - fs) * (16384 - decay) / 32768
def lapGo (decay sym:Nat):Nat → Nat × Nat × Nat → Nat × Nat × Nat
 | 0,s => s
 | n + 1,(v,l,f) => if 1 < f ∧ l + 2 * f ≤ sym then lapGo decay sym n (v + 1,l + 2 * f,(2 * f - 2) * decay / 32768 + 1) else (v,l,f)
def lap (fs decay sym:Nat):Int × Nat × Nat :=
 if sym < fs then (0,0,min fs 32768)
 else
   let (v,l,f) := lapGo decay sym sym (1,fs,lapFirst fs decay + 1)
   let x := if f ≤ 1 then (sym - l) / 2 else 0
   if sym < l + 2 * x + f then (-((v + x:Nat):Int),l + 2 * x,min (l + 2 * x + f) 32768)
   else (((v + x:Nat):Int),l + 2 * x + f,min (l + 2 * x + f + f) 32768)
theorem lapGo_stable (decay sym:Nat):∀ (n:Nat) (v l f m:Nat),sym - l ≤ n → sym - l ≤ m → lapGo decay sym n (v,l,f) = lapGo decay sym m (v,l,f) := by
 intro n
 induction n with
 | zero =>
   intro v l f m h1 h2
   cases m with
   | zero => rfl
   | succ m =>
     unfold lapGo
     rw [if_neg (by omega)]
 | succ n ih =>
   intro v l f m h1 h2
   cases m with
   | zero =>
     unfold lapGo
     rw [if_neg (by omega)]
   | succ m =>
     unfold lapGo
     split
     · exact ih _ _ _ m (by omega) (by omega)
     · rfl
theorem lapGo_done {decay sym v l f:Nat} (h:¬ (1 < f ∧ l + 2 * f ≤ sym)):∀ n,lapGo decay sym n (v,l,f) = (v,l,f)
 | 0 => rfl
 | n + 1 => by
   unfold lapGo
   rw [if_neg h]
theorem lap_of {fs decay sym v l f:Nat} (h:fs ≤ sym) (hgo:lapGo decay sym sym (1,fs,lapFirst fs decay + 1) = (v,l,f)) {x:Nat} (hx:x = if f ≤ 1 then (sym - l) / 2 else 0) :
   lap fs decay sym = if sym < l + 2 * x + f then (-((v + x:Nat):Int),l + 2 * x,min (l + 2 * x + f) 32768) else (((v + x:Nat):Int),l + 2 * x + f,min (l + 2 * x + f + f) 32768) := by
 unfold lap
 rw [if_neg (by omega),hgo,hx]
theorem lapFirst_lt {fs decay:Nat}:lapFirst fs decay ≤ 16368 := by
 have:(32736 - fs) * (16384 - decay) ≤ 32736 * 16384 := Nat.mul_le_mul (by omega) (by omega)
 unfold lapFirst
 omega
theorem lapMul {f decay:Nat} (hf:f ≤ 16385) (hd:decay ≤ 16384):(2 * f - 2) * decay ≤ 32768 * 16384 := Nat.mul_le_mul (by omega) hd
theorem lapFirstW (w0:World) (H:List Blk) {fs decay:Nat} (h1:fs ≤ 32736) (h2:decay ≤ 16384):CallsA Tryz.prog w0 117 [.c (.val (.int .u32 fs)),.c (.val (.int .u32 decay))] H fun r H' => r = u32 (lapFirst fs decay) ∧ H' = H := by
 refine CallsA_frame rfl rfl ?_ H
 have h3:(32736 - fs) * (16384 - decay) ≤ 32736 * 16384 := Nat.mul_le_mul (by omega) (by omega)
 refine callsA_of_ev c117_ ?_
 conv => whnf
 simp (disch := omega) only [nsub,nwrap32,nmul,nshr32]
 exact Or.inl ⟨rfl,trivial⟩
theorem lap_spec {fs decay sym:Nat} (h0:1 ≤ fs) (h:sym < 32768):(lap fs decay sym).2.1 ≤ sym ∧ sym < (lap fs decay sym).2.2 ∧ (lap fs decay sym).2.2 ≤ 32768 := by
 have inv:∀ (n v l f:Nat),l ≤ sym → 1 ≤ f → sym - l ≤ n → (lapGo decay sym n (v,l,f)).2.1 ≤ sym ∧ 1 ≤ (lapGo decay sym n (v,l,f)).2.2 ∧ ((lapGo decay sym n (v,l,f)).2.2 ≤ 1 ∨ sym < (lapGo decay sym n (v,l,f)).2.1 + 2 * (lapGo decay sym n (v,l,f)).2.2) := by
   intro n
   induction n with
   | zero =>
     intro v l f hl hf hn
     exact ⟨hl,hf,.inr (by show sym < l + 2 * f; omega)⟩
   | succ n ih =>
     intro v l f hl hf hn
     unfold lapGo
     split
     · exact ih _ _ _ (by omega) (by omega) (by omega)
     · rename_i hc
       refine ⟨hl,hf,?_⟩
       show f ≤ 1 ∨ sym < l + 2 * f
       omega
 unfold lap
 split
 · refine ⟨?_,?_,?_⟩ <;> simp only <;> omega
 · rename_i hge
   have := inv sym 1 fs (lapFirst fs decay + 1) (by omega) (by omega) (by omega)
   generalize lapGo decay sym sym (1,fs,lapFirst fs decay + 1) = q at *
   obtain ⟨v,l,f⟩ := q
   simp only at this ⊢
   obtain ⟨a,b,c⟩ := this
   split <;> split <;> (refine ⟨?_,?_,?_⟩ <;> simp only <;> omega)
def Dec.lapl (d:Dec) (fs decay:Nat):Int × Dec :=
 ((lap fs decay (d.at 32768)).1,(d.cut (d.rng / 32768) (lap fs decay (d.at 32768)).2.1 (lap fs decay (d.at 32768)).2.2 32768).norm)
theorem Dec.lapl_inv {d:Dec} {N fs decay:Nat} (h:d.inv N) (hN:N ≤ 1152921504606846976) (h1:1 ≤ fs):(d.lapl fs decay).2.inv (N + 24) ∧ (d.lapl fs decay).2.data = d.data ∧ (d.lapl fs decay).2.rb = d.rb := by
 have hat := (d.at_spec h (n := 32768) (by omega) (by omega)).1
 obtain ⟨a,b,c⟩ := lap_spec (fs := fs) (decay := decay) h1 hat
 exact Dec.cut_inv h hN (by omega) (by omega) a b c
theorem laplace (w0:World) {d:Dec} {N fs decay:Nat} (h:d.inv N) (hN:N ≤ 1152921504606846976) (h1:1 ≤ fs) (h2:fs ≤ 32000) (h3:decay ≤ 16000) :
   CallsA Tryz.prog w0 79 [.c (.ptr 0 0),.c (.val (.int .u32 fs)),.c (.val (.int .u32 decay))] d.H fun r H => r = i64 (d.lapl fs decay).1 ∧ H = (d.lapl fs decay).2.H := by
 have hlo := h.lo; have hhi := h.hi; have hv := h.val
 have hat := (d.at_spec h (n := 32768) (by omega) (by omega)).1
 have hspec := lap_spec (fs := fs) (decay := decay) h1 hat
 have hlf := lapFirst_lt (fs := fs) (decay := decay)
 have hdef:d.lapl fs decay = ((lap fs decay (d.at 32768)).1,(d.cut (d.rng / 32768) (lap fs decay (d.at 32768)).2.1 (lap fs decay (d.at 32768)).2.2 32768).norm) := rfl
 have hupd:∀ x l m,lap fs decay (d.at 32768) = (x,l,m) → CallsA Tryz.prog w0 113 [.c (.ptr 0 0),.c (.val (.int .u32 (d.rng / 32768:Nat))),.c (.val (.int .u32 l)),.c (.val (.int .u32 m)),.c (.val (.int .u32 ((32768:Nat):Int)))] d.H fun r H => r = .t [] ∧ i64 x = i64 (d.lapl fs decay).1 ∧ H = (d.lapl fs decay).2.H := by
   intro x l m he
   rw [hdef,he]
   rw [he] at hspec
   exact (updateAt w0 h hN (n := 32768) (by omega) (by omega) hspec.1 hspec.2.1 hspec.2.2).mono fun r H hh => ⟨hh.1,rfl,hh.2⟩
 clear hdef
 generalize d.lapl fs decay = res at *
 refine callsA_of_ev c79_ ?_
 conv => whnf
 refine (uniSym w0 d (n := 32768) (by omega) (by omega) (by omega) (by omega)).mono ?_
 rintro _ _ ⟨rfl,rfl⟩
 generalize d.at 32768 = sym at *
 conv => whnf
 refine Or.inr ⟨{p:Int × Nat × Nat // lap fs decay sym = (p.1,p.2.1,min (p.2.1 + p.2.2) 32768) ∧ p.2.1 + p.2.2 < 1048576},fun ⟨(x,l,f),_⟩ => ⟨[(0,.o (.c (.ptr 0 0))),(7,.o (.c (.val (.int .i64 x)))),(9,.o (.c (.val (.int .u32 l)))),(10,.o (.c (.val (.int .u32 f))))],d.H⟩,?_,?_⟩
 · conv => whnf
   refine ⟨fun h4 => ?_,fun h4 => ?_⟩
   · have h4:fs ≤ sym := ge_t h4
     conv => whnf
     refine (lapFirstW w0 d.H (fs := fs) (decay := decay) (by omega) (by omega)).mono ?_
     rintro _ _ ⟨rfl,rfl⟩
     conv => whnf
     simp (disch := omega) only [nadd,nwrap32,nwrapi]
     refine Or.inr ⟨{p:Nat × Nat × Nat // p.2.1 ≤ sym ∧ 1 ≤ p.2.2 ∧ p.2.2 ≤ 16385 ∧ p.1 ≤ p.2.1 ∧ lapGo decay sym sym (1,fs,lapFirst fs decay + 1) = p ∧ (p.2.2 ≤ 1 ∨ sym < p.2.1 + 2 * p.2.2)},fun ⟨(v,l,f),_⟩ => ⟨[(0,.o (.c (.ptr 0 0))),(7,.o (.c (.val (.int .i64 (v:Nat))))),(8,.o (.c (.val (.int .u32 sym)))),(9,.o (.c (.val (.int .u32 l)))),(10,.o (.c (.val (.int .u32 f))))],d.H⟩,?_,?_⟩
     · conv => whnf
       refine ⟨{p:Nat × Nat × Nat // p.2.1 ≤ sym ∧ 1 ≤ p.2.2 ∧ p.2.2 ≤ 16385 ∧ p.1 ≤ p.2.1 ∧ lapGo decay sym (sym - p.2.1) p = lapGo decay sym sym (1,fs,lapFirst fs decay + 1)},fun ⟨(v,l,f),_⟩ => ⟨[(0,.o (.c (.ptr 0 0))),(1,.o (.c (.val (.int .u32 fs)))),(2,.o (.c (.val (.int .u32 decay)))),(7,.o (.c (.val (.int .i64 (v:Nat))))),(8,.o (.c (.val (.int .u32 sym)))),(9,.o (.c (.val (.int .u32 l)))),(10,.o (.c (.val (.int .u32 f))))],d.H⟩,fun p => sym - p.1.2.1,⟨⟨(1,fs,lapFirst fs decay + 1),h4,by simp only; omega,by simp only; omega,by simp only; omega,lapGo_stable _ _ _ _ _ _ _ (Nat.le_refl _) (by omega)⟩,Dec.embH rfl ⟨rfl,rfl,rfl,rfl,rfl,rfl,rfl,trivial⟩⟩,fun ⟨(v,l,f),hl,hf,hf2,hvl,hgo⟩ => ?_⟩
       simp only at hl hf hf2 hvl hgo
       have hmul := lapMul hf2 (show decay ≤ 16384 by omega)
       conv => whnf
       refine ⟨fun h5 => ?_,fun h5 => ?_⟩
       · have h5:1 < f := gt_t h5
         conv => whnf
         simp (disch := omega) only [nmul,nadd,nwrap32]
         refine ⟨fun h6 => ?_,fun h6 => ?_⟩
         · have h6:l + 2 * f ≤ sym := ge_t h6
           conv => whnf
           refine ⟨⟨(v + 1,l + 2 * f,(2 * f - 2) * decay / 32768 + 1),?_,?_,?_,?_,?_⟩,Dec.embH rfl ⟨rfl,rfl,rfl,?_,rfl,?_,?_,trivial⟩,?_⟩
           · exact h6
           · show 1 ≤ (2 * f - 2) * decay / 32768 + 1
             omega
           · show (2 * f - 2) * decay / 32768 + 1 ≤ 16385
             omega
           · show v + 1 ≤ l + 2 * f
             omega
           · rw [← hgo]
             have e:sym - l = (sym - l - 1) + 1 := by omega
             rw [e]
             show _ = (if 1 < f ∧ l + 2 * f ≤ sym then _ else _)
             rw [if_pos ⟨h5,h6⟩]
             exact lapGo_stable _ _ _ _ _ _ _ (Nat.le_refl _) (by omega)
           · refine eq_i64 ?_
             try dsimp only
             rw [nadd,nwrapi (by omega)]
           · refine eq_u32 ?_
             try dsimp only
             rw [nmul,nwrap32 (n := f * 2) (by omega),nadd,nwrap32 (by omega)]
             omega
           · refine eq_u32 ?_
             try dsimp only
             rw [nmul,nwrap32 (n := f * 2) (by omega),nsub (by omega),nwrap32 (n := f * 2 - 2) (by omega),nmul,Nat.mul_comm f 2,nwrap32 (n := (2 * f - 2) * decay) (by omega),nshr32 _ _ (by omega),nadd,nwrap32 (by omega)]
           · show sym - (l + 2 * f) < sym - l
             omega
         · have h6:sym < l + 2 * f := ge_f h6
           conv => whnf
           refine ⟨⟨(v,l,f),hl,hf,hf2,hvl,?_,.inr h6⟩,Dec.embH rfl ⟨rfl,rfl,rfl,rfl,rfl,trivial⟩⟩
           rw [← hgo,lapGo_done (by omega)]
       · have h5:f ≤ 1 := gt_f h5
         conv => whnf
         refine ⟨⟨(v,l,f),hl,hf,hf2,hvl,?_,.inl h5⟩,Dec.embH rfl ⟨rfl,rfl,rfl,rfl,rfl,trivial⟩⟩
         rw [← hgo,lapGo_done (by omega)]
     · rintro ⟨⟨v,l,f⟩,hl,hf,hf2,hvl,hgo,hex⟩
       simp only at hl hf hf2 hvl hgo hex
       conv => whnf
       refine Or.inl ?_
       conv => whnf
       refine ⟨fun h5 => ?_,fun h5 => ?_⟩
       · have h5:f ≤ 1 := le_t h5
         have hf1:f = 1 := by omega
         subst hf1
         have hlap := lap_of h4 hgo (x := (sym - l) / 2) (by simp)
         conv => whnf
         simp (disch := omega) only [nsub,nwrap32,nshr32,nadd,nmul,nwrapi]
         refine ⟨fun h6 => ?_,fun h6 => ?_⟩
         · have h6 := lt_t h6
           conv => whnf
           rw [if_pos (by omega)] at hlap
           refine ⟨⟨(_,_,1),hlap,?_⟩,Dec.embH rfl ⟨rfl,?_,?_,rfl,trivial⟩⟩
           · simp only; omega
           · refine eq_i64 ?_
             try dsimp only
             simp only [IntKind.wrap_i64]
             omega
           · refine eq_u32 ?_
             try dsimp only
             omega
         · have h6 := lt_f h6
           conv => whnf
           rw [if_neg (by omega)] at hlap
           refine ⟨⟨(_,_,1),hlap,?_⟩,Dec.embH rfl ⟨rfl,?_,?_,rfl,trivial⟩⟩
           · simp only; omega
           · refine eq_i64 ?_
             try dsimp only
             skip
           · refine eq_u32 ?_
             try dsimp only
             simp (disch := omega) only [nadd,nwrap32]
             omega
       · have h5:1 < f := le_f h5
         have hlap := lap_of h4 hgo (x := 0) (by rw [if_neg (by omega)])
         conv => whnf
         simp (disch := omega) only [nwrap32,nadd]
         refine ⟨fun h6 => ?_,fun h6 => ?_⟩
         · have h6 := lt_t h6
           conv => whnf
           rw [if_pos (by omega)] at hlap
           refine ⟨⟨(_,_,f),hlap,?_⟩,Dec.embH rfl ⟨rfl,?_,?_,rfl,trivial⟩⟩
           · simp only; omega
           · refine eq_i64 ?_
             try dsimp only
             simp only [IntKind.wrap_i64]
             omega
           · refine eq_u32 ?_
             try dsimp only
             omega
         · have h6 := lt_f h6
           conv => whnf
           rw [if_neg (by omega)] at hlap
           refine ⟨⟨(_,_,f),hlap,?_⟩,Dec.embH rfl ⟨rfl,?_,?_,rfl,trivial⟩⟩
           · simp only; omega
           · refine eq_i64 ?_
             try dsimp only
             simp only [Nat.add_zero]
           · refine eq_u32 ?_
             try dsimp only
             simp (disch := omega) only [nadd,nwrap32]
             omega
   · have h4:sym < fs := ge_f h4
     conv => whnf
     refine ⟨⟨(0,0,fs),?_,by simp only; omega⟩,Dec.embH rfl ⟨rfl,rfl,rfl,rfl,trivial⟩⟩
     unfold lap
     rw [if_pos h4,Nat.zero_add]
 · rintro ⟨⟨x,l,f⟩,hlap,hlf2⟩
   simp only at hlap hlf2
   conv => whnf
   have hq := Nat.div_le_self d.rng 32768
   simp (disch := omega) only [nadd,nwrap32,ntdiv]
   have e:(if ((32768:Nat):Int) < ((l + f:Nat):Int) then ((32768:Nat):Int) else ((l + f:Nat):Int)) = ((min (l + f) 32768:Nat):Int) := by split <;> omega
   have hu := hupd x l _ hlap
   rw [← e] at hu
   refine hu.mono ?_
   rintro _ _ ⟨rfl,hx,rfl⟩
   conv => whnf
   exact Or.inl ⟨hx,rfl⟩
end Go.Proofs.YtokkphocaloelaaGreatDoor
end
section
namespace Go.Proofs.YtokkphocaloelaaGreatDoor
open Go Go.Vc
set_option maxRecDepth 100000

def Dec.raw0 (xs:List Int):Dec := ⟨xs,0,0,9,128,0⟩
def Dec.init0 (xs:List Int):Dec := { (Dec.raw0 xs).bitsOn 7 with val := 127 - (Dec.raw0 xs).bits 7 }
def Dec.init (xs:List Int):Dec := (Dec.init0 xs).norm
theorem Dec.raw0_ok {xs:List Int} (hb:∀ x ∈ xs,0 ≤ x ∧ x < 256) (hl:xs.length ≤ 1099511627776):(Dec.raw0 xs).ok := ⟨hb,hl,by show 0 ≤ _; omega,by show 0 ≤ _; omega,by show 9 ≤ _; omega⟩
theorem Dec.init_inv {xs:List Int} (hb:∀ x ∈ xs,0 ≤ x ∧ x < 256) (hl:xs.length ≤ 1099511627776):(Dec.init xs).inv 33 ∧ (Dec.init xs).data = xs ∧ (Dec.init xs).rb = 0 := by
 have h7 := (Dec.raw0 xs).bits_lt 7
 have hok := Dec.bitsOn_ok (Dec.raw0_ok hb hl) 7
 exact Dec.norm_inv (d := Dec.init0 xs) (N := 9) (by omega) hok.bytes hok.len hok.br (Nat.le_refl _) (by show 0 ≤ _; omega) (by show 1 ≤ 128; omega) (by show 128 ≤ _; omega) (by show 127 - _ < 128; omega)
theorem decInit (w0:World) {xs:List Int} (hb:∀ x ∈ xs,0 ≤ x ∧ x < 256) (hl:xs.length ≤ 1099511627776) :
   CallsA Tryz.prog w0 72 [.c (.ptr 0 0),.c (.vec 1 xs.length)] [.cells 146 [.val (.slice none 0 0),.val (.int .u64 0),.val (.int .u64 0),.val (.int .u64 0),.val (.int .u32 0),.val (.int .u32 0)],.vec false 5 (encI .u8) [] 1 xs] fun r H => r = .t [] ∧ H = (Dec.init xs).H := by
 have h7 := (Dec.raw0 xs).bits_lt 7
 have h7:(Dec.raw0 xs).bits 7 < 128 := h7
 have hok := Dec.bitsOn_ok (Dec.raw0_ok hb hl) 7
 refine callsA_of_ev c72_ ?_
 conv => whnf
 refine (getBits w0 (Dec.raw0 xs) (Dec.raw0_ok hb hl) (n := 7) (by omega) (by omega)).mono ?_
 rintro _ _ ⟨rfl,rfl⟩
 conv => whnf
 simp (disch := omega) only [nsub,nwrap32]
 refine (normalize w0 (Dec.init0 xs) ⟨⟨hok.bytes,hok.len,hok.br,hok.rb,hok.nb⟩,by show 9 ≤ _; omega,by show 1 ≤ 128; omega,by show 128 ≤ _; omega,by show 127 - _ < _; omega⟩).mono ?_
 rintro _ _ ⟨rfl,rfl⟩
 conv => whnf
 exact Or.inl ⟨rfl,rfl⟩
def Dec.size (d:Dec) (n:Nat):Dec := { d with data := d.data.take n }
theorem Dec.size_inv {d:Dec} {N n:Nat} (h:d.inv N):(d.size n).inv N :=
 ⟨fun x hx => h.bytes x (List.mem_of_mem_take hx),by show (d.data.take n).length ≤ _; rw [List.length_take]; have := h.len; omega,h.br,h.nb,h.rb,h.lo,h.hi,h.val⟩
def Dec.H2 (d:Dec):List Blk := [.cells 146 [.vec 2 d.data.length,.val (.int .u64 d.br),.val (.int .u64 d.rb),.val (.int .u64 d.nb),.val (.int .u32 d.rng),.val (.int .u32 d.val)],.dead,.vec false 5 (encI .u8) [] 1 d.data]
theorem setSize (w0:World) (d:Dec) {n:Nat} (hn:n < 4294967296) :
   CallsA Tryz.prog w0 80 [.c (.ptr 0 0),.c (.val (.int .i64 n))] d.H fun r H => r = .t [] ∧ ((d.data.length ≤ n ∧ H = d.H) ∨ (n < d.data.length ∧ H = (d.size n).H2)) := by
 refine callsA_of_ev c80_ ?_
 conv => whnf
 refine Or.inl ?_
 conv => whnf
 refine ⟨fun h1 => absurd (lt_t h1) (by omega),fun h1 => ?_⟩
 conv => whnf
 refine ⟨fun h2 => ?_,fun h2 => ?_⟩
 · have h2 := lt_t h2
   conv => whnf
   refine ⟨by omega,Or.inr ⟨rfl,?_⟩⟩
   conv => whnf
   refine Or.inl ⟨rfl,.inr ⟨h2,?_⟩⟩
   have e:(d.data.take n).length = n := by rw [List.length_take]; omega
   unfold Dec.H2 Dec.size
   simp only [e]
   rfl
 · have h2 := lt_f h2
   conv => whnf
   exact Or.inl ⟨rfl,.inl ⟨h2,rfl⟩⟩
end Go.Proofs.YtokkphocaloelaaGreatDoor
end
section
namespace Go.Proofs.YtokkphocaloelaaGreatDoor
open Go Go.Vc
set_option maxRecDepth 100000

structure TabOk (total:Nat) (rest:List Nat):Prop where
 lo:1 ≤ total
 hi:total ≤ 65536
 le:∀ x ∈ rest,x ≤ total
 mem:total ∈ rest
 len:rest.length ≤ 65535
def tabK (rest:List Nat) (sym:Nat):Nat := rest.findIdx fun x => decide (sym < x)
def tabLow (rest:List Nat) (k:Nat):Nat := if k = 0 then 0 else rest.getD (k - 1) 0
def Dec.icdf (d:Dec) (total:Nat) (rest:List Nat):Nat × Dec :=
 let k := tabK rest (d.at total)
 (k,(d.cut (d.rng / total) (tabLow rest k) (rest.getD k 0) total).norm)
theorem tabK_spec {total sym:Nat} {rest:List Nat} (h:TabOk total rest) (hs:sym < total) :
   tabK rest sym < rest.length ∧ rest[tabK rest sym]? = some (rest.getD (tabK rest sym) 0) ∧ sym < rest.getD (tabK rest sym) 0 ∧ rest.getD (tabK rest sym) 0 ≤ total ∧ tabLow rest (tabK rest sym) ≤ sym ∧
     (∀ i,i < tabK rest sym → rest[i]? = some (rest.getD i 0) ∧ rest.getD i 0 ≤ sym) := by
 have hlt:tabK rest sym < rest.length := List.findIdx_lt_length.2 ⟨total,h.mem,by simpa using hs⟩
 have hget:∀ i,i < rest.length → rest[i]? = some (rest.getD i 0) := fun i hi => by rw [List.getD_eq_getElem?_getD,List.getElem?_eq_getElem hi]; rfl
 have hk:sym < rest.getD (tabK rest sym) 0 := by
   have := List.findIdx_getElem (xs := rest) (p := fun x => decide (sym < x)) (w := hlt)
   rw [List.getD_eq_getElem?_getD,List.getElem?_eq_getElem hlt]
   have this:sym < rest[tabK rest sym] := of_decide_eq_true this
   simpa using this
 have hbelow:∀ i,i < tabK rest sym → rest[i]? = some (rest.getD i 0) ∧ rest.getD i 0 ≤ sym := by
   intro i hi
   have := List.not_of_lt_findIdx (xs := rest) (p := fun x => decide (sym < x)) hi
   refine ⟨hget i (by omega),?_⟩
   rw [List.getD_eq_getElem?_getD,List.getElem?_eq_getElem (by omega)]
   simp at this
   simpa using this
 refine ⟨hlt,hget _ hlt,hk,?_,?_,hbelow⟩
 · refine h.le _ ?_
   rw [List.getD_eq_getElem?_getD,List.getElem?_eq_getElem hlt]
   exact List.getElem_mem hlt
 · unfold tabLow
   split
   · omega
   · exact (hbelow _ (by omega)).2
theorem Dec.icdf_inv {d:Dec} {N total:Nat} {rest:List Nat} (h:d.inv N) (hN:N ≤ 1152921504606846976) (ht:TabOk total rest):(d.icdf total rest).2.inv (N + 24) ∧ (d.icdf total rest).2.data = d.data ∧ (d.icdf total rest).2.rb = d.rb := by
 obtain ⟨a,b,c,e,f,g⟩ := tabK_spec ht (d.at_spec h ht.lo ht.hi).1
 exact Dec.cut_inv h hN ht.lo ht.hi f c e
def tabBlk (total:Nat) (rest:List Nat):Blk := .vec true 132 (encI .u64) [] 1 ((total :: rest).map fun (x:Nat) => (x:Int))
theorem emb3 {d:Dec} {k:Blk} {e0 e:Env} (hk:k.ren [0,1,2] = k) (hl:k.live = true) (he:embE [0,1,2] e e0):EmbS 3 ⟨e0,d.H ++ [k]⟩ ⟨e,d.H ++ [k]⟩ := by
 refine ⟨[0,1,2],⟨rfl,?_,?_⟩,he⟩
 · show embH [0,1,2] (d.H ++ [k]) (d.H ++ [k]) [0,1,2]
   cases k with
   | dead => cases hl
   | cells T cs => exact ⟨rfl,rfl,rfl,rfl,congrArg some hk.symm,rfl,trivial⟩
   | vec wr T e bs wd xs => exact ⟨rfl,rfl,rfl,rfl,congrArg some hk.symm,by rw [hk]; rfl,trivial⟩
   | fam T e wd xss => exact ⟨rfl,rfl,rfl,rfl,rfl,rfl,trivial⟩
 · cases k with
   | dead => cases hl
   | cells T cs => rfl
   | vec wr T e bs wd xs => rfl
   | fam T e wd xss => rfl
theorem tab_get {total:Nat} {rest:List Nat} {i x:Nat} (h:rest[i]? = some x) {j:Nat} (hj:j = i + 1):((total :: rest).map fun (x:Nat) => (x:Int))[j]? = some (x:Int) := by
 subst hj
 simp [h]
theorem symIcdf (w0:World) {d:Dec} {N total:Nat} {rest:List Nat} (h:d.inv N) (hN:N ≤ 1152921504606846976) (ht:TabOk total rest) :
   CallsA Tryz.prog w0 76 [.c (.ptr 0 0),.c (.vec 2 (rest.length + 1))] (d.H ++ [tabBlk total rest]) fun r H => r = u32 (d.icdf total rest).1 ∧ H = (d.icdf total rest).2.H ++ [tabBlk total rest] := by
 have hlo := h.lo; have hhi := h.hi; have hv := h.val
 obtain ⟨a1,a2,a3,a4⟩ := d.at_spec h ht.lo ht.hi
 have hq := Nat.div_le_self d.rng total
 have hq2 := Nat.div_le_self d.val (d.rng / total)
 have htl := ht.lo; have hth := ht.hi; have hrl := ht.len
 refine callsA_of_ev c76_ ?_
 conv => whnf
 refine ⟨by omega,?_⟩
 conv => whnf
 refine ⟨_,rfl,?_⟩
 conv => whnf
 refine ⟨by omega,Or.inl ⟨fun c hc1 hc2 => ?_,fun hl => ?_,fun hl => ?_⟩⟩
 · conv => whnf
   simp (disch := omega) only [ntdiv,nwrap32]
   refine ⟨by omega,?_⟩
   conv => whnf
   simp (disch := omega) only [ntdiv,nwrap32]
   refine ⟨by omega,?_⟩
   conv => whnf
   simp (disch := omega) only [nwrap32,nadd,nwrap64]
   refine (localMin w0 _ _ _).mono ?_
   rintro _ _ ⟨rfl,rfl⟩
   have hat:total - min (d.val / (d.rng / total) + 1) total = d.at total := rfl
   have hle:min (d.val / (d.rng / total) + 1) total ≤ total := Nat.min_le_right _ _
   obtain ⟨s1,s2,s3,s4,s5,s6⟩ := tabK_spec ht a1
   conv => whnf
   rw [nwrap32 (n := min (d.val / (d.rng / total) + 1) total) (by omega),nsub hle,hat,nwrap32 (n := d.at total) (by omega)]
   refine Or.inl ?_
   conv => whnf
   refine ⟨{k:Nat // k ≤ tabK rest (d.at total)},fun ⟨k,_⟩ => ⟨[(0,.o (.c (.ptr 0 0))),(1,.o (.c (.sli 2 1 1 rest.length (c - 1)))),(5,.o (.c (.val (.int .u32 total)))),(6,.o (.c (.val (.int .u32 (d.rng / total:Nat))))),(7,.o (.c (.val (.int .u32 (d.at total:Nat))))),(8,.o (.c (.val (.int .u32 k))))],d.H ++ [tabBlk total rest]⟩,fun k => tabK rest (d.at total) - k.1,⟨⟨0,by omega⟩,emb3 rfl rfl ⟨rfl,rfl,rfl,rfl,rfl,rfl,trivial⟩⟩,fun ⟨k,hk⟩ => ?_⟩
   conv => whnf
   refine ⟨by omega,?_⟩
   conv => whnf
   have hidx:∀ i:Nat,1 + ((i:Nat):Int).toNat = i + 1 := fun i => by omega
   have hge:∀ i,i ≤ tabK rest (d.at total) → rest[i]? = some (rest.getD i 0) ∧ rest.getD i 0 ≤ total := by
     intro i hi
     rcases Nat.lt_or_ge i (tabK rest (d.at total)) with h | h
     · exact ⟨(s6 i h).1,by have := (s6 i h).2; omega⟩
     · have:i = tabK rest (d.at total) := by omega
       subst this
       exact ⟨s2,s4⟩
   refine ⟨_,tab_get (hge k hk).1 (hidx k),?_⟩
   have hle2 := (hge k hk).2
   conv => whnf
   rw [nwrap32 (n := rest.getD k 0) (by omega)]
   refine ⟨fun h1 => ?_,fun h1 => ?_⟩
   · have h1:rest.getD k 0 ≤ d.at total := le_t h1
     have hlt:k < tabK rest (d.at total) := by
       rcases Nat.lt_or_ge k (tabK rest (d.at total)) with h | h
       · exact h
       · have:k = tabK rest (d.at total) := by omega
         subst this
         omega
     conv => whnf
     refine ⟨⟨k + 1,hlt⟩,emb3 rfl rfl ⟨rfl,rfl,rfl,rfl,rfl,?_,trivial⟩,?_⟩
     · refine eq_u32 ?_
       rw [nadd,nwrap32 (by omega)]
     · show _ - (k + 1) < _ - k
       omega
   · have h1:d.at total < rest.getD k 0 := le_f h1
     have hkk:k = tabK rest (d.at total) := by
       rcases Nat.lt_or_ge k (tabK rest (d.at total)) with h | h
       · have := (s6 k h).2
         omega
       · omega
     have hfin:∀ lo hi:Int,lo = (tabLow rest k:Nat) → hi = (rest.getD k 0:Nat) → CallsA Tryz.prog w0 113 [.c (.ptr 0 0),.c (.val (.int .u32 (d.rng / total:Nat))),.c (.val (.int .u32 lo)),.c (.val (.int .u32 hi)),.c (.val (.int .u32 total))] (d.H ++ [tabBlk total rest]) fun r H => r = .t [] ∧ H = (d.icdf total rest).2.H ++ [tabBlk total rest] := by
       rintro _ _ rfl rfl
       subst hkk
       refine CallsA.lift (H0 := d.H) [0,1] rfl ⟨rfl,rfl,rfl,rfl,trivial⟩ rfl (updateAt w0 h hN ht.lo ht.hi s5 s3 s4) ?_
       rintro _ _ ⟨rfl,rfl⟩
       exact ⟨rfl,rfl⟩
     have hres:(d.icdf total rest).1 = k := hkk.symm
     conv => whnf
     refine ⟨by omega,?_⟩
     conv => whnf
     refine ⟨_,tab_get (hge k hk).1 (hidx k),?_⟩
     conv => whnf
     refine Or.inl ?_
     conv => whnf
     refine ⟨fun h2 => ?_,fun h2 => ?_⟩
     · have h2:k ≠ 0 := bne_t h2
       have hle3 := (hge (k - 1) (by omega)).2
       conv => whnf
       rw [nsub (a := k) (b := 1) (by omega),nwrap32 (n := k - 1) (by omega)]
       refine ⟨by omega,?_⟩
       conv => whnf
       refine ⟨_,tab_get (hge (k - 1) (by omega)).1 (hidx (k - 1)),?_⟩
       conv => whnf
       refine (hfin _ _ ?_ ?_).mono ?_
       · rw [nwrap32 (by omega)]
         unfold tabLow
         rw [if_neg h2]
       · rw [nwrap32 (by omega)]
       · rintro _ _ ⟨rfl,rfl⟩
         conv => whnf
         rw [hres]
         exact Or.inl ⟨rfl,rfl⟩
     · have h2:k = 0 := bne_f h2
       conv => whnf
       refine (hfin _ _ ?_ ?_).mono ?_
       · unfold tabLow
         rw [if_pos h2]
       · rw [nwrap32 (by omega)]
       · rintro _ _ ⟨rfl,rfl⟩
         conv => whnf
         rw [hres]
         exact Or.inl ⟨rfl,rfl⟩
 · have:((1:Nat):Int) = ((rest.length + 1:Nat):Int) := hl
   have h0:rest.length = 0 := by omega
   have := ht.mem
   rw [List.length_eq_zero_iff.1 h0] at this
   cases this
 · omega
end Go.Proofs.YtokkphocaloelaaGreatDoor
end

end
section
section
namespace Go.Proofs.YtokkphocaloelaaGreatDoor
open Go Go.Vc
set_option maxRecDepth 100000

def natI (l:List Nat):List Int := l.map fun (x:Nat) => (x:Int)
theorem natI_len (l:List Nat):(natI l).length = l.length := by simp [natI]
def tabSt (sl:Value) (tab:List Nat):Nat → S
 | 0 => ⟨[(3,.o (.c (.val (.slice none 0 0)))),(6,.o (.c (.val sl))),(7,.o (.c (.val (.int .i64 tab.length)))),(8,.o (.c (.val (.int .i64 ((0:Nat):Int)))))],[]⟩
 | k + 1 => ⟨[(3,.o (.c (.vec 0 (k + 1)))),(6,.o (.c (.val sl))),(7,.o (.c (.val (.int .i64 tab.length)))),(8,.o (.c (.val (.int .i64 ((k + 1:Nat):Int)))))],[.vec true 132 (encI .u64) [] 1 ((natI tab).take (k + 1))]⟩
theorem take_snoc {tab:List Nat} {k x:Nat} (h:tab[k]? = some x):(natI tab).take k ++ [(x:Int)] = (natI tab).take (k + 1) := by
 have hk := (List.getElem?_eq_some_iff.1 h).1
 rw [List.take_add_one]
 congr 1
 simp [natI,h]
theorem tableW (w0:World) {a:Addr} {c:Nat} {tab:List Nat} (h1:1 ≤ tab.length) (h2:tab.length ≤ 65536) (hb:∀ (i x:Nat),tab[i]? = some x → x < 4294967296 ∧ w0.cell? (a.add i) = some (.int .u32 x)) :
   CallsA Tryz.prog w0 63 [.c (.val (.slice (some a) tab.length c))] [] fun r H => r = .o (.c (.vec 0 tab.length)) ∧ H = [.vec true 132 (encI .u64) [] 1 (natI tab)] := by
 refine callsA_of_ev c63_ ?_
 conv => whnf
 refine Or.inl ?_
 conv => whnf
 refine ⟨_root_.Fin (tab.length + 1),fun ⟨i,_⟩ => tabSt (.slice (some a) tab.length c) tab i,fun i => tab.length - i.1,⟨⟨0,by omega⟩,[],⟨rfl,trivial,rfl⟩,rfl,rfl,rfl,rfl,trivial⟩,fun ⟨i,hi⟩ => ?_⟩
 rcases i with _ | k
 · conv => whnf
   refine ⟨fun h3 => ?_,fun h3 => ?_⟩
   · obtain ⟨x,hx⟩:∃ x,tab[0]? = some x := ⟨_,List.getElem?_eq_getElem (by omega)⟩
     obtain ⟨hx1,hx2⟩ := hb 0 x hx
     conv => whnf
     refine ⟨by omega,?_⟩
     conv => whnf
     refine ⟨_,hx2,rfl,?_⟩
     conv => whnf
     refine ⟨by omega,Int,encI .u64,[],[(x:Int)],fun _ => rfl,⟨rfl,rfl,?_⟩,by simp only [List.length_cons,List.length_nil]; omega,by simp only [List.length_cons,List.length_nil]; omega,?_⟩
     · show [CV.val (.int .u64 (x:Int))] = [CV.val (.int .u64 (IntKind.u64.wrap x))]
       rw [nwrap64 (by omega)]
     · conv => whnf
       refine ⟨⟨1,by omega⟩,⟨[1],⟨rfl,⟨?_,rfl,trivial⟩,rfl⟩,rfl,rfl,rfl,?_,trivial⟩,?_⟩
       · have := take_snoc hx
         simp only [List.take_zero,List.nil_append] at this
         show some (Blk.vec true 132 (encI .u64) [] 1 [(x:Int)]) = some (Blk.vec true 132 (encI .u64) [] 1 ((natI tab).take (0 + 1)))
         rw [← this]
       · refine eq_i64 ?_
         rw [nadd,nwrapi (by omega)]
       · show tab.length - 1 < tab.length - 0
         omega
   · have := lt_f h3
     omega
 · conv => whnf
   refine ⟨fun h3 => ?_,fun h3 => ?_⟩
   · have h3:k + 1 < tab.length := lt_t h3
     obtain ⟨x,hx⟩:∃ x,tab[k + 1]? = some x := ⟨_,List.getElem?_eq_getElem h3⟩
     obtain ⟨hx1,hx2⟩ := hb (k + 1) x hx
     have hl:((natI tab).take (k + 1)).length = k + 1 := by
       rw [List.length_take,natI_len]
       omega
     have hl2:((natI tab).take (k + 1) ++ [(x:Int)]).length = k + 2 := by
       rw [List.length_append,hl]
       rfl
     conv => whnf
     refine ⟨by omega,?_⟩
     conv => whnf
     refine ⟨.int .u32 x,?_,rfl,?_⟩
     · rw [Int.toNat_natCast,Nat.mul_one]
       exact hx2
     · conv => whnf
       refine ⟨hl.symm,[(x:Int)],⟨rfl,rfl,?_⟩,by rw [hl2]; omega,by rw [hl2]; omega,?_⟩
       · show [CV.val (.int .u64 (x:Int))] = [CV.val (.int .u64 (IntKind.u64.wrap x))]
         rw [nwrap64 (by omega)]
       · conv => whnf
         refine ⟨⟨k + 2,by omega⟩,⟨[2],⟨rfl,⟨?_,rfl,trivial⟩,rfl⟩,?_,rfl,rfl,?_,trivial⟩,?_⟩
         · show some (Blk.vec true 132 (encI .u64) [] 1 ((natI tab).take (k + 1) ++ [(x:Int)])) = some (Blk.vec true 132 (encI .u64) [] 1 ((natI tab).take (k + 1 + 1)))
           rw [take_snoc hx]
         · show some (AV.o (.c (.vec 2 ((natI tab).take (k + 1) ++ [(x:Int)]).length))) = some (AV.o (.c (.vec 2 (k + 1 + 1))))
           rw [hl2]
         · refine eq_i64 ?_
           rw [nadd,nwrapi (by omega)]
         · show tab.length - (k + 2) < tab.length - (k + 1)
           omega
   · have h3:tab.length ≤ k + 1 := lt_f h3
     have hk:tab.length = k + 1 := by omega
     conv => whnf
     refine Or.inl ⟨?_,?_⟩
     · rw [hk]
       rfl
     · show [Blk.vec true 132 (encI .u64) [] 1 ((natI tab).take (k + 1))] = _
       rw [List.take_of_length_le (by rw [natI_len]; omega)]
end Go.Proofs.YtokkphocaloelaaGreatDoor
end
section
namespace Go.Proofs.YtokkphocaloelaaGreatDoor
open Go Go.Vc
set_option maxRecDepth 100000

structure OpV where
 act:Int
 a:Nat
 b:Nat
 c:Nat
 v:Int
 tab:Value
 rows:List Nat
def OpV.cells (o:OpV):List CV := [.val (.int .i64 o.act),.val (.int .u32 o.a),.val (.int .u32 o.b),.val (.int .u32 o.c),.val (.int .i64 o.v),.val o.tab]
def encOp:Enc OpV := ⟨fun _ o => o.cells,fun _ _ _ _ _ _ => rfl⟩
theorem take_snoc' {α:Type} {l:List α} {k:Nat} {x:α} (h:l[k]? = some x):l.take k ++ [x] = l.take (k + 1) := by
 rw [List.take_add_one,h]
 rfl
end Go.Proofs.YtokkphocaloelaaGreatDoor
end
section
namespace Go.Proofs.YtokkphocaloelaaGreatDoor
open Go Go.Vc
set_option maxRecDepth 100000

structure SeenV where
 value:Int
 fine:Bool
 rng:Nat
 tell:Nat
 frac:Nat
 left:Int
def SeenV.cells (s:SeenV):List CV := [.val (.int .i64 s.value),.val (.bool s.fine),.val (.int .u32 s.rng),.val (.int .u32 s.tell),.val (.int .u32 s.frac),.val (.int .i64 s.left)]
def encSeen:Enc SeenV := ⟨fun _ o => o.cells,fun _ _ _ _ _ _ => rfl⟩
def Dec.act (d:Dec) (o:OpV):Int × Bool × Dec :=
 if o.act = 0 then ((d.at o.c:Nat),true,if o.a ≤ d.at o.c ∧ d.at o.c < o.b then (d.cut (d.rng / o.c) o.a o.b o.c).norm else d.uni o.c)
 else if o.act = 1 then (((d.logp o.a).1:Nat),true,(d.logp o.a).2)
 else if o.act = 2 then (((d.icdf (o.rows.getD 0 0) o.rows.tail).1:Nat),true,(d.icdf (o.rows.getD 0 0) o.rows.tail).2)
 else if o.act = 3 then (((d.whole o.a).1:Nat),(d.whole o.a).2.1,(d.whole o.a).2.2)
 else if o.act = 4 then ((d.raw o.a:Nat),true,d.rawOn o.a)
 else if o.act = 5 then ((d.lapl o.a o.b).1,true,(d.lapl o.a o.b).2)
 else (0,true,d.size o.a)
def Dec.told (d:Dec) (value:Int) (fine:Bool):SeenV := ⟨value,fine,d.rng,d.tell % 4294967296,d.frac % 4294967296,((d.data.length * 8:Nat):Int) - (d.br:Int) - (d.rb:Int)⟩
def Dec.tells (d:Dec) (o:OpV):SeenV := (d.act o).2.2.told (d.act o).1 (d.act o).2.1
def Dec.after (d:Dec):List OpV → Dec
 | [] => d
 | o :: r => (d.act o).2.2.after r
def Dec.seen (d:Dec):List OpV → List SeenV
 | [] => []
 | o :: r => d.tells o :: (d.act o).2.2.seen r
structure OpV.good (w0:World) (o:OpV):Prop where
 a32:o.a < 4294967296
 b32:o.b < 4294967296
 c32:o.c < 4294967296
 kind:(o.act = 0 ∧ 1 ≤ o.c ∧ o.c ≤ 65535 ∧ o.b ≤ o.c) ∨ (o.act = 1 ∧ 1 ≤ o.a ∧ o.a ≤ 15) ∨
   (o.act = 2 ∧ ∃ total rest ta c,o.rows = total :: rest ∧ TabOk total rest ∧ o.tab = .slice (some ta) o.rows.length c ∧ ∀ (i x:Nat),o.rows[i]? = some x → x < 4294967296 ∧ w0.cell? (ta.add i) = some (.int .u32 x)) ∨
   (o.act = 3 ∧ 2 ≤ o.a) ∨ (o.act = 4 ∧ o.a ≤ 32) ∨ (o.act = 5 ∧ 1 ≤ o.a ∧ o.a ≤ 32000 ∧ o.b ≤ 16000) ∨ o.act = 6
theorem Dec.act_inv {w0:World} {d:Dec} {N:Nat} (h:d.inv N) (hN:N ≤ 1152921504606846900) {o:OpV} (ho:o.good w0):(d.act o).2.2.inv (N + 64) := by
 have up:∀ {e:Dec} {M:Nat},e.inv M → M ≤ N + 64 → e.inv (N + 64) := fun he hM => ⟨he.bytes,he.len,he.br,Nat.le_trans he.nb hM,Nat.le_trans he.rb hM,he.lo,he.hi,he.val⟩
 unfold Dec.act
 rcases ho.kind with ⟨e,h1,h2,h3⟩ | ⟨e,h1,h2⟩ | ⟨e,total,rest,ta,c,hr,ht,_⟩ | ⟨e,h1⟩ | ⟨e,h1⟩ | ⟨e,h1,h2,h3⟩ | e
 · rw [e,if_pos rfl]
   simp only
   split
   · rename_i hc
     exact up (Dec.cut_inv h (by omega) h1 (by omega) hc.1 hc.2 h3).1 (by omega)
   · exact up (d.uni_inv h (by omega) h1 (by omega)).1 (by omega)
 · rw [e,if_neg (by decide),if_pos rfl]
   exact up (d.logp_inv h (by omega) h1 h2).1 (by omega)
 · rw [e,if_neg (by decide),if_neg (by decide),if_pos rfl,hr]
   exact up (d.icdf_inv h (by omega) ht).1 (by omega)
 · rw [e,if_neg (by decide),if_neg (by decide),if_neg (by decide),if_pos rfl]
   exact up (d.whole_inv h (by omega) (by omega) ho.a32).1 (by omega)
 · rw [e,if_neg (by decide),if_neg (by decide),if_neg (by decide),if_neg (by decide),if_pos rfl]
   exact up (Dec.rawOn_inv h) (by omega)
 · rw [e,if_neg (by decide),if_neg (by decide),if_neg (by decide),if_neg (by decide),if_neg (by decide),if_pos rfl]
   exact up (d.lapl_inv h (by omega) h1).1 (by omega)
 · rw [e,if_neg (by decide),if_neg (by decide),if_neg (by decide),if_neg (by decide),if_neg (by decide),if_neg (by decide)]
   exact up (d.size_inv h) (by omega)
theorem Dec.after_inv {w0:World}:∀ {l:List OpV} {d:Dec} {N:Nat},d.inv N → N + 64 * l.length ≤ 1152921504606846900 → (∀ o ∈ l,o.good w0) → (d.after l).inv (N + 64 * l.length)
 | [],d,N,h,_,_ => h
 | o :: r,d,N,h,hN,hg => by
   simp only [List.length_cons] at hN
   have h1 := Dec.act_inv h (by omega) (hg o (by simp))
   have h2 := Dec.after_inv (l := r) h1 (by omega) fun x hx => hg x (by simp [hx])
   have e:N + 64 * (o :: r).length = N + 64 + 64 * r.length := by simp only [List.length_cons]; omega
   rw [e]
   exact h2
theorem Dec.after_snoc (d:Dec) (l:List OpV) (o:OpV):d.after (l ++ [o]) = ((d.after l).act o).2.2 := by
 induction l generalizing d with
 | nil => rfl
 | cons x r ih => exact ih _
theorem Dec.seen_snoc (d:Dec) (l:List OpV) (o:OpV):d.seen (l ++ [o]) = d.seen l ++ [(d.after l).tells o] := by
 induction l generalizing d with
 | nil => rfl
 | cons x r ih =>
   simp only [List.cons_append,Dec.seen,ih,Dec.after]
theorem Dec.seen_len (d:Dec) (l:List OpV):(d.seen l).length = l.length := by
 induction l generalizing d with
 | nil => rfl
 | cons x r ih => simp [Dec.seen,ih]
end Go.Proofs.YtokkphocaloelaaGreatDoor
end
section
namespace Go.Proofs.YtokkphocaloelaaGreatDoor
open Go Go.Vc
set_option maxRecDepth 100000
set_option maxHeartbeats 4000000

def decBlks (d:Dec):List Blk := [.cells 146 [.vec 4 d.data.length,.val (.int .u64 d.br),.val (.int .u64 d.rb),.val (.int .u64 d.nb),.val (.int .u32 d.rng),.val (.int .u32 d.val)],.vec false 5 (encI .u8) [] 1 d.data]
def decEnv (n k:Nat):Env := [(4,.o (.c (.ptr 1 0))),(5,.o (.c (.ptr 2 0))),(6,.o (.c (.ptr 3 0))),(17,.o (.c (.vec 0 n))),(18,.o (.c (.val (.int .i64 n)))),(19,.o (.c (.val (.int .i64 k))))]
def decSt (l:List OpV) (d0:Dec):Nat → S
 | 0 => ⟨decEnv l.length 0,[.vec true 131 encOp [] 6 l,.cells 89 [.val (.slice none 0 0)],.cells 3 [.val (.int .i64 ((0:Nat):Int))]] ++ decBlks d0⟩
 | k + 1 => ⟨decEnv l.length (k + 1),[.vec true 131 encOp [] 6 l,.cells 89 [.vec 5 (k + 1)],.cells 3 [.val (.int .i64 ((0:Nat):Int))]] ++ decBlks (d0.after (l.take (k + 1))) ++ [.vec true 95 encSeen [] 6 (d0.seen (l.take (k + 1)))]⟩
def midSt (l:List OpV) (sv:CV) (T:List Blk) (k:Nat) (id:Nat) (p:Int × Bool × Dec):S :=
 ⟨(9,.o (.c (.ptr id 0))) :: decEnv l.length k,[.vec true 131 encOp [] 6 l,.cells 89 [sv],.cells 3 [.val (.int .i64 ((0:Nat):Int))]] ++ decBlks p.2.2 ++ T ++ [.cells 95 [.val (.int .i64 p.1),.val (.bool p.2.1),.val (.int .u32 ((0:Nat):Int)),.val (.int .u32 ((0:Nat):Int)),.val (.int .u32 ((0:Nat):Int)),.val (.int .i64 ((0:Nat):Int))]]⟩
theorem seen_eq {x y:Int} {f g:Bool} (h:x = y) (hf:f = g):some (Blk.cells 95 [.val (.int .i64 x),.val (.bool f),.val (.int .u32 ((0:Nat):Int)),.val (.int .u32 ((0:Nat):Int)),.val (.int .u32 ((0:Nat):Int)),.val (.int .i64 ((0:Nat):Int))]) = some (Blk.cells 95 [.val (.int .i64 y),.val (.bool g),.val (.int .u32 ((0:Nat):Int)),.val (.int .u32 ((0:Nat):Int)),.val (.int .u32 ((0:Nat):Int)),.val (.int .i64 ((0:Nat):Int))]) := by
 rw [h,hf]
theorem logp_le (d:Dec) (k:Nat):(d.logp k).1 ≤ 1 := by
 unfold Dec.logp
 split <;> simp
theorem whole_lt (d:Dec) {n:Nat} (h:1 ≤ n):(d.whole n).1 ≤ n := by
 unfold Dec.whole
 split
 · exact Nat.sub_le _ _
 · simp only
   split <;> omega
theorem seen_cells {d:Dec} {v:Int} {f:Bool} {t c lf:Int} (ht:t = (d.tell % 4294967296:Nat)) (hc:c = (d.frac % 4294967296:Nat)) (hl:lf = ((d.data.length * 8:Nat):Int) - (d.br:Int) - (d.rb:Int)) :
   flat encSeen [] [d.told v f] = [.val (.int .i64 v),.val (.bool f),.val (.int .u32 d.rng),.val (.int .u32 t),.val (.int .u32 c),.val (.int .i64 lf)] := by
 subst ht hc hl
 rfl
theorem wrap_mod (n:Nat):IntKind.u32.wrap (n:Int) = ((n % 4294967296:Nat):Int) := by
 rw [IntKind.wrap_u32]
 omega
theorem decSt_succ {l:List OpV} {d0 d1:Dec} {k:Nat} {ss:List SeenV} (h1:d0.after (l.take (k + 1)) = d1) (h2:d0.seen (l.take (k + 1)) = ss) :
   decSt l d0 (k + 1) = ⟨decEnv l.length (k + 1),[.vec true 131 encOp [] 6 l,.cells 89 [.vec 5 (k + 1)],.cells 3 [.val (.int .i64 ((0:Nat):Int))]] ++ decBlks d1 ++ [.vec true 95 encSeen [] 6 ss]⟩ := by
 subst h1 h2
 rfl
theorem decodeW (w0:World) {b:ByteArray} {l:List OpV} (hb:b.size ≤ 1099511627776) (hl:l ≠ []) (hl2:l.length ≤ 65536) (hg:∀ o ∈ l,o.good w0 ∧ o.tab.oneCell' = true) :
   CallsA Tryz.prog w0 35 [.c (.val (.string b)),.c (.vec 0 l.length)] [.vec true 131 encOp [] 6 l] fun r H => r = .t [.c (.vec 1 l.length),.c (.val (.int .i64 0))] ∧ H = [.vec true 131 encOp [] 6 l,.vec true 95 encSeen [] 6 ((Dec.init (bytesOf b)).seen l)] := by
 have hbl:(bytesOf b).length = b.size := by
   unfold bytesOf
   rw [List.length_map]
   rfl
 have hbb:∀ x ∈ bytesOf b,0 ≤ x ∧ x < 256 := by
   intro x hx
   unfold bytesOf at hx
   obtain ⟨y,_,rfl⟩ := List.mem_map.1 hx
   have := y.toNat_lt
   omega
 refine callsA_of_evD c35_ ?_
 conv => whnf
 refine ⟨by omega,?_⟩
 conv => whnf
 refine CallsA.lift (H0 := [.cells 146 [.val (.slice none 0 0),.val (.int .u64 0),.val (.int .u64 0),.val (.int .u64 0),.val (.int .u32 0),.val (.int .u32 0)],.vec false 5 (encI .u8) [] 1 (bytesOf b)]) [3,4] rfl ⟨rfl,rfl,rfl,rfl,trivial⟩ rfl (decInit w0 (xs := bytesOf b) hbb (by omega)) ?_
 rintro _ _ ⟨rfl,rfl⟩
 obtain ⟨hinv,hdata,hrb⟩ := Dec.init_inv hbb (by omega)
 conv => whnf
 refine Or.inl ?_
 conv => whnf
 refine ⟨_root_.Fin (l.length + 1),fun ⟨k,_⟩ => decSt l (Dec.init (bytesOf b)) k,fun k => l.length - k.1,⟨⟨0,by omega⟩,[0,1,2,3,4],⟨rfl,⟨rfl,rfl,rfl,rfl,rfl,rfl,by rfl,rfl,by rfl,rfl,trivial⟩,rfl⟩,rfl,rfl,rfl,rfl,rfl,rfl,trivial⟩,fun ⟨k,hk⟩ => ?_⟩
 · generalize Dec.init (bytesOf b) = d0 at *
   rcases k with _ | k
   · conv => whnf
     refine ⟨fun h1 => ?_,fun h1 => ?_⟩
     · have h1:0 < l.length := lt_t h1
       obtain ⟨o,ho⟩:∃ o,l[0]? = some o := ⟨_,List.getElem?_eq_getElem h1⟩
       obtain ⟨hgo,hgt⟩ := hg o (List.mem_of_getElem? ho)
       conv => whnf
       refine Or.inl ?_
       conv => whnf
       refine ⟨by omega,?_⟩
       conv => whnf
       refine ⟨o,ho,?_⟩
       conv => whnf
       refine Or.inr ⟨Unit,fun _ => midSt l (.val (.slice none 0 0)) [] 0 5 (d0.act o),?_,fun _ => ?_⟩
       · obtain ⟨act,oa,ob,oc,ov,otab,rows⟩ := o
         obtain ⟨a32,b32,c32,kind⟩ := hgo
         simp only at a32 b32 c32 kind
         rcases kind with ⟨rfl,h2,h3,h4⟩ | ⟨rfl,h2,h3⟩ | ⟨rfl,total,rest,ta,c,hr,ht,htab,hcell⟩ | ⟨rfl,h2⟩ | ⟨rfl,h2⟩ | ⟨rfl,h2,h3,h4⟩ | rfl
         · have hlo := hinv.lo
           have hat := (d0.at_spec hinv h2 (by omega)).1
           have hact:d0.act ⟨0,oa,ob,oc,ov,otab,rows⟩ = (((d0.at oc:Nat):Int),true,if oa ≤ d0.at oc ∧ d0.at oc < ob then (d0.cut (d0.rng / oc) oa ob oc).norm else d0.uni oc) := rfl
           conv => whnf
           refine ⟨fun _ => ?_,(fun h => by cases h)⟩
           conv => whnf
           refine CallsA.lift (H0 := d0.H) [3,4] rfl ⟨rfl,rfl,rfl,rfl,trivial⟩ rfl (cumulative w0 hinv (n := oc) h2 (by omega)) ?_
           rintro _ _ ⟨rfl,rfl⟩
           conv => whnf
           refine Or.inl ?_
           conv => whnf
           have hno:¬ (oa ≤ d0.at oc ∧ d0.at oc < ob) → CallsA Tryz.prog w0 74 [.c (.ptr 0 0),.c (.val (.int .u32 (d0.at oc:Nat))),.c (.val (.int .u32 (IntKind.u32.wrap ((d0.at oc:Int) + ((1:Nat):Int))))),.c (.val (.int .u32 oc))] d0.H fun r H => r = .t [] ∧ H = (d0.act ⟨0,oa,ob,oc,ov,otab,rows⟩).2.2.H := by
             intro hc
             rw [hact,if_neg hc,nadd,nwrap32 (by omega)]
             exact updCumulative w0 hinv (by omega) h2 (by omega) (Nat.le_refl _) (Nat.lt_succ_self _) hat
           have hyes:(oa ≤ d0.at oc ∧ d0.at oc < ob) → CallsA Tryz.prog w0 74 [.c (.ptr 0 0),.c (.val (.int .u32 oa)),.c (.val (.int .u32 ob)),.c (.val (.int .u32 oc))] d0.H fun r H => r = .t [] ∧ H = (d0.act ⟨0,oa,ob,oc,ov,otab,rows⟩).2.2.H := by
             intro hc
             rw [hact,if_pos hc]
             exact updCumulative w0 hinv (by omega) h2 (by omega) hc.1 hc.2 h4
           have hval:(d0.act ⟨0,oa,ob,oc,ov,otab,rows⟩).1 = (d0.at oc:Nat) := rfl
           have hfine:(d0.act ⟨0,oa,ob,oc,ov,otab,rows⟩).2.1 = true := rfl
           generalize d0.act ⟨0,oa,ob,oc,ov,otab,rows⟩ = res at *
           refine ⟨fun h5 => ?_,fun h5 => ?_⟩
           · have h5:oa ≤ d0.at oc := le_t h5
             conv => whnf
             refine ⟨fun h6 => ?_,fun h6 => ?_⟩
             · have h6:d0.at oc < ob := lt_t h6
               conv => whnf
               refine CallsA.lift (H0 := d0.H) [3,4] rfl ⟨rfl,rfl,rfl,rfl,trivial⟩ rfl (hyes ⟨h5,h6⟩) ?_
               rintro _ _ ⟨rfl,rfl⟩
               conv => whnf
               refine ⟨(),[0,1,2,3,4,6],⟨rfl,⟨rfl,rfl,rfl,rfl,rfl,rfl,by rfl,rfl,by rfl,rfl,seen_eq ?_ hfine.symm,rfl,trivial⟩,rfl⟩,rfl,rfl,rfl,rfl,rfl,rfl,rfl,trivial⟩
               rw [hval]
               exact nwrapi (by omega)
             · have h6:ob ≤ d0.at oc := lt_f h6
               conv => whnf
               refine CallsA.lift (H0 := d0.H) [3,4] rfl ⟨rfl,rfl,rfl,rfl,trivial⟩ rfl (hno (by omega)) ?_
               rintro _ _ ⟨rfl,rfl⟩
               conv => whnf
               refine ⟨(),[0,1,2,3,4,6],⟨rfl,⟨rfl,rfl,rfl,rfl,rfl,rfl,by rfl,rfl,by rfl,rfl,seen_eq ?_ hfine.symm,rfl,trivial⟩,rfl⟩,rfl,rfl,rfl,rfl,rfl,rfl,rfl,trivial⟩
               rw [hval]
               exact nwrapi (by omega)
           · have h5:d0.at oc < oa := le_f h5
             conv => whnf
             refine CallsA.lift (H0 := d0.H) [3,4] rfl ⟨rfl,rfl,rfl,rfl,trivial⟩ rfl (hno (by omega)) ?_
             rintro _ _ ⟨rfl,rfl⟩
             conv => whnf
             refine ⟨(),[0,1,2,3,4,6],⟨rfl,⟨rfl,rfl,rfl,rfl,rfl,rfl,by rfl,rfl,by rfl,rfl,seen_eq ?_ hfine.symm,rfl,trivial⟩,rfl⟩,rfl,rfl,rfl,rfl,rfl,rfl,rfl,trivial⟩
             rw [hval]
             exact nwrapi (by omega)
         · conv => whnf
           refine ⟨(fun h => by cases h),fun _ => ?_⟩
           conv => whnf
           refine ⟨fun _ => ?_,(fun h => by cases h)⟩
           conv => whnf
           rw [nwrap64 (n := oa) (by omega)]
           refine CallsA.lift (H0 := d0.H) [3,4] rfl ⟨rfl,rfl,rfl,rfl,trivial⟩ rfl (logP w0 hinv (by omega) (k := oa) h2 h3) ?_
           rintro _ _ ⟨rfl,rfl⟩
           have := logp_le d0 oa
           conv => whnf
           refine ⟨(),[0,1,2,3,4,6],⟨rfl,⟨rfl,rfl,rfl,rfl,rfl,rfl,by rfl,rfl,by rfl,rfl,seen_eq ?_ rfl,rfl,trivial⟩,rfl⟩,rfl,rfl,rfl,rfl,rfl,rfl,rfl,trivial⟩
           exact nwrapi (by omega)
         · subst hr htab
           have hact:d0.act ⟨2,oa,ob,oc,ov,.slice (some ta) (total :: rest).length c,total :: rest⟩ = ((((d0.icdf total rest).1:Nat):Int),true,(d0.icdf total rest).2) := rfl
           have hk2 := (tabK_spec ht (d0.at_spec hinv ht.lo ht.hi).1).1
           have hk3:(d0.icdf total rest).1 < rest.length := hk2
           have hrl := ht.len
           generalize d0.act ⟨2,oa,ob,oc,ov,.slice (some ta) (total :: rest).length c,total :: rest⟩ = res at *
           subst hact
           conv => whnf
           refine ⟨(fun h => by cases h),fun _ => ?_⟩
           conv => whnf
           refine ⟨(fun h => by cases h),fun _ => ?_⟩
           conv => whnf
           refine ⟨fun _ => ?_,(fun h => by cases h)⟩
           conv => whnf
           refine cL0 (tableW w0 (a := ta) (c := c) (tab := total :: rest) (by simp) (by simp only [List.length_cons]; omega) hcell) ?_
           rintro _ _ ⟨rfl,rfl⟩
           conv => whnf
           refine CallsA.lift (H0 := d0.H ++ [tabBlk total rest]) [3,4,7] rfl ⟨rfl,rfl,rfl,rfl,rfl,rfl,trivial⟩ rfl (symIcdf w0 hinv (by omega) ht) ?_
           rintro _ _ ⟨rfl,rfl⟩
           conv => whnf
           refine ⟨(),[0,1,2,3,4,6],⟨rfl,⟨rfl,rfl,rfl,rfl,rfl,rfl,by rfl,rfl,by rfl,rfl,seen_eq ?_ rfl,rfl,trivial⟩,rfl⟩,rfl,rfl,rfl,rfl,rfl,rfl,rfl,trivial⟩
           exact nwrapi (by omega)
         · conv => whnf
           refine ⟨(fun h => by cases h),fun _ => ?_⟩
           conv => whnf
           refine ⟨(fun h => by cases h),fun _ => ?_⟩
           conv => whnf
           refine ⟨(fun h => by cases h),fun _ => ?_⟩
           conv => whnf
           refine ⟨fun _ => ?_,(fun h => by cases h)⟩
           conv => whnf
           refine CallsA.lift (H0 := d0.H) [3,4] rfl ⟨rfl,rfl,rfl,rfl,trivial⟩ rfl (uniform w0 hinv (by omega) (n := oa) h2 a32) ?_
           rintro _ _ ⟨rfl,rfl⟩
           conv => whnf
           refine ⟨(),[0,1,2,3,4,6],⟨rfl,⟨rfl,rfl,rfl,rfl,rfl,rfl,by rfl,rfl,by rfl,rfl,seen_eq ?_ rfl,rfl,trivial⟩,rfl⟩,rfl,rfl,rfl,rfl,rfl,rfl,rfl,trivial⟩
           have := whole_lt d0 (n := oa) (by omega)
           exact nwrapi (by omega)
         · conv => whnf
           refine ⟨(fun h => by cases h),fun _ => ?_⟩
           conv => whnf
           refine ⟨(fun h => by cases h),fun _ => ?_⟩
           conv => whnf
           refine ⟨(fun h => by cases h),fun _ => ?_⟩
           conv => whnf
           refine ⟨(fun h => by cases h),fun _ => ?_⟩
           conv => whnf
           refine ⟨fun _ => ?_,(fun h => by cases h)⟩
           conv => whnf
           rw [nwrap64 (n := oa) (by omega)]
           refine CallsA.lift (H0 := d0.H) [3,4] rfl ⟨rfl,rfl,rfl,rfl,trivial⟩ rfl (rawBits w0 hinv (by omega) (n := oa) h2) ?_
           rintro _ _ ⟨rfl,rfl⟩
           have := d0.raw_lt oa
           have:2 ^ oa ≤ 2 ^ 32 := Nat.pow_le_pow_right (by omega) h2
           conv => whnf
           refine ⟨(),[0,1,2,3,4,6],⟨rfl,⟨rfl,rfl,rfl,rfl,rfl,rfl,by rfl,rfl,by rfl,rfl,seen_eq ?_ rfl,rfl,trivial⟩,rfl⟩,rfl,rfl,rfl,rfl,rfl,rfl,rfl,trivial⟩
           exact nwrapi (by omega)
         · conv => whnf
           refine ⟨(fun h => by cases h),fun _ => ?_⟩
           conv => whnf
           refine ⟨(fun h => by cases h),fun _ => ?_⟩
           conv => whnf
           refine ⟨(fun h => by cases h),fun _ => ?_⟩
           conv => whnf
           refine ⟨(fun h => by cases h),fun _ => ?_⟩
           conv => whnf
           refine ⟨(fun h => by cases h),fun _ => ?_⟩
           conv => whnf
           refine ⟨fun _ => ?_,(fun h => by cases h)⟩
           conv => whnf
           refine CallsA.lift (H0 := d0.H) [3,4] rfl ⟨rfl,rfl,rfl,rfl,trivial⟩ rfl (laplace w0 hinv (by omega) h2 h3 h4) ?_
           rintro _ _ ⟨rfl,rfl⟩
           conv => whnf
           refine ⟨(),[0,1,2,3,4,6],⟨rfl,⟨rfl,rfl,rfl,rfl,rfl,rfl,by rfl,rfl,by rfl,rfl,seen_eq ?_ rfl,rfl,trivial⟩,rfl⟩,rfl,rfl,rfl,rfl,rfl,rfl,rfl,trivial⟩
           rfl
         · conv => whnf
           refine ⟨(fun h => by cases h),fun _ => ?_⟩
           conv => whnf
           refine ⟨(fun h => by cases h),fun _ => ?_⟩
           conv => whnf
           refine ⟨(fun h => by cases h),fun _ => ?_⟩
           conv => whnf
           refine ⟨(fun h => by cases h),fun _ => ?_⟩
           conv => whnf
           refine ⟨(fun h => by cases h),fun _ => ?_⟩
           conv => whnf
           refine ⟨(fun h => by cases h),fun _ => ?_⟩
           conv => whnf
           refine ⟨fun _ => ?_,(fun h => by cases h)⟩
           conv => whnf
           rw [nwrapi (n := oa) (by omega)]
           refine CallsA.lift (H0 := d0.H) [3,4] rfl ⟨rfl,rfl,rfl,rfl,trivial⟩ rfl (setSize w0 d0 (n := oa) a32) ?_
           rintro _ _ ⟨rfl,hH⟩
           have hdd:d0.data.length ≤ oa → d0.size oa = d0 := fun hs => by
             unfold Dec.size
             rw [List.take_of_length_le hs]
           have hres:(d0.act ⟨6,oa,ob,oc,ov,otab,rows⟩) = (0,true,d0.size oa) := rfl
           generalize d0.act ⟨6,oa,ob,oc,ov,otab,rows⟩ = res at *
           subst hres
           rcases hH with ⟨hs,rfl⟩ | ⟨hs,rfl⟩
           · rw [hdd hs]
             conv => whnf
             exact ⟨(),[0,1,2,3,4,6],⟨rfl,⟨rfl,rfl,rfl,rfl,rfl,rfl,by rfl,rfl,by rfl,rfl,rfl,rfl,trivial⟩,rfl⟩,rfl,rfl,rfl,rfl,rfl,rfl,rfl,trivial⟩
           · conv => whnf
             exact ⟨(),[0,1,2,3,7,6],⟨rfl,⟨rfl,rfl,rfl,rfl,rfl,rfl,by rfl,rfl,by rfl,rfl,rfl,rfl,trivial⟩,rfl⟩,rfl,rfl,rfl,rfl,rfl,rfl,rfl,trivial⟩
       · have hi2 := Dec.act_inv hinv (by omega) hgo
         have hone := take_snoc' ho
         simp only [List.take_zero,List.nil_append] at hone
         have hseen:d0.seen (l.take 1) = [d0.tells o] := by rw [← hone]; rfl
         have hafter:d0.after (l.take 1) = (d0.act o).2.2 := by rw [← hone]; rfl
         have htells:d0.tells o = (d0.act o).2.2.told (d0.act o).1 (d0.act o).2.1 := rfl
         have h97 := hi2.nb
         have hlo := hi2.lo; have hhi := hi2.hi
         have hok := (hi2.pre (by omega)).ok
         generalize d0.tells o = ts at *
         generalize d0.act o = res at *
         obtain ⟨v,fine,d1⟩ := res
         simp only at hi2 hafter htells h97 hlo hhi hok
         conv => whnf
         refine CallsA.lift (H0 := d1.H) [3,4] rfl ⟨rfl,rfl,rfl,rfl,trivial⟩ rfl (finalRange w0 d1) ?_
         rintro _ _ ⟨rfl,rfl⟩
         conv => whnf
         refine CallsA.lift (H0 := d1.H) [3,4] rfl ⟨rfl,rfl,rfl,rfl,trivial⟩ rfl (tell w0 d1 hok (by omega) (by omega)) ?_
         rintro _ _ ⟨rfl,rfl⟩
         conv => whnf
         refine CallsA.lift (H0 := d1.H) [3,4] rfl ⟨rfl,rfl,rfl,rfl,trivial⟩ rfl (tellFrac w0 d1 (by omega) (by omega) (by omega)) ?_
         rintro _ _ ⟨rfl,rfl⟩
         conv => whnf
         refine CallsA.lift (H0 := d1.H) [3,4] rfl ⟨rfl,rfl,rfl,rfl,trivial⟩ rfl (remaining w0 d1 hok) ?_
         rintro _ _ ⟨rfl,rfl⟩
         conv => whnf
         refine ⟨by omega,SeenV,encSeen,[],[ts],fun _ => rfl,⟨rfl,rfl,?_⟩,by simp only [List.length_cons,List.length_nil]; omega,by simp only [List.length_cons,List.length_nil]; omega,?_⟩
         · subst htells
           conv => whnf
           exact seen_cells (wrap_mod _) (wrap_mod _) rfl
         · subst htells
           conv => whnf
           refine ⟨⟨1,by omega⟩,?_,?_⟩
           · show EmbS 1 (decSt l d0 (0 + 1)) _
             rw [decSt_succ hafter hseen]
             refine ⟨[0,1,2,3,4,7],⟨rfl,⟨rfl,rfl,rfl,rfl,rfl,rfl,by rfl,rfl,by rfl,rfl,by rfl,rfl,trivial⟩,rfl⟩,rfl,rfl,rfl,rfl,rfl,?_,trivial⟩
             refine eq_i64 ?_
             rw [nadd,nwrapi (by omega)]
           · show l.length - 1 < l.length - 0
             omega
     · have := lt_f h1
       exact absurd (List.length_eq_zero_iff.1 (by omega)) hl
   · conv => whnf
     refine ⟨fun h1 => ?_,fun h1 => ?_⟩
     · have h1:k + 1 < l.length := lt_t h1
       obtain ⟨o,ho⟩:∃ o,l[k + 1]? = some o := ⟨_,List.getElem?_eq_getElem h1⟩
       have hink:(d0.after (l.take (k + 1))).inv (33 + 64 * (k + 1)) := by
         have hlk:(l.take (k + 1)).length = k + 1 := by rw [List.length_take]; omega
         have := Dec.after_inv (w0 := w0) (l := l.take (k + 1)) hinv (by rw [hlk]; omega) (fun x hx => (hg x (List.mem_of_mem_take hx)).1)
         rwa [hlk] at this
       have hssl:(d0.seen (l.take (k + 1))).length = k + 1 := by rw [Dec.seen_len,List.length_take]; omega
       generalize hdk:d0.after (l.take (k + 1)) = dk at *
       generalize hss:d0.seen (l.take (k + 1)) = ss at *
       obtain ⟨hgo,hgt⟩ := hg o (List.mem_of_getElem? ho)
       conv => whnf
       refine Or.inl ?_
       conv => whnf
       refine ⟨by omega,?_⟩
       conv => whnf
       refine ⟨o,ho,?_⟩
       conv => whnf
       refine Or.inr ⟨Unit,fun _ => midSt l (.vec 5 (k + 1)) [.vec true 95 encSeen [] 6 ss] (k + 1) 6 (dk.act o),?_,fun _ => ?_⟩
       · obtain ⟨act,oa,ob,oc,ov,otab,rows⟩ := o
         obtain ⟨a32,b32,c32,kind⟩ := hgo
         simp only at a32 b32 c32 kind
         rcases kind with ⟨rfl,h2,h3,h4⟩ | ⟨rfl,h2,h3⟩ | ⟨rfl,total,rest,ta,c,hr,ht,htab,hcell⟩ | ⟨rfl,h2⟩ | ⟨rfl,h2⟩ | ⟨rfl,h2,h3,h4⟩ | rfl
         · have hlo := hink.lo
           have hat := (dk.at_spec hink h2 (by omega)).1
           have hact:dk.act ⟨0,oa,ob,oc,ov,otab,rows⟩ = (((dk.at oc:Nat):Int),true,if oa ≤ dk.at oc ∧ dk.at oc < ob then (dk.cut (dk.rng / oc) oa ob oc).norm else dk.uni oc) := rfl
           conv => whnf
           refine ⟨fun _ => ?_,(fun h => by cases h)⟩
           conv => whnf
           refine CallsA.lift (H0 := dk.H) [3,4] rfl ⟨rfl,rfl,rfl,rfl,trivial⟩ rfl (cumulative w0 hink (n := oc) h2 (by omega)) ?_
           rintro _ _ ⟨rfl,rfl⟩
           conv => whnf
           refine Or.inl ?_
           conv => whnf
           have hno:¬ (oa ≤ dk.at oc ∧ dk.at oc < ob) → CallsA Tryz.prog w0 74 [.c (.ptr 0 0),.c (.val (.int .u32 (dk.at oc:Nat))),.c (.val (.int .u32 (IntKind.u32.wrap ((dk.at oc:Int) + ((1:Nat):Int))))),.c (.val (.int .u32 oc))] dk.H fun r H => r = .t [] ∧ H = (dk.act ⟨0,oa,ob,oc,ov,otab,rows⟩).2.2.H := by
             intro hc
             rw [hact,if_neg hc,nadd,nwrap32 (by omega)]
             exact updCumulative w0 hink (by omega) h2 (by omega) (Nat.le_refl _) (Nat.lt_succ_self _) hat
           have hyes:(oa ≤ dk.at oc ∧ dk.at oc < ob) → CallsA Tryz.prog w0 74 [.c (.ptr 0 0),.c (.val (.int .u32 oa)),.c (.val (.int .u32 ob)),.c (.val (.int .u32 oc))] dk.H fun r H => r = .t [] ∧ H = (dk.act ⟨0,oa,ob,oc,ov,otab,rows⟩).2.2.H := by
             intro hc
             rw [hact,if_pos hc]
             exact updCumulative w0 hink (by omega) h2 (by omega) hc.1 hc.2 h4
           have hval:(dk.act ⟨0,oa,ob,oc,ov,otab,rows⟩).1 = (dk.at oc:Nat) := rfl
           have hfine:(dk.act ⟨0,oa,ob,oc,ov,otab,rows⟩).2.1 = true := rfl
           generalize dk.act ⟨0,oa,ob,oc,ov,otab,rows⟩ = res at *
           refine ⟨fun h5 => ?_,fun h5 => ?_⟩
           · have h5:oa ≤ dk.at oc := le_t h5
             conv => whnf
             refine ⟨fun h6 => ?_,fun h6 => ?_⟩
             · have h6:dk.at oc < ob := lt_t h6
               conv => whnf
               refine CallsA.lift (H0 := dk.H) [3,4] rfl ⟨rfl,rfl,rfl,rfl,trivial⟩ rfl (hyes ⟨h5,h6⟩) ?_
               rintro _ _ ⟨rfl,rfl⟩
               conv => whnf
               refine ⟨(),[0,1,2,3,4,5,7],⟨rfl,⟨rfl,rfl,rfl,rfl,rfl,rfl,by rfl,rfl,by rfl,rfl,rfl,rfl,seen_eq ?_ hfine.symm,rfl,trivial⟩,rfl⟩,rfl,rfl,rfl,rfl,rfl,rfl,rfl,trivial⟩
               rw [hval]
               exact nwrapi (by omega)
             · have h6:ob ≤ dk.at oc := lt_f h6
               conv => whnf
               refine CallsA.lift (H0 := dk.H) [3,4] rfl ⟨rfl,rfl,rfl,rfl,trivial⟩ rfl (hno (by omega)) ?_
               rintro _ _ ⟨rfl,rfl⟩
               conv => whnf
               refine ⟨(),[0,1,2,3,4,5,7],⟨rfl,⟨rfl,rfl,rfl,rfl,rfl,rfl,by rfl,rfl,by rfl,rfl,rfl,rfl,seen_eq ?_ hfine.symm,rfl,trivial⟩,rfl⟩,rfl,rfl,rfl,rfl,rfl,rfl,rfl,trivial⟩
               rw [hval]
               exact nwrapi (by omega)
           · have h5:dk.at oc < oa := le_f h5
             conv => whnf
             refine CallsA.lift (H0 := dk.H) [3,4] rfl ⟨rfl,rfl,rfl,rfl,trivial⟩ rfl (hno (by omega)) ?_
             rintro _ _ ⟨rfl,rfl⟩
             conv => whnf
             refine ⟨(),[0,1,2,3,4,5,7],⟨rfl,⟨rfl,rfl,rfl,rfl,rfl,rfl,by rfl,rfl,by rfl,rfl,rfl,rfl,seen_eq ?_ hfine.symm,rfl,trivial⟩,rfl⟩,rfl,rfl,rfl,rfl,rfl,rfl,rfl,trivial⟩
             rw [hval]
             exact nwrapi (by omega)
         · conv => whnf
           refine ⟨(fun h => by cases h),fun _ => ?_⟩
           conv => whnf
           refine ⟨fun _ => ?_,(fun h => by cases h)⟩
           conv => whnf
           rw [nwrap64 (n := oa) (by omega)]
           refine CallsA.lift (H0 := dk.H) [3,4] rfl ⟨rfl,rfl,rfl,rfl,trivial⟩ rfl (logP w0 hink (by omega) (k := oa) h2 h3) ?_
           rintro _ _ ⟨rfl,rfl⟩
           have := logp_le dk oa
           conv => whnf
           refine ⟨(),[0,1,2,3,4,5,7],⟨rfl,⟨rfl,rfl,rfl,rfl,rfl,rfl,by rfl,rfl,by rfl,rfl,rfl,rfl,seen_eq ?_ rfl,rfl,trivial⟩,rfl⟩,rfl,rfl,rfl,rfl,rfl,rfl,rfl,trivial⟩
           exact nwrapi (by omega)
         · subst hr htab
           have hact:dk.act ⟨2,oa,ob,oc,ov,.slice (some ta) (total :: rest).length c,total :: rest⟩ = ((((dk.icdf total rest).1:Nat):Int),true,(dk.icdf total rest).2) := rfl
           have hk2 := (tabK_spec ht (dk.at_spec hink ht.lo ht.hi).1).1
           have hk3:(dk.icdf total rest).1 < rest.length := hk2
           have hrl := ht.len
           generalize dk.act ⟨2,oa,ob,oc,ov,.slice (some ta) (total :: rest).length c,total :: rest⟩ = res at *
           subst hact
           conv => whnf
           refine ⟨(fun h => by cases h),fun _ => ?_⟩
           conv => whnf
           refine ⟨(fun h => by cases h),fun _ => ?_⟩
           conv => whnf
           refine ⟨fun _ => ?_,(fun h => by cases h)⟩
           conv => whnf
           refine cL0 (tableW w0 (a := ta) (c := c) (tab := total :: rest) (by simp) (by simp only [List.length_cons]; omega) hcell) ?_
           rintro _ _ ⟨rfl,rfl⟩
           conv => whnf
           refine CallsA.lift (H0 := dk.H ++ [tabBlk total rest]) [3,4,8] rfl ⟨rfl,rfl,rfl,rfl,rfl,rfl,trivial⟩ rfl (symIcdf w0 hink (by omega) ht) ?_
           rintro _ _ ⟨rfl,rfl⟩
           conv => whnf
           refine ⟨(),[0,1,2,3,4,5,7],⟨rfl,⟨rfl,rfl,rfl,rfl,rfl,rfl,by rfl,rfl,by rfl,rfl,rfl,rfl,seen_eq ?_ rfl,rfl,trivial⟩,rfl⟩,rfl,rfl,rfl,rfl,rfl,rfl,rfl,trivial⟩
           exact nwrapi (by omega)
         · conv => whnf
           refine ⟨(fun h => by cases h),fun _ => ?_⟩
           conv => whnf
           refine ⟨(fun h => by cases h),fun _ => ?_⟩
           conv => whnf
           refine ⟨(fun h => by cases h),fun _ => ?_⟩
           conv => whnf
           refine ⟨fun _ => ?_,(fun h => by cases h)⟩
           conv => whnf
           refine CallsA.lift (H0 := dk.H) [3,4] rfl ⟨rfl,rfl,rfl,rfl,trivial⟩ rfl (uniform w0 hink (by omega) (n := oa) h2 a32) ?_
           rintro _ _ ⟨rfl,rfl⟩
           conv => whnf
           refine ⟨(),[0,1,2,3,4,5,7],⟨rfl,⟨rfl,rfl,rfl,rfl,rfl,rfl,by rfl,rfl,by rfl,rfl,rfl,rfl,seen_eq ?_ rfl,rfl,trivial⟩,rfl⟩,rfl,rfl,rfl,rfl,rfl,rfl,rfl,trivial⟩
           have := whole_lt dk (n := oa) (by omega)
           exact nwrapi (by omega)
         · conv => whnf
           refine ⟨(fun h => by cases h),fun _ => ?_⟩
           conv => whnf
           refine ⟨(fun h => by cases h),fun _ => ?_⟩
           conv => whnf
           refine ⟨(fun h => by cases h),fun _ => ?_⟩
           conv => whnf
           refine ⟨(fun h => by cases h),fun _ => ?_⟩
           conv => whnf
           refine ⟨fun _ => ?_,(fun h => by cases h)⟩
           conv => whnf
           rw [nwrap64 (n := oa) (by omega)]
           refine CallsA.lift (H0 := dk.H) [3,4] rfl ⟨rfl,rfl,rfl,rfl,trivial⟩ rfl (rawBits w0 hink (by omega) (n := oa) h2) ?_
           rintro _ _ ⟨rfl,rfl⟩
           have := dk.raw_lt oa
           have:2 ^ oa ≤ 2 ^ 32 := Nat.pow_le_pow_right (by omega) h2
           conv => whnf
           refine ⟨(),[0,1,2,3,4,5,7],⟨rfl,⟨rfl,rfl,rfl,rfl,rfl,rfl,by rfl,rfl,by rfl,rfl,rfl,rfl,seen_eq ?_ rfl,rfl,trivial⟩,rfl⟩,rfl,rfl,rfl,rfl,rfl,rfl,rfl,trivial⟩
           exact nwrapi (by omega)
         · conv => whnf
           refine ⟨(fun h => by cases h),fun _ => ?_⟩
           conv => whnf
           refine ⟨(fun h => by cases h),fun _ => ?_⟩
           conv => whnf
           refine ⟨(fun h => by cases h),fun _ => ?_⟩
           conv => whnf
           refine ⟨(fun h => by cases h),fun _ => ?_⟩
           conv => whnf
           refine ⟨(fun h => by cases h),fun _ => ?_⟩
           conv => whnf
           refine ⟨fun _ => ?_,(fun h => by cases h)⟩
           conv => whnf
           refine CallsA.lift (H0 := dk.H) [3,4] rfl ⟨rfl,rfl,rfl,rfl,trivial⟩ rfl (laplace w0 hink (by omega) h2 h3 h4) ?_
           rintro _ _ ⟨rfl,rfl⟩
           conv => whnf
           refine ⟨(),[0,1,2,3,4,5,7],⟨rfl,⟨rfl,rfl,rfl,rfl,rfl,rfl,by rfl,rfl,by rfl,rfl,rfl,rfl,seen_eq ?_ rfl,rfl,trivial⟩,rfl⟩,rfl,rfl,rfl,rfl,rfl,rfl,rfl,trivial⟩
           rfl
         · conv => whnf
           refine ⟨(fun h => by cases h),fun _ => ?_⟩
           conv => whnf
           refine ⟨(fun h => by cases h),fun _ => ?_⟩
           conv => whnf
           refine ⟨(fun h => by cases h),fun _ => ?_⟩
           conv => whnf
           refine ⟨(fun h => by cases h),fun _ => ?_⟩
           conv => whnf
           refine ⟨(fun h => by cases h),fun _ => ?_⟩
           conv => whnf
           refine ⟨(fun h => by cases h),fun _ => ?_⟩
           conv => whnf
           refine ⟨fun _ => ?_,(fun h => by cases h)⟩
           conv => whnf
           rw [nwrapi (n := oa) (by omega)]
           refine CallsA.lift (H0 := dk.H) [3,4] rfl ⟨rfl,rfl,rfl,rfl,trivial⟩ rfl (setSize w0 dk (n := oa) a32) ?_
           rintro _ _ ⟨rfl,hH⟩
           have hdd:dk.data.length ≤ oa → dk.size oa = dk := fun hs => by
             unfold Dec.size
             rw [List.take_of_length_le hs]
           have hres:(dk.act ⟨6,oa,ob,oc,ov,otab,rows⟩) = (0,true,dk.size oa) := rfl
           generalize dk.act ⟨6,oa,ob,oc,ov,otab,rows⟩ = res at *
           subst hres
           rcases hH with ⟨hs,rfl⟩ | ⟨hs,rfl⟩
           · rw [hdd hs]
             conv => whnf
             exact ⟨(),[0,1,2,3,4,5,7],⟨rfl,⟨rfl,rfl,rfl,rfl,rfl,rfl,by rfl,rfl,by rfl,rfl,rfl,rfl,rfl,rfl,trivial⟩,rfl⟩,rfl,rfl,rfl,rfl,rfl,rfl,rfl,trivial⟩
           · conv => whnf
             exact ⟨(),[0,1,2,3,8,5,7],⟨rfl,⟨rfl,rfl,rfl,rfl,rfl,rfl,by rfl,rfl,by rfl,rfl,rfl,rfl,rfl,rfl,trivial⟩,rfl⟩,rfl,rfl,rfl,rfl,rfl,rfl,rfl,trivial⟩
       · have hi2 := Dec.act_inv hink (by omega) hgo
         have hone := take_snoc' ho
         have hseen:d0.seen (l.take (k + 1 + 1)) = ss ++ [dk.tells o] := by rw [← hone,Dec.seen_snoc,hss,hdk]
         have hafter:d0.after (l.take (k + 1 + 1)) = (dk.act o).2.2 := by rw [← hone,Dec.after_snoc,hdk]
         have htells:dk.tells o = (dk.act o).2.2.told (dk.act o).1 (dk.act o).2.1 := rfl
         have h97 := hi2.nb
         have hlo := hi2.lo; have hhi := hi2.hi
         have hok := (hi2.pre (by omega)).ok
         generalize dk.tells o = ts at *
         generalize dk.act o = res at *
         obtain ⟨v,fine,d1⟩ := res
         simp only at hi2 hafter htells h97 hlo hhi hok
         have hlen2:(ss ++ [ts]).length = k + 1 + 1 := by rw [List.length_append,hssl]; rfl
         conv => whnf
         refine CallsA.lift (H0 := d1.H) [3,4] rfl ⟨rfl,rfl,rfl,rfl,trivial⟩ rfl (finalRange w0 d1) ?_
         rintro _ _ ⟨rfl,rfl⟩
         conv => whnf
         refine CallsA.lift (H0 := d1.H) [3,4] rfl ⟨rfl,rfl,rfl,rfl,trivial⟩ rfl (tell w0 d1 hok (by omega) (by omega)) ?_
         rintro _ _ ⟨rfl,rfl⟩
         conv => whnf
         refine CallsA.lift (H0 := d1.H) [3,4] rfl ⟨rfl,rfl,rfl,rfl,trivial⟩ rfl (tellFrac w0 d1 (by omega) (by omega) (by omega)) ?_
         rintro _ _ ⟨rfl,rfl⟩
         conv => whnf
         refine CallsA.lift (H0 := d1.H) [3,4] rfl ⟨rfl,rfl,rfl,rfl,trivial⟩ rfl (remaining w0 d1 hok) ?_
         rintro _ _ ⟨rfl,rfl⟩
         conv => whnf
         refine ⟨hssl.symm,[ts],⟨rfl,rfl,?_⟩,by rw [hlen2]; omega,by rw [hlen2]; omega,?_⟩
         · subst htells
           conv => whnf
           exact seen_cells (wrap_mod _) (wrap_mod _) rfl
         · conv => whnf
           refine ⟨⟨k + 2,by omega⟩,?_,?_⟩
           · show EmbS 1 (decSt l d0 (k + 1 + 1)) _
             rw [decSt_succ hafter hseen]
             refine ⟨[0,1,2,3,4,8],⟨rfl,⟨rfl,rfl,?_,rfl,rfl,rfl,by rfl,rfl,by rfl,rfl,by rfl,rfl,trivial⟩,rfl⟩,rfl,rfl,rfl,rfl,rfl,?_,trivial⟩
             · show some (Blk.cells 89 [.vec 8 (ss ++ [ts]).length]) = some (Blk.cells 89 [.vec 8 (k + 1 + 1)])
               rw [hlen2]
             · refine eq_i64 ?_
               rw [nadd,nwrapi (by omega)]
           · show l.length - (k + 2) < l.length - (k + 1)
             omega
     · have h1:l.length ≤ k + 1 := lt_f h1
       have hlk:l.length = k + 1 := by omega
       conv => whnf
       refine Or.inr ⟨[0,5],.t [.c (.vec 1 l.length),.c (.val (.int .i64 0))],[.vec true 131 encOp [] 6 l,.vec true 95 encSeen [] 6 (d0.seen l)],⟨rfl,⟨rfl,rfl,?_,rfl,trivial⟩,rfl⟩,?_,rfl,rfl⟩
       · have:l.take (k + 1) = l := List.take_of_length_le (by omega)
         show some (Blk.vec true 95 encSeen [] 6 (d0.seen (l.take (k + 1)))) = some (Blk.vec true 95 encSeen [] 6 (d0.seen l))
         rw [this]
       · rw [hlk]
         rfl
end Go.Proofs.YtokkphocaloelaaGreatDoor
end
section
namespace Go.Proofs.YtokkphocaloelaaGreatDoor
open Go Go.Vc
set_option maxRecDepth 100000
set_option maxHeartbeats 4000000

theorem bytesOf_len (b:ByteArray):(bytesOf b).length = b.size := by
 unfold bytesOf
 rw [List.length_map]
 rfl
theorem bytesOf_lt (b:ByteArray):∀ x ∈ bytesOf b,0 ≤ x ∧ x < 256 := by
 intro x hx
 unfold bytesOf at hx
 obtain ⟨y,_,rfl⟩ := List.mem_map.1 hx
 have := y.toNat_lt
 omega
end Go.Proofs.YtokkphocaloelaaGreatDoor
end

end
section
namespace Go.Vc
open Go.RowKit (Below)

theorem Ghost.refl (w0:World) (H:List Blk):Ghost w0 H H := fun ρ w h => ⟨[],by rw [List.append_nil]; exact h,fun g hg => by rwa [List.append_nil] at hg⟩
theorem Ghost.trans {w0:World} {H H1 H2:List Blk} (h1:Ghost w0 H H1) (h2:Ghost w0 H1 H2):Ghost w0 H H2 := fun ρ w h => by
 obtain ⟨t,a,b⟩ := h1 ρ w h
 obtain ⟨u,c,d⟩ := h2 (ρ ++ t) w a
 rw [List.append_assoc] at c d
 exact ⟨t ++ u,c,fun g hg => b g (d g hg)⟩
theorem push_get {H:List Blk} {k:Blk} {b:Nat} {q:Blk} (hq:(H ++ [k])[b]? = some q):(b < H.length ∧ H[b]? = some q) ∨ (b = H.length ∧ q = k) := by
 rcases Nat.lt_or_ge b H.length with hb | hb
 · rw [List.getElem?_append_left hb] at hq; exact .inl ⟨hb,hq⟩
 · have hb2:b < (H ++ [k]).length := (List.getElem?_eq_some_iff.1 hq).1
   have:b = H.length := by simp at hb2; omega
   subst this
   simp at hq
   exact .inr ⟨rfl,hq.symm⟩
theorem Ghost.fam0 (w0:World) (H:List Blk) {α:Type} (T:TypeId) (e:Enc α) (wd:Nat) (h0:0 < wd) (hl:∀ x,(e.f [] x).length = wd):Ghost w0 H (H ++ [.fam T e wd []]) := fun ρ w h => by
 have hnone:∀ g,¬ owns (none,0) g := by
   rintro g (h | ⟨_,ms,c,h1,h2⟩)
   · cases h
   · have := encM_inj (a := ms) (b := []) h1
     subst this
     cases h2
 have hown:∀ b q g,(H ++ [.fam T e wd []])[b]? = some q → Ren.own (ρ ++ [(none,0)]) b g → b < H.length ∧ H[b]? = some q ∧ ρ.own b g := by
   intro b q g hq hg
   rcases push_get hq with ⟨h1,h2⟩ | ⟨h1,_⟩
   · rw [own_append (by rw [h.len]; exact h1)] at hg
     exact ⟨h1,h2,hg⟩
   · rw [h1,← h.len,own_last] at hg
     exact absurd hg (hnone g)
 have himg:∀ g,image (ρ ++ [(none,0)]) (H ++ [.fam T e wd []]) g → image ρ H g := by
   rintro g ⟨b,q,hq,hl,hg⟩
   obtain ⟨_,h2,h3⟩ := hown b q g hq hg
   exact ⟨b,q,h2,hl,h3⟩
 refine ⟨[(none,0)],⟨by simp [h.len],fun b q e1 hq he => ?_,fun b b' k k' g hb hb' l l' a a' => ?_,fun g hg => h.lo g (himg g hg),h.base⟩,himg⟩
 · rcases push_get hq with ⟨h1,h2⟩ | ⟨h1,rfl⟩
   · rw [List.getElem?_append_left (by rw [h.len]; exact h1)] at he
     exact (h.ok b q e1 h2 he).more _
   · rw [h1,← h.len] at he
     simp at he
     subst he
     exact ⟨h0,hl,rfl,[],rfl,rfl,fun i j m m' g hi => by simp at hi,fun j m xs hj => by simp at hj⟩
 · obtain ⟨_,h2,h3⟩ := hown b k g hb a
   obtain ⟨_,h2',h3'⟩ := hown b' k' g hb' a'
   exact h.inj b b' k k' g h2 h2' l l' h3 h3'
def tau (f i nf J:Nat):CV → CV
 | .mem b j n => bif Nat.beq b f then .mem nf j n else .mem b j n
 | .vec b n => bif Nat.beq b i then .mem nf J n else .vec b n
 | .mrow b j wd k o => bif Nat.beq b f then .mrow nf j wd k o else .mrow b j wd k o
 | .row b wd k o => bif Nat.beq b i then .mrow nf J wd k o else .row b wd k o
 | x => x
def reK (f i nf J b:Nat) (k k1:Blk):Prop :=
 k1 = .dead ∨ (b ≠ f ∧ b ≠ i ∧ (k1 = k ∨ (∃ T cs,k = .cells T cs ∧ k1 = .cells T (cs.map (tau f i nf J))) ∨
   ∃ (α β:Type) (wr:Bool) (T:TypeId) (e1:Enc α) (bs1:List Nat) (xs1:List α) (e2:Enc β) (bs2:List Nat) (xs2:List β) (wd:Nat),
     k = .vec wr T e1 bs1 wd xs1 ∧ k1 = .vec wr T e2 bs2 wd xs2 ∧ xs2.length = xs1.length ∧ (∀ x,(e2.f bs2 x).length = wd) ∧ flat e2 bs2 xs2 = (flat e1 bs1 xs1).map (tau f i nf J)))
theorem All2.map_cv {ρ ρ':Ren} {f:CV → CV} (hf:∀ c v,c.R ρ v → (f c).R ρ' v):∀ {l:List CV} {vs:List Value},All2 (CV.R ρ) l vs → All2 (CV.R ρ') (l.map f) vs
 | _,_,.nil => .nil
 | _,_,.cons h r => .cons (hf _ _ h) (All2.map_cv hf r)
theorem Ghost.join {w0:World} {H H1:List Blk} {α:Type} {T:TypeId} {e:Enc α} {wd:Nat} {xss:List (List α)} {wr:Bool} {zs:List α} {f i:Nat} (hf:H[f]? = some (.fam T e wd xss)) (hi:H[i]? = some (.vec wr T e [] wd zs))
   (hlen:H1.length = H.length) (hre:∀ (b:Nat) k,H[b]? = some k → ∃ k1,H1[b]? = some k1 ∧ reK f i H.length xss.length b k k1):Ghost w0 H (H1 ++ [.fam T e wd (xss ++ [zs])]) := fun ρ w h => by
 have hfi:f ≠ i := by
   rintro rfl
   rw [hf] at hi
   cases hi
 obtain ⟨ef,hef,h0,hw,h1,ms,h2,h3,h4,h5⟩ := h.get hf
 obtain ⟨ei,hei,_,_,h6⟩ := h.get hi
 have hei1:∀ g,ei.1 = some g → ρ.own i g := fun g hg => own_of hei (.inl hg)
 have hfm:∀ (j:Nat) m g,ms[j]? = some m → m.1 = some g → ρ.own f g := fun j m g hj hm => own_of hef (.inr ⟨h1,ms,m.2,h2,by rw [← hm]; exact List.mem_of_getElem? hj⟩)
 have hH1:∀ (b:Nat) k1,H1[b]? = some k1 → ∃ k,H[b]? = some k ∧ reK f i H.length xss.length b k k1 := by
   intro b k1 hb
   have hlt:b < H.length := by rw [← hlen]; exact (List.getElem?_eq_some_iff.1 hb).1
   obtain ⟨k1',hk1,hr⟩ := hre b _ (List.getElem?_eq_getElem hlt)
   rw [hb] at hk1
   cases hk1
   exact ⟨_,List.getElem?_eq_getElem hlt,hr⟩
 have hlive:∀ (b:Nat) k k1,reK f i H.length xss.length b k k1 → k1.live = true → b ≠ f ∧ b ≠ i ∧ k.live = true := by
   intro b k k1 hr hl
   rcases hr with rfl | ⟨a,c,hr⟩
   · cases hl
   · refine ⟨a,c,?_⟩
     rcases hr with rfl | ⟨T,cs,rfl,rfl⟩ | ⟨α,β,wr,T,e1,bs1,xs1,e2,bs2,xs2,wd,rfl,rfl,_⟩
     · exact hl
     · rfl
     · rfl
 obtain ⟨e',he'⟩:∃ e',e' = ((none:Option Nat),encM (ms ++ [ei])) := ⟨_,rfl⟩
 have hnew:∀ g,owns e' g → ρ.own f g ∨ ρ.own i g := by
   rintro g (hg | ⟨_,ms',c,hm,hc⟩)
   · rw [he'] at hg; cases hg
   · rw [he'] at hm
     have := encM_inj hm
     subst this
     rcases List.mem_append.1 hc with hc | hc
     · exact .inl (own_of hef (.inr ⟨h1,ms,c,h2,hc⟩))
     · have:(some g,c) = ei := by simpa using hc
       exact .inr (hei1 g (by rw [← this]))
 have hat:∀ b:Nat,b < H.length → Ren.own (ρ ++ [e']) b = ρ.own b := fun b hb => own_append (by rw [h.len]; exact hb)
 have hlast:Ren.own (ρ ++ [e']) H.length = owns e' := by rw [← h.len]; exact own_last
 have himg:∀ g,image (ρ ++ [e']) (H1 ++ [.fam T e wd (xss ++ [zs])]) g → image ρ H g := by
   rintro g ⟨b,q,hq,hl,hg⟩
   rcases push_get hq with ⟨q1,q2⟩ | ⟨q1,_⟩
   · obtain ⟨k,hk,hr⟩ := hH1 b q q2
     rw [hat b (by omega)] at hg
     exact ⟨b,k,hk,(hlive b k q hr hl).2.2,hg⟩
   · rw [q1,hlen,hlast] at hg
     rcases hnew g hg with hg | hg
     · exact ⟨f,_,hf,rfl,hg⟩
     · exact ⟨i,_,hi,rfl,hg⟩
 have hget:(ρ ++ [e'])[H.length]? = some e' := by rw [← h.len]; simp
 have hτ:∀ c v,CV.R ρ c v → (tau f i H.length xss.length c).R (ρ ++ [e']) v := by
   intro c v hc
   cases c with
   | mem b j n =>
     simp only [tau]
     cases hb:Nat.beq b f with
     | false => exact CV.R.more [e'] hc
     | true =>
       have := Nat.eq_of_beq_eq_true hb
       subst this
       obtain ⟨e1,ms',m,g1,g2,g3,g4⟩ := hc
       rw [hef] at g1
       cases g1
       have := encM_inj (g2.trans h2.symm)
       subst this
       exact ⟨e',ms' ++ [ei],m,hget,by rw [he'],getElem?_app g3,g4⟩
   | vec b n =>
     simp only [tau]
     cases hb:Nat.beq b i with
     | false => exact CV.R.more [e'] hc
     | true =>
       have := Nat.eq_of_beq_eq_true hb
       subst this
       obtain ⟨e1,g1,g2⟩ := hc
       rw [hei] at g1
       cases g1
       exact ⟨e',ms ++ [ei],ei,hget,by rw [he'],by rw [← h3]; simp,g2⟩
   | mrow b j wd2 k o =>
     simp only [tau]
     cases hb:Nat.beq b f with
     | false => exact CV.R.more [e'] hc
     | true =>
       have := Nat.eq_of_beq_eq_true hb
       subst this
       obtain ⟨e1,ms',m,g,g1,g2,g3,g4⟩ := hc
       rw [hef] at g1
       cases g1
       have := encM_inj (g2.trans h2.symm)
       subst this
       exact ⟨e',ms' ++ [ei],m,g,hget,by rw [he'],getElem?_app g3,g4⟩
   | row b wd2 k o =>
     simp only [tau]
     cases hb:Nat.beq b i with
     | false => exact CV.R.more [e'] hc
     | true =>
       have := Nat.eq_of_beq_eq_true hb
       subst this
       obtain ⟨g,g1,g2⟩ := hc
       rw [at_of_get hei] at g1
       exact ⟨e',ms ++ [ei],ei,g,hget,by rw [he'],by rw [← h3]; simp,g1,g2⟩
   | _ => exact CV.R.more [e'] hc
 refine ⟨[e'],⟨by simp [h.len,hlen],fun b q e1 hq he => ?_,fun b b' k k' g hb hb' l l' a a' => ?_,fun g hg => h.lo g (himg g hg),h.base⟩,himg⟩
 · rcases push_get hq with ⟨q1,q2⟩ | ⟨q1,rfl⟩
   · obtain ⟨k,hk,hr⟩ := hH1 b q q2
     rw [List.getElem?_append_left (by rw [h.len,← hlen]; exact q1)] at he
     have hok := h.ok b k e1 hk he
     rcases hr with rfl | ⟨a,c,hr⟩
     · trivial
     · rcases hr with rfl | ⟨T,cs,rfl,rfl⟩ | ⟨α,β,wr,T,en1,bs1,xs1,en2,bs2,xs2,wd,rfl,rfl,hxl,hw2,hfl⟩
       · exact hok.more _
       · obtain ⟨g,arr,r1,r2,r3⟩ := hok
         exact ⟨g,arr,r1,r2,All2.map_cv hτ r3⟩
       · obtain ⟨r0,r1,r2⟩ := hok
         refine ⟨r0,hw2,?_⟩
         rcases r2 with ⟨r2,r3,r4⟩ | ⟨g,arr,fz,r2,r3,r4,r5,r6,⟨sp,r7,r8⟩,r9⟩
         · refine .inl ⟨r2,?_,r4⟩
           rw [r3] at hxl
           exact List.length_eq_zero_iff.1 hxl
         · refine .inr ⟨g,arr,fz,r2,r3,r4,by rw [hxl]; exact r5,r6,⟨sp,?_,r8⟩,r9⟩
           have := All2.map_cv hτ r7
           rw [List.map_append,← hfl] at this
           have hsp:sp.map (tau f i H.length xss.length) = sp := by
             conv => rhs; rw [← List.map_id sp]
             exact List.map_congr_left fun x hx => by rw [r8 x hx]; rfl
           rw [hsp] at this
           exact this
   · rw [q1,hlen,hget] at he
     cases he
     refine ⟨h0,hw,by rw [he'],ms ++ [ei],by rw [he'],by simp [h3],fun j j' m m' g hj hj' hm hm' => ?_,fun j m xs hj hx => ?_⟩
     · rcases Nat.lt_or_ge j ms.length with c | c <;> rcases Nat.lt_or_ge j' ms.length with c' | c'
       · rw [List.getElem?_append_left c] at hj
         rw [List.getElem?_append_left c'] at hj'
         exact h4 j j' m m' g hj hj' hm hm'
       · rw [List.getElem?_append_left c] at hj
         have e2:j' = ms.length := by have := (List.getElem?_eq_some_iff.1 hj').1; simp at this; omega
         subst e2
         simp at hj'
         subst hj'
         exact absurd (h.inj f i _ _ g hf hi rfl rfl (hfm j m g hj hm) (hei1 g hm')) hfi
       · rw [List.getElem?_append_left c'] at hj'
         have e2:j = ms.length := by have := (List.getElem?_eq_some_iff.1 hj).1; simp at this; omega
         subst e2
         simp at hj
         subst hj
         exact absurd (h.inj f i _ _ g hf hi rfl rfl (hfm j' m' g hj' hm') (hei1 g hm)) hfi
       · have e1 := (List.getElem?_eq_some_iff.1 hj).1
         have e2 := (List.getElem?_eq_some_iff.1 hj').1
         simp at e1 e2
         omega
     · rcases Nat.lt_or_ge j ms.length with c | c
       · rw [List.getElem?_append_left c] at hj
         rw [List.getElem?_append_left (by omega)] at hx
         rcases h5 j m xs hj hx with r | ⟨g,arr,fz,r1,r2,r3,r4,r5,sp,r6,r7⟩
         · exact .inl r
         · exact .inr ⟨g,arr,fz,r1,r2,r3,r4,r5,sp,r6.mono fun _ _ => CV.R.more _,r7⟩
       · have e1:j = ms.length := by have := (List.getElem?_eq_some_iff.1 hj).1; simp at this; omega
         subst e1
         simp at hj
         subst hj
         rw [h3] at hx
         simp at hx
         subst hx
         rcases h6 with r | ⟨g,arr,fz,r1,r2,r3,r4,r5,⟨sp,r6,r7⟩,_⟩
         · exact .inl r
         · exact .inr ⟨g,arr,fz,r1,r2,r3,r4,r5,sp,r6.mono fun _ _ => CV.R.more _,r7⟩
 · have hcase:∀ (b:Nat) k,(H1 ++ [.fam T e wd (xss ++ [zs])])[b]? = some k → k.live = true → Ren.own (ρ ++ [e']) b g → (b < H.length ∧ b ≠ f ∧ b ≠ i ∧ ∃ k0,H[b]? = some k0 ∧ k0.live = true ∧ ρ.own b g) ∨ (b = H.length ∧ (ρ.own f g ∨ ρ.own i g)) := by
     intro b k hb l a
     rcases push_get hb with ⟨q1,q2⟩ | ⟨q1,_⟩
     · obtain ⟨k0,hk,hr⟩ := hH1 b k q2
       rw [hat b (by omega)] at a
       obtain ⟨r1,r2,r3⟩ := hlive b k0 k hr l
       exact .inl ⟨by omega,r1,r2,k0,hk,r3,a⟩
     · rw [q1,hlen,hlast] at a
       exact .inr ⟨by omega,hnew g a⟩
   rcases hcase b k hb l a with ⟨r1,r2,r3,k0,r4,r5,r6⟩ | ⟨r1,r2⟩ <;> rcases hcase b' k' hb' l' a' with ⟨t1,t2,t3,k0',t4,t5,t6⟩ | ⟨t1,t2⟩
   · exact h.inj b b' k0 k0' g r4 t4 r5 t5 r6 t6
   · rcases t2 with t2 | t2
     · exact absurd (h.inj b f k0 _ g r4 hf r5 rfl r6 t2) r2
     · exact absurd (h.inj b i k0 _ g r4 hi r5 rfl r6 t2) r3
   · rcases r2 with r2 | r2
     · exact absurd (h.inj b' f k0' _ g t4 hf t5 rfl t6 r2) t2
     · exact absurd (h.inj b' i k0' _ g t4 hi t5 rfl t6 r2) t3
   · omega
def reL (f i nf J:Nat):Nat → List Blk → List Blk → Prop
 | _,[],[] => True
 | b,k :: r,k1 :: r1 => reK f i nf J b k k1 ∧ reL f i nf J (b + 1) r r1
 | _,_,_ => False
theorem reL_spec {f i nf J:Nat}:∀ {n:Nat} {H H1:List Blk},reL f i nf J n H H1 → H1.length = H.length ∧ ∀ (b:Nat) k,H[b]? = some k → ∃ k1,H1[b]? = some k1 ∧ reK f i nf J (n + b) k k1
 | _,[],[],_ => ⟨rfl,fun b k h => by simp at h⟩
 | n,k :: r,k1 :: r1,⟨h1,h2⟩ => by
   obtain ⟨h3,h4⟩ := reL_spec h2
   refine ⟨by simp [h3],fun b q hb => ?_⟩
   cases b with
   | zero => simp at hb; subst hb; exact ⟨k1,rfl,h1⟩
   | succ b =>
     obtain ⟨q1,g1,g2⟩ := h4 b q (by simpa using hb)
     exact ⟨q1,by simpa using g1,by rw [show n + (b + 1) = n + 1 + b by omega]; exact g2⟩
theorem Ghost.joinL {w0:World} {H H1:List Blk} {α:Type} {T:TypeId} {e:Enc α} {wd:Nat} {xss:List (List α)} {wr:Bool} {zs:List α} (f i:Nat) (hf:H[f]? = some (.fam T e wd xss)) (hi:H[i]? = some (.vec wr T e [] wd zs))
   (hre:reL f i H.length xss.length 0 H H1):Ghost w0 H (H1 ++ [.fam T e wd (xss ++ [zs])]) := by
 obtain ⟨h1,h2⟩ := reL_spec hre
 refine Ghost.join hf hi h1 fun b k hb => ?_
 obtain ⟨k1,h3,h4⟩ := h2 b k hb
 rw [Nat.zero_add] at h4
 exact ⟨k1,h3,h4⟩
theorem reK.keep {f i nf J b:Nat} {k:Blk} (h1:b ≠ f) (h2:b ≠ i):reK f i nf J b k k := .inr ⟨h1,h2,.inl rfl⟩
theorem reK.dead {f i nf J b:Nat} {k:Blk}:reK f i nf J b k .dead := .inl rfl
theorem reK.cells {f i nf J b:Nat} {T:TypeId} {cs cs1:List CV} (h1:b ≠ f) (h2:b ≠ i) (h:cs.map (tau f i nf J) = cs1):reK f i nf J b (.cells T cs) (.cells T cs1) := .inr ⟨h1,h2,.inr (.inl ⟨T,cs,rfl,by rw [h]⟩)⟩
theorem reK.vec {f i nf J b:Nat} {α β:Type} {wr:Bool} {T:TypeId} {e1:Enc α} {bs1:List Nat} {xs1:List α} {e2:Enc β} {bs2:List Nat} {xs2:List β} {wd:Nat} (h1:b ≠ f) (h2:b ≠ i) (h3:xs2.length = xs1.length) (h4:∀ x,(e2.f bs2 x).length = wd) (h5:flat e2 bs2 xs2 = (flat e1 bs1 xs1).map (tau f i nf J)) :
   reK f i nf J b (.vec wr T e1 bs1 wd xs1) (.vec wr T e2 bs2 wd xs2) := .inr ⟨h1,h2,.inr (.inr ⟨α,β,wr,T,e1,bs1,xs1,e2,bs2,xs2,wd,rfl,rfl,h3,h4,h5⟩)⟩
def theta (i nf wd:Nat):CV → CV
 | .ptr b o => bif Nat.beq b i then .row nf wd 0 o else .ptr b o
 | x => x
def reC (i nf wd b:Nat) (k k1:Blk):Prop :=
 k1 = .dead ∨ (b ≠ i ∧ (k1 = k ∨ ∃ T cs,k = .cells T cs ∧ k1 = .cells T (cs.map (theta i nf wd))))
def reCL (i nf wd:Nat):Nat → List Blk → List Blk → Prop
 | _,[],[] => True
 | b,k :: r,k1 :: r1 => reC i nf wd b k k1 ∧ reCL i nf wd (b + 1) r r1
 | _,_,_ => False
theorem reCL_spec {i nf wd:Nat}:∀ {n:Nat} {H H1:List Blk},reCL i nf wd n H H1 → H1.length = H.length ∧ ∀ (b:Nat) k1,H1[b]? = some k1 → ∃ k,H[b]? = some k ∧ reC i nf wd (n + b) k k1
 | _,[],[],_ => ⟨rfl,fun b k h => by simp at h⟩
 | n,k :: r,k1 :: r1,⟨h1,h2⟩ => by
   obtain ⟨h3,h4⟩ := reCL_spec h2
   refine ⟨by simp [h3],fun b q hb => ?_⟩
   cases b with
   | zero => simp at hb; subst hb; exact ⟨k,rfl,h1⟩
   | succ b =>
     obtain ⟨q1,g1,g2⟩ := h4 b q (by simpa using hb)
     exact ⟨q1,by simpa using g1,by rw [show n + (b + 1) = n + 1 + b by omega]; exact g2⟩
theorem Ghost.cellsRow {w0:World} {H H1:List Blk} {α:Type} {T:TypeId} {cs:List CV} (i:Nat) (e:Enc α) (bs:List Nat) (wd:Nat) (x:α) (hi:H[i]? = some (.cells T cs)) (h0:0 < wd) (hw:∀ x,(e.f bs x).length = wd) (hx:e.f bs x = cs)
   (hre:reCL i H.length wd 0 H H1):Ghost w0 H (H1 ++ [.vec true T e bs wd [x]]) := fun ρ w h => by
 obtain ⟨ei,hei,g0,arr,k1,k2,k3⟩ := h.get hi
 obtain ⟨hlen,hre⟩ := reCL_spec hre
 have hog:ρ.own i g0 := own_of hei (.inl k1)
 obtain ⟨e',he'⟩:∃ e',e' = (some g0,1) := ⟨_,rfl⟩
 have hnew:∀ g,owns e' g → g = g0 := by
   rintro g (hg | ⟨hg,_⟩)
   · rw [he'] at hg; cases hg; rfl
   · rw [he'] at hg; cases hg
 have hat:∀ b:Nat,b < H.length → Ren.own (ρ ++ [e']) b = ρ.own b := fun b hb => own_append (by rw [h.len]; exact hb)
 have hlast:Ren.own (ρ ++ [e']) H.length = owns e' := by rw [← h.len]; exact own_last
 have hlive:∀ (b:Nat) k k1,reC i H.length wd b k k1 → k1.live = true → b ≠ i ∧ k.live = true := by
   intro b k k1 hr hl
   rcases hr with rfl | ⟨a,hr⟩
   · cases hl
   · refine ⟨a,?_⟩
     rcases hr with rfl | ⟨T,cs,rfl,rfl⟩
     · exact hl
     · rfl
 have hold:∀ (b:Nat) k,(H1 ++ [.vec true T e bs wd [x]])[b]? = some k → k.live = true → ∀ g,Ren.own (ρ ++ [e']) b g → (b < H.length ∧ b ≠ i ∧ ∃ k0,H[b]? = some k0 ∧ k0.live = true ∧ ρ.own b g) ∨ (b = H.length ∧ g = g0) := by
   intro b k hb l g a
   rcases push_get hb with ⟨q1,q2⟩ | ⟨q1,_⟩
   · obtain ⟨k0,hk,hr⟩ := hre b k q2
     rw [Nat.zero_add] at hr
     rw [hat b (by omega)] at a
     obtain ⟨r1,r2⟩ := hlive b k0 k hr l
     exact .inl ⟨by omega,r1,k0,hk,r2,a⟩
   · rw [q1,hlen,hlast] at a
     exact .inr ⟨by omega,hnew g a⟩
 have himg:∀ g,image (ρ ++ [e']) (H1 ++ [.vec true T e bs wd [x]]) g → image ρ H g := by
   rintro g ⟨b,q,hq,hl,hg⟩
   rcases hold b q hq hl g hg with ⟨_,_,k0,r1,r2,r3⟩ | ⟨_,rfl⟩
   · exact ⟨b,k0,r1,r2,r3⟩
   · exact ⟨i,_,hi,rfl,hog⟩
 have hget:(ρ ++ [e'])[H.length]? = some e' := by rw [← h.len]; simp
 have hτ:∀ c v,CV.R ρ c v → (theta i H.length wd c).R (ρ ++ [e']) v := by
   intro c v hc
   cases c with
   | ptr b o =>
     simp only [theta]
     cases hb:Nat.beq b i with
     | false => exact CV.R.more [e'] hc
     | true =>
       have := Nat.eq_of_beq_eq_true hb
       subst this
       obtain ⟨g,g1,g2⟩ := hc
       rw [at_of_get hei,k1] at g1
       cases g1
       exact ⟨g0,by rw [at_of_get hget,he'],by rw [g2,Nat.zero_mul,Nat.zero_add]⟩
   | _ => exact CV.R.more [e'] hc
 have hsz:arr.size = wd := by rw [← Array.length_toList,← k3.length,← hx]; exact hw x
 refine ⟨[e'],⟨by simp [h.len,hlen],fun b q e1 hq he => ?_,fun b b' k k' g hb hb' l l' a a' => ?_,fun g hg => h.lo g (himg g hg),h.base⟩,himg⟩
 · rcases push_get hq with ⟨q1,q2⟩ | ⟨q1,rfl⟩
   · obtain ⟨k,hk,hr⟩ := hre b q q2
     rw [List.getElem?_append_left (by rw [h.len,← hlen]; exact q1)] at he
     have hok := h.ok b k e1 hk he
     rcases hr with rfl | ⟨_,rfl | ⟨T,cs,rfl,rfl⟩⟩
     · trivial
     · exact hok.more _
     · obtain ⟨g,arr,r1,r2,r3⟩ := hok
       exact ⟨g,arr,r1,r2,All2.map_cv hτ r3⟩
   · rw [q1,hlen,hget] at he
     cases he
     refine ⟨h0,hw,.inr ⟨g0,arr,(0,0),by rw [he'],k2,by rw [he',hsz,Nat.one_mul],by rw [he']; exact Nat.le_refl 1,by rw [he']; exact (by decide:(1:Nat) ≤ 9223372036854775807),⟨[],?_,fun y hy => by simp at hy⟩,fun _ => rfl⟩⟩
     have:flat e bs [x] ++ [] = cs := by simp [flat,hx]
     rw [this]
     exact k3.mono fun _ _ => CV.R.more _
 · rcases hold b k hb l g a with ⟨r1,r2,k0,r4,r5,r6⟩ | ⟨r1,r2⟩ <;> rcases hold b' k' hb' l' g a' with ⟨t1,t2,k0',t4,t5,t6⟩ | ⟨t1,t2⟩
   · exact h.inj b b' k0 k0' g r4 t4 r5 t5 r6 t6
   · subst t2
     exact absurd (h.inj b i k0 _ g r4 hi r5 rfl r6 hog) r2
   · subst r2
     exact absurd (h.inj b' i k0' _ g t4 hi t5 rfl t6 hog) t2
   · omega
def encF:Enc (Nat × Nat) := ⟨fun bs x => match bs with | [b] => [.mem b x.1 x.2] | _ => [.val (.slice none 0 0)],fun σ bs bs' x hl hk => by
 match bs,bs',hl with
 | [],[],_ => rfl
 | [b],[b'],_ =>
   have := hk 0 (by simp)
   simp only [List.getD_cons_zero] at this
   simp only [List.map_cons,CV.ren,this,List.map_nil]
 | b :: c :: r,b' :: c' :: r',_ => rfl⟩
theorem encF_len (bs:List Nat) (x:Nat × Nat):(encF.f bs x).length = 1 := by
 unfold encF
 simp only
 split <;> rfl
def turns (ls:List Nat):List (Nat × Nat) := ls.zipIdx.map fun x => (x.2,x.1)
theorem turns_len (ls:List Nat):(turns ls).length = ls.length := by simp [turns]
theorem turns_get (ls:List Nat) (i:Nat):(turns ls)[i]? = ls[i]?.map fun n => (i,n) := by
 unfold turns
 rw [List.getElem?_map,List.getElem?_zipIdx]
 cases ls[i]? <;> simp
theorem turns_snoc (ls:List Nat) (n:Nat):turns (ls ++ [n]) = turns ls ++ [(ls.length,n)] := by simp [turns,List.zipIdx_append]
theorem flat_turns (f:Nat) (l:List (Nat × Nat)):flat encF [f] l = l.map fun x => CV.mem f x.1 x.2 := by
 unfold flat
 induction l with
 | nil => rfl
 | cons x r ih => rw [List.flatMap_cons,ih]; rfl
theorem flat_tau (f i nf J:Nat) (l:List (Nat × Nat)):(flat encF [f] l).map (tau f i nf J) = flat encF [nf] l := by
 rw [flat_turns,flat_turns,List.map_map]
 apply List.map_congr_left
 intro x _
 show (bif Nat.beq f f then CV.mem nf x.1 x.2 else CV.mem f x.1 x.2) = _
 rw [Nat.beq_refl]
 rfl
end Go.Vc

end
section
namespace Go.Proofs.YtokkphocaloelaaGreatDoor
open Go Go.Vc
set_option maxRecDepth 100000
theorem c8_:compF Tryz.prog 8 = some (.mk (sr [gg 1 (.box 25 (.t 0)),gg 2 (.mov (.k (.bool false)))] (.cut (sr [gg 3 (.ffa (.t 1) 8),gg 4 (.ld (.t 3) none),gg 5 (.len true (.t 4)),gg 6 (.bin .gtr (.t 5) (xk .i64 2147483647))] (.cond (.t 6) (sr [gg 2 (.mov (.k (.bool false)))] .ret) .skip)) (.cut (sr [gg 7 (.ffa (.t 1) 9),gg 8 (.ld (.t 7) none),gg 9 (.len false (.t 8)),gg 10 (.bin .gtr (.t 9) (xk .i64 2147483647))] (.cond (.t 10) (sr [gg 2 (.mov (.k (.bool false)))] .ret) .skip)) (sr [gg 2 (.mov (.k (.bool true)))] .ret)))) 1 [(.t 2)]) := by kernel_rfl
theorem c9_:compF Tryz.prog 9 = some (.mk (sr [gg 2 (.mov (.k (.bool false)))] (.cut (sr [gm 5 0,gg 6 (.len false (.t 5)),gg 7 (.bin .gtr (.t 6) (xk .i64 2147483647))] (.cond (.t 7) (sr [gg 2 (.mov (.k (.bool false)))] .ret) .skip)) (.cut (sr [gm 8 0,gg 9 (.len false (.t 8)),gg 10 (.mov (xk .i64 0))] (.block 0 (.loop (sr [gg 11 (.bin .lss (.t 10) (.t 9))] (.seq (.cond (.t 11) .skip (.exit 0)) (.cut (.block 1 (sr [gg 12 (.ia (.t 8) (.t 10) 6),gg 13 (.ld (.t 12) (some 6)),gg 4 (.alc 57 [(.int .u32 ((0:Nat):Int)),(.int .u32 ((0:Nat):Int)),(.int .u64 ((0:Nat):Int)),(.int .i64 ((0:Nat):Int)),(.slice none 0 0),(.bool false)]),(G.mk none none (.st (.t 4) (.t 13) 6))] (sr [gg 14 (.ld (.t 4) (some 6)),gg 15 (.call 24 [(.t 14)]),gg 16 (.un .not (.t 15))] (.cond (.t 16) (sr [gg 2 (.mov (.k (.bool false)))] .ret) .skip)))) (.reg [gg 17 (.bin .add (.t 10) (xk .i64 1)),gm 10 17]))))))) (sr [gg 2 (.mov (.k (.bool true)))] .ret)))) 1 [(.t 2)]) := by kernel_rfl
theorem c10_:compF Tryz.prog 10 = some (.mk (sr [gg 2 (.box 25 (.t 0)),gg 4 (.mov (.k (.string (ByteArray.mk #[])))),gg 5 (.mov (.k (.string (ByteArray.mk #[])))),gg 6 (.mov (.k (.bool false)))] (.cut (sr [gm 11 1,gg 12 (.len false (.t 11)),gg 13 (.mov (xk .i64 0))] (.block 0 (.loop (sr [gg 14 (.bin .lss (.t 13) (.t 12))] (.seq (.cond (.t 14) .skip (.exit 0)) (.cut (.block 1 (sr [gg 15 (.ia (.t 11) (.t 13) 6),gg 16 (.ld (.t 15) (some 6)),gg 8 (.alc 57 [(.int .u32 ((0:Nat):Int)),(.int .u32 ((0:Nat):Int)),(.int .u64 ((0:Nat):Int)),(.int .i64 ((0:Nat):Int)),(.slice none 0 0),(.bool false)]),(G.mk none none (.st (.t 8) (.t 16) 6))] (sr [gg 17 (.ffa (.t 8) 3),gg 18 (.ld (.t 17) none),gg 19 (.bin .and (.t 18) (xk .i64 2)),gg 20 (.bin .neq (.t 19) (xk .i64 0))] (.cond (.t 20) (sr [gg 4 (.mov (.k (.string (ByteArray.mk #[])))),gg 5 (.mov (.k (.string (ByteArray.mk #[])))),gg 6 (.mov (.k (.bool false)))] .ret) .skip)))) (.reg [gg 21 (.bin .add (.t 13) (xk .i64 1)),gm 13 21]))))))) (sr [gg 23 (.ld (.t 2) (some 10)),gg 24 (.call 25 [(.t 23)]),gm 22 24,gg 25 (.ext (.t 22) 0),gg 26 (.ext (.t 22) 1),gm 4 25,gm 9 26] (sr [gm 28 1,gg 29 (.call 21 [(.t 28)]),gm 27 29,gg 30 (.ext (.t 27) 0),gg 31 (.ext (.t 27) 1),gm 5 30,gm 10 31] (sr [gm 32 4,gm 33 5,gm 34 9,gg 35 (.bin .eql (.t 34) (xk .i64 1)),gm 36 35,gq 37 36 true (.mov (.t 10)),gq 38 36 true (.bin .eql (.t 37) (xk .i64 1)),gg 39 (.pick (.t 36) (.t 38) (.k (.bool false))),gm 40 39,gq 41 40 true (.mov (.t 1)),gq 42 40 true (.len false (.t 41)),gq 43 40 true (.bin .leq (.t 42) (xk .i64 20)),gg 44 (.pick (.t 40) (.t 43) (.k (.bool false))),gm 45 44,gq 46 45 true (.mov (.t 5)),gq 47 45 true (.len true (.t 46)),gq 48 45 true (.bin .leq (.t 47) (xk .i64 20000)),gg 49 (.pick (.t 45) (.t 48) (.k (.bool false))),gm 4 32,gm 5 33,gm 6 49] .ret))))) 2 [(.t 4),(.t 5),(.t 6)]) := by kernel_rfl
theorem c13_:compF Tryz.prog 13 = some (.mk (sr [gg 4 (.mov (.k (.bool false)))] (.cut (sr [gm 6 0,gg 7 (.len false (.t 6)),gm 8 1,gg 9 (.len false (.t 8)),gg 10 (.bin .neq (.t 7) (.t 9))] (.cond (.t 10) (sr [gg 4 (.mov (.k (.bool false)))] .ret) .skip)) (.cut (sr [gm 11 0,gg 12 (.len false (.t 11)),gg 13 (.mov (xk .i64 0))] (.block 0 (.loop (sr [gg 14 (.bin .lss (.t 13) (.t 12))] (.seq (.cond (.t 14) .skip (.exit 0)) (.cut (.block 1 (sr [gm 15 13,gm 5 15] (.seq (.drw [(.mk (gm 16 0) 0 true []),(.mk (gm 17 5) 1 true []),(.mk (gg 18 (.ia (.t 16) (.t 17) 1)) 2 true []),(.mk (gg 19 (.ld (.t 18) none)) 3 true []),(.mk (gm 20 1) 4 true []),(.mk (gm 21 5) 5 true []),(.mk (gg 22 (.ia (.t 20) (.t 21) 1)) 6 true []),(.mk (gg 23 (.ld (.t 22) none)) 7 true []),(.mk (gg 24 (.bin .neq (.t 19) (.t 23))) 8 true [])]) (.cond (.t 24) (sr [gg 4 (.mov (.k (.bool false)))] .ret) .skip)))) (.reg [gg 25 (.bin .add (.t 13) (xk .i64 1)),gm 13 25]))))))) (sr [gg 4 (.mov (.k (.bool true)))] .ret)))) 2 [(.t 4)]) := by kernel_rfl
theorem c14_:compF Tryz.prog 14 = some (.mk (sr [gg 2 (.mov (.k (.string (ByteArray.mk #[]))))] (sr [gg 3 (.mov (.k (.string (ByteArray.mk #[91]))))] (.cut (sr [gm 6 0,gg 7 (.len false (.t 6)),gg 8 (.mov (xk .i64 0))] (.block 0 (.loop (sr [gg 9 (.bin .lss (.t 8) (.t 7))] (.seq (.cond (.t 9) .skip (.exit 0)) (.cut (.block 1 (sr [gg 10 (.ia (.t 6) (.t 8) 1),gg 11 (.ld (.t 10) none),gm 5 11] (.cut (sr [gm 12 5,gg 13 (.bin .geq (.t 12) (xk .u64 9223372036854775808)),gm 14 13,gq 15 14 true (.mov (.t 5)),gq 16 14 true (.bin .gtr (.t 15) (xk .u64 0)),gg 17 (.pick (.t 14) (.t 16) (.k (.bool false)))] (.cond (.t 17) (sr [gm 18 3,gm 19 5,gg 20 (.call 31 [(.t 19),(xk .i64 10)]),gg 21 (.bin .add (.t 20) (.k (.string (ByteArray.mk #[32])))),gg 22 (.bin .add (.t 18) (.t 21)),gm 3 22] (.exit 1)) .skip)) (.reg [gm 23 3,gm 24 5,gg 25 (.cvi .i64 (.t 24)),gg 26 (.call 32 [(.t 25),(xk .i64 10)]),gg 27 (.bin .add (.t 26) (.k (.string (ByteArray.mk #[32])))),gg 28 (.bin .add (.t 23) (.t 27)),gm 3 28])))) (.reg [gg 29 (.bin .add (.t 8) (xk .i64 1)),gm 8 29]))))))) (sr [gm 30 3,gg 31 (.bin .add (.t 30) (.k (.string (ByteArray.mk #[93])))),gm 2 31] .ret)))) 1 [(.t 2)]) := by kernel_rfl
theorem c21_:compF Tryz.prog 21 = some (.mk (sr [gg 2 (.mov (.k (.string (ByteArray.mk #[])))),gg 3 (.mov (xk .i64 0))] (sr [gg 4 (.mov (.k (.string (ByteArray.mk #[]))))] (.cut (sr [gm 9 0,gg 10 (.len false (.t 9)),gg 11 (.mov (xk .i64 0))] (.block 0 (.loop (sr [gg 12 (.bin .lss (.t 11) (.t 10))] (.seq (.cond (.t 12) .skip (.exit 0)) (.cut (.block 1 (sr [gg 13 (.ia (.t 9) (.t 11) 6),gg 14 (.ld (.t 13) (some 6)),gg 6 (.alc 57 [(.int .u32 ((0:Nat):Int)),(.int .u32 ((0:Nat):Int)),(.int .u64 ((0:Nat):Int)),(.int .i64 ((0:Nat):Int)),(.slice none 0 0),(.bool false)]),(G.mk none none (.st (.t 6) (.t 14) 6))] (sr [gg 16 (.ld (.t 6) (some 6)),gg 17 (.call 45 [(.t 16)]),gm 15 17,gg 18 (.ext (.t 15) 0),gg 19 (.ext (.t 15) 1),gm 7 18,gm 8 19] (.cut (sr [gm 20 8,gg 21 (.un .not (.t 20))] (.cond (.t 21) (sr [gg 2 (.mov (.k (.string (ByteArray.mk #[])))),gg 3 (.mov (xk .i64 2))] .ret) .skip)) (.reg [gm 22 4,gm 23 7,gg 24 (.bin .add (.t 22) (.t 23)),gm 4 24]))))) (.reg [gg 25 (.bin .add (.t 11) (xk .i64 1)),gm 11 25]))))))) (sr [gm 26 4,gm 2 26,gg 3 (.mov (xk .i64 1))] .ret)))) 1 [(.t 2),(.t 3)]) := by kernel_rfl
theorem c22_:compF Tryz.prog 22 = some (.mk (sr [gg 4 (.mov (.k (.string (ByteArray.mk #[]))))] (sr [gm 8 0,gg 9 (.len true (.t 8)),gg 10 (.cvi .u64 (.t 9)),gg 11 (.call 46 [(.t 10),(xk .i64 4)]),gg 12 (.bin .add (.k (.string (ByteArray.mk #[79,112,117,115,84,97,103,115]))) (.t 11)),gm 13 0,gg 14 (.bin .add (.t 12) (.t 13)),gm 15 1,gg 16 (.len false (.t 15)),gg 17 (.cvi .u64 (.t 16)),gg 18 (.call 46 [(.t 17),(xk .i64 4)]),gg 19 (.bin .add (.t 14) (.t 18)),gm 5 19] (.cut (sr [gm 20 1,gg 21 (.len false (.t 20)),gg 22 (.mov (xk .i64 0))] (.block 0 (.loop (sr [gg 23 (.bin .lss (.t 22) (.t 21))] (.seq (.cond (.t 23) .skip (.exit 0)) (.seq (.block 1 (sr [gg 24 (.ia (.t 20) (.t 22) 1),gg 25 (.ld (.t 24) none),gm 7 25] (.reg [gm 26 5,gm 27 7,gg 28 (.len true (.t 27)),gg 29 (.cvi .u64 (.t 28)),gg 30 (.call 46 [(.t 29),(xk .i64 4)]),gm 31 7,gg 32 (.bin .add (.t 30) (.t 31)),gg 33 (.bin .add (.t 26) (.t 32)),gm 5 33]))) (.reg [gg 34 (.bin .add (.t 22) (xk .i64 1)),gm 22 34]))))))) (sr [gm 35 5,gm 4 35] .ret)))) 2 [(.t 4)]) := by kernel_rfl
theorem c23_:compF Tryz.prog 23 = some (.mk (sr [gg 2 (.alc 25 [(.int .i64 ((0:Nat):Int)),(.int .i64 ((0:Nat):Int)),(.int .i64 ((0:Nat):Int)),(.int .i64 ((0:Nat):Int)),(.int .i64 ((0:Nat):Int)),(.int .u32 ((0:Nat):Int)),(.int .i64 ((0:Nat):Int)),(.int .i64 ((0:Nat):Int)),(.string (ByteArray.mk #[])),(.slice none 0 0)]),gg 3 (.mov (.k (.bool false))),gg 4 (.mov (xk .i64 0))] (sr [gm 9 0,gg 10 (.call 47 [(.t 9)]),gm 8 10,gg 11 (.ext (.t 8) 0),gg 12 (.ext (.t 8) 1),gg 13 (.ext (.t 8) 2),gg 5 (.alc 57 [(.int .u32 ((0:Nat):Int)),(.int .u32 ((0:Nat):Int)),(.int .u64 ((0:Nat):Int)),(.int .i64 ((0:Nat):Int)),(.slice none 0 0),(.bool false)]),(G.mk none none (.st (.t 5) (.t 11) 6)),gm 6 12,gm 7 13] (.cut (sr [gm 14 7,gg 15 (.un .not (.t 14))] (.cond (.t 15) (sr [gg 16 (.bld [(.int .i64 ((0:Nat):Int)),(.int .i64 ((0:Nat):Int)),(.int .i64 ((0:Nat):Int)),(.int .i64 ((0:Nat):Int)),(.int .i64 ((0:Nat):Int)),(.int .u32 ((0:Nat):Int)),(.int .i64 ((0:Nat):Int)),(.int .i64 ((0:Nat):Int)),(.string (ByteArray.mk #[])),(.slice none 0 0)] []),gm 17 0,gg 18 (.len true (.t 17)),gg 19 (.bin .lss (.t 18) (xk .i64 27)),gm 20 19,gq 21 20 false (.mov (.t 0)),gq 22 20 false (.sls (.t 21) none (some (xk .i64 5))),gq 23 20 false (.bin .neq (.t 22) (.k (.string (ByteArray.mk #[79,103,103,83,0])))),gg 24 (.pick (.t 20) (.k (.bool true)) (.t 23)),gg 25 (.call 48 [(.t 24)]),(G.mk none none (.st (.t 2) (.t 16) 10)),gg 3 (.mov (.k (.bool false))),gm 4 25] .ret) .skip)) (.cut (sr [gg 26 (.ffa (.t 5) 3),gg 27 (.ld (.t 26) none),gg 28 (.bin .neq (.t 27) (xk .i64 2)),gm 29 28,gq 30 29 false (.ffa (.t 5) 4),gq 31 29 false (.ld (.t 30) none),gq 32 29 false (.len false (.t 31)),gq 33 29 false (.bin .neq (.t 32) (xk .i64 1)),gg 34 (.pick (.t 29) (.k (.bool true)) (.t 33)),gm 35 34,gq 36 35 false (.ffa (.t 5) 5),gq 37 35 false (.ld (.t 36) none),gg 38 (.pick (.t 35) (.k (.bool true)) (.t 37))] (.cond (.t 38) (sr [gg 39 (.bld [(.int .i64 ((0:Nat):Int)),(.int .i64 ((0:Nat):Int)),(.int .i64 ((0:Nat):Int)),(.int .i64 ((0:Nat):Int)),(.int .i64 ((0:Nat):Int)),(.int .u32 ((0:Nat):Int)),(.int .i64 ((0:Nat):Int)),(.int .i64 ((0:Nat):Int)),(.string (ByteArray.mk #[])),(.slice none 0 0)] []),(G.mk none none (.st (.t 2) (.t 39) 10)),gg 3 (.mov (.k (.bool false))),gg 4 (.mov (xk .i64 2))] .ret) .skip)) (sr [gg 40 (.ffa (.t 5) 4),gg 41 (.ld (.t 40) none),gg 42 (.ia (.t 41) (xk .i64 0) 1),gg 43 (.ld (.t 42) none),gg 44 (.call 49 [(.t 43)]),gg 45 (.ext (.t 44) 0),gg 46 (.ext (.t 44) 1),gg 47 (.ext (.t 44) 2),(G.mk none none (.st (.t 2) (.t 45) 10)),gm 3 46,gm 4 47] .ret))))) 1 [(.cell 2 (some 10)),(.t 3),(.t 4)]) := by kernel_rfl
theorem c24_:compF Tryz.prog 24 = some (.mk (sr [gg 1 (.box 57 (.t 0)),gg 2 (.mov (.k (.bool false)))] (.cut (sr [gg 3 (.ffa (.t 1) 4),gg 4 (.ld (.t 3) none),gg 5 (.call 50 [(.t 4)]),gg 6 (.un .not (.t 5))] (.cond (.t 6) (sr [gg 2 (.mov (.k (.bool false)))] .ret) .skip)) (sr [gg 2 (.mov (.k (.bool true)))] .ret))) 1 [(.t 2)]) := by kernel_rfl
theorem c25_:compF Tryz.prog 25 = some (.mk (sr [gg 1 (.box 25 (.t 0)),gg 2 (.mov (.k (.string (ByteArray.mk #[])))),gg 3 (.mov (xk .i64 0))] (sr [gg 7 (.ld (.t 1) (some 10)),gg 8 (.call 51 [(.t 7)]),gm 6 8,gg 9 (.ext (.t 6) 0),gg 10 (.ext (.t 6) 1),gm 4 9,gm 5 10] (.cut (sr [gm 11 5,gg 12 (.bin .neq (.t 11) (xk .i64 1))] (.cond (.t 12) (sr [gg 2 (.mov (.k (.string (ByteArray.mk #[])))),gg 3 (.mov (xk .i64 2))] .ret) .skip)) (sr [gm 13 4,gg 14 (.bsl 9 1 1 [(.string (ByteArray.mk #[]))] [(0,(1,(.t 13)))]),gg 15 (.bld [(.int .u32 ((0:Nat):Int)),(.int .u32 ((0:Nat):Int)),(.int .u64 ((0:Nat):Int)),(.int .i64 ((0:Nat):Int)),(.slice none 0 0),(.bool false)] [(0,(1,(xk .u32 1))),(3,(1,(xk .i64 2))),(4,(1,(.t 14)))]),gg 16 (.call 22 [(.k (.string (ByteArray.mk #[99,97,114,114,111,110,97,100,101]))),(.k (.slice none 0 0))]),gg 17 (.bsl 9 1 1 [(.string (ByteArray.mk #[]))] [(0,(1,(.t 16)))]),gg 18 (.bld [(.int .u32 ((0:Nat):Int)),(.int .u32 ((0:Nat):Int)),(.int .u64 ((0:Nat):Int)),(.int .i64 ((0:Nat):Int)),(.slice none 0 0),(.bool false)] [(0,(1,(xk .u32 1))),(1,(1,(xk .u32 1))),(4,(1,(.t 17)))]),gg 19 (.bsl 57 6 2 [(.int .u32 ((0:Nat):Int)),(.int .u32 ((0:Nat):Int)),(.int .u64 ((0:Nat):Int)),(.int .i64 ((0:Nat):Int)),(.slice none 0 0),(.bool false),(.int .u32 ((0:Nat):Int)),(.int .u32 ((0:Nat):Int)),(.int .u64 ((0:Nat):Int)),(.int .i64 ((0:Nat):Int)),(.slice none 0 0),(.bool false)] [(0,(6,(.t 15))),(6,(6,(.t 18)))]),gg 20 (.call 21 [(.t 19)]),gg 21 (.ext (.t 20) 0),gg 22 (.ext (.t 20) 1),gm 2 21,gm 3 22] .ret)))) 1 [(.t 2),(.t 3)]) := by kernel_rfl
theorem c26_:compF Tryz.prog 26 = some (.mk (sr [gg 2 (.mov (.k (.slice none 0 0))),gg 3 (.mov (.k (.bool false)))] (.cut (sr [gm 10 0,gg 11 (.call 23 [(.t 10)]),gm 9 11,gg 12 (.ext (.t 9) 0),gg 13 (.ext (.t 9) 1),gg 14 (.ext (.t 9) 2),gg 4 (.alc 25 [(.int .i64 ((0:Nat):Int)),(.int .i64 ((0:Nat):Int)),(.int .i64 ((0:Nat):Int)),(.int .i64 ((0:Nat):Int)),(.int .i64 ((0:Nat):Int)),(.int .u32 ((0:Nat):Int)),(.int .i64 ((0:Nat):Int)),(.int .i64 ((0:Nat):Int)),(.string (ByteArray.mk #[])),(.slice none 0 0)]),(G.mk none none (.st (.t 4) (.t 12) 10)),gm 5 13,gm 6 14] (sr [gm 15 5,gg 16 (.un .not (.t 15)),gm 17 16,gq 18 17 false (.mov (.t 6)),gq 19 17 false (.bin .neq (.t 18) (xk .i64 1)),gg 20 (.pick (.t 17) (.k (.bool true)) (.t 19))] (.cond (.t 20) (sr [gg 2 (.mov (.k (.slice none 0 0))),gg 3 (.mov (.k (.bool false)))] .ret) .skip))) (sr [gm 22 0,gg 23 (.call 36 [(.t 22)]),gm 21 23,gg 24 (.ext (.t 21) 0),gg 25 (.ext (.t 21) 1),gm 7 24,gm 8 25] (.cut (sr [gm 26 8,gg 27 (.un .not (.t 26)),gm 28 27,gq 29 28 false (.mov (.t 7)),gq 30 28 false (.len false (.t 29)),gq 31 28 false (.bin .lss (.t 30) (xk .i64 1)),gg 32 (.pick (.t 28) (.k (.bool true)) (.t 31))] (.cond (.t 32) (sr [gg 2 (.mov (.k (.slice none 0 0))),gg 3 (.mov (.k (.bool false)))] .ret) .skip)) (sr [gm 33 7,gg 34 (.slq (.t 33) (some (xk .i64 1)) none 6),gm 2 34,gg 3 (.mov (.k (.bool true)))] .ret))))) 1 [(.t 2),(.t 3)]) := by kernel_rfl
theorem c27_:compF Tryz.prog 27 = some (.mk (sr [gg 2 (.mov (.k (.slice none 0 0))),gg 3 (.mov (.k (.slice none 0 0))),gg 4 (.mov (.k (.bool false))),gg 5 (.mov (xk .i64 0))] (sr [gg 6 (.mov (.k (.string (ByteArray.mk #[]))))] (sr [gg 7 (.mov (.k (.bool false)))] (.cut (sr [gm 12 0,gg 13 (.len false (.t 12)),gg 14 (.mov (xk .i64 0))] (.block 0 (.loop (sr [gg 15 (.bin .lss (.t 14) (.t 13))] (.seq (.cond (.t 15) .skip (.exit 0)) (.cut (.block 1 (sr [gm 16 14,gg 17 (.ia (.t 12) (.t 14) 6),gg 18 (.ld (.t 17) (some 6)),gg 9 (.alc 57 [(.int .u32 ((0:Nat):Int)),(.int .u32 ((0:Nat):Int)),(.int .u64 ((0:Nat):Int)),(.int .i64 ((0:Nat):Int)),(.slice none 0 0),(.bool false)]),gm 8 16,(G.mk none none (.st (.t 9) (.t 18) 6))] (.cut (.seq (.drw [(.mk (gg 19 (.ffa (.t 9) 0)) 0 true []),(.mk (gg 20 (.ld (.t 19) none)) 1 true []),(.mk (gm 21 0) 2 true []),(.mk (gg 22 (.ia (.t 21) (xk .i64 0) 6)) 3 true []),(.mk (gg 23 (.ffa (.t 22) 0)) 4 true []),(.mk (gg 24 (.ld (.t 23) none)) 5 true []),(.mk (gg 25 (.bin .neq (.t 20) (.t 24))) 6 true []),(.mk (gm 26 25) 7 true []),(.mk (gq 27 26 false (.mov (.t 8))) 8 true []),(.mk (gq 28 26 false (.bin .gtr (.t 27) (xk .i64 0))) 9 true []),(.mk (gq 29 26 false (.mov (.t 28))) 10 true []),(.mk (gq 30 29 true (.ffa (.t 9) 1)) 11 true []),(.mk (gq 31 29 true (.ld (.t 30) none)) 12 true []),(.mk (gq 32 29 true (.mov (.t 0))) 13 true []),(.mk (gq 33 29 true (.mov (.t 8))) 14 true []),(.mk (gq 34 29 true (.bin .sub (.t 33) (xk .i64 1))) 15 true []),(.mk (gq 35 29 true (.ia (.t 32) (.t 34) 6)) 16 true []),(.mk (gq 36 29 true (.ffa (.t 35) 1)) 17 true []),(.mk (gq 37 29 true (.ld (.t 36) none)) 18 true []),(.mk (gq 38 29 true (.bin .add (.t 37) (xk .u32 1))) 19 true []),(.mk (gq 39 29 true (.bin .neq (.t 31) (.t 38))) 20 true []),(.mk (gq 40 26 false (.pick (.t 29) (.t 39) (.k (.bool false)))) 21 true []),(.mk (gg 41 (.pick (.t 26) (.k (.bool true)) (.t 40))) 22 true []),(.mk (gm 42 41) 23 true []),(.mk (gq 43 42 false (.ffa (.t 9) 3)) 24 true []),(.mk (gq 44 42 false (.ld (.t 43) none)) 25 true []),(.mk (gq 45 42 false (.bin .and (.t 44) (xk .i64 1))) 26 true []),(.mk (gq 46 42 false (.bin .neq (.t 45) (xk .i64 0))) 27 true []),(.mk (gq 47 42 false (.mov (.t 7))) 28 true []),(.mk (gq 48 42 false (.beq true (.t 46) (.t 47))) 29 true []),(.mk (gg 49 (.pick (.t 42) (.k (.bool true)) (.t 48))) 30 true [])]) (.cond (.t 49) (sr [gg 2 (.mov (.k (.slice none 0 0))),gg 3 (.mov (.k (.slice none 0 0))),gg 4 (.mov (.k (.bool false))),gg 5 (.mov (xk .i64 2))] .ret) .skip)) (.cut (sr [gg 50 (.ffa (.t 9) 4),gg 51 (.ld (.t 50) none),gg 52 (.len false (.t 51)),gg 53 (.mov (xk .i64 0))] (.block 2 (.loop (sr [gg 54 (.bin .lss (.t 53) (.t 52))] (.seq (.cond (.t 54) .skip (.exit 2)) (.cut (.block 3 (sr [gm 55 53,gg 56 (.ia (.t 51) (.t 53) 1),gg 57 (.ld (.t 56) none),gm 10 55,gm 11 57] (sr [gm 58 6,gm 59 11,gg 60 (.bin .add (.t 58) (.t 59)),gm 6 60] (.cut (sr [gm 61 10,gg 62 (.ffa (.t 9) 4),gg 63 (.ld (.t 62) none),gg 64 (.len false (.t 63)),gg 65 (.bin .sub (.t 64) (xk .i64 1)),gg 66 (.bin .eql (.t 61) (.t 65)),gm 67 66,gq 68 67 true (.ffa (.t 9) 5),gq 69 67 true (.ld (.t 68) none),gg 70 (.pick (.t 67) (.t 69) (.k (.bool false)))] (.cond (.t 70) (sr [gg 7 (.mov (.k (.bool true)))] (.exit 2)) .skip)) (sr [gm 71 2,gm 72 6,gg 73 (.bsl 9 1 1 [(.string (ByteArray.mk #[]))] [(0,(1,(.t 72)))]),gg 74 (.app 9 1 16 (.t 71) (.t 73)),gm 2 74] (sr [gm 75 3,gg 76 (.ffa (.t 9) 2),gg 77 (.ld (.t 76) none),gg 78 (.bsl 39 1 1 [(.int .u64 ((0:Nat):Int))] [(0,(1,(.t 77)))]),gg 79 (.app 39 1 8 (.t 75) (.t 78)),gm 3 79] (.reg [gg 6 (.mov (.k (.string (ByteArray.mk #[])))),gg 7 (.mov (.k (.bool false)))]))))))) (.reg [gg 80 (.bin .add (.t 53) (xk .i64 1)),gm 53 80]))))))) (sr [gg 81 (.ffa (.t 9) 4),gg 82 (.ld (.t 81) none),gg 83 (.len false (.t 82)),gg 84 (.bin .eql (.t 83) (xk .i64 0)),gm 85 84,gq 86 85 true (.mov (.t 7)),gg 87 (.pick (.t 85) (.t 86) (.k (.bool false)))] (.cond (.t 87) (sr [gg 2 (.mov (.k (.slice none 0 0))),gg 3 (.mov (.k (.slice none 0 0))),gg 4 (.mov (.k (.bool false))),gg 5 (.mov (xk .i64 2))] .ret) .skip)))))) (.reg [gg 88 (.bin .add (.t 14) (xk .i64 1)),gm 14 88]))))))) (sr [gm 89 2,gm 90 3,gm 91 7,gg 92 (.un .not (.t 91)),gm 2 89,gm 3 90,gm 4 92,gg 5 (.mov (xk .i64 1))] .ret))))) 1 [(.t 2),(.t 3),(.t 4),(.t 5)]) := by kernel_rfl
theorem c31_:compF Tryz.prog 31 = some (.mk (sr [gg 4 (.mov (.k (.string (ByteArray.mk #[]))))] (sr [gm 5 0,gm 6 1,gg 7 (.call 56 [(.t 5),(.t 6)]),gm 4 7] .ret)) 2 [(.t 4)]) := by kernel_rfl
theorem c36_:compF Tryz.prog 36 = some (.mk (sr [gg 2 (.mov (.k (.slice none 0 0))),gg 3 (.mov (.k (.bool false)))] (.cut (.block 0 (.loop (.seq (sr [gm 7 0,gg 8 (.bin .neq (.t 7) (.k (.string (ByteArray.mk #[]))))] (.cond (.t 8) .skip (.exit 0))) (.block 1 (sr [gm 10 0,gg 11 (.call 47 [(.t 10)]),gm 9 11,gg 12 (.ext (.t 9) 0),gg 13 (.ext (.t 9) 1),gg 14 (.ext (.t 9) 2),gg 4 (.alc 57 [(.int .u32 ((0:Nat):Int)),(.int .u32 ((0:Nat):Int)),(.int .u64 ((0:Nat):Int)),(.int .i64 ((0:Nat):Int)),(.slice none 0 0),(.bool false)]),(G.mk none none (.st (.t 4) (.t 12) 6)),gm 5 13,gm 6 14] (.cut (sr [gm 15 6,gg 16 (.un .not (.t 15))] (.cond (.t 16) (sr [gm 17 2,gm 2 17,gg 3 (.mov (.k (.bool false)))] .ret) .skip)) (sr [gm 18 2,gg 19 (.ld (.t 4) (some 6)),gg 20 (.bsl 57 6 1 [(.int .u32 ((0:Nat):Int)),(.int .u32 ((0:Nat):Int)),(.int .u64 ((0:Nat):Int)),(.int .i64 ((0:Nat):Int)),(.slice none 0 0),(.bool false)] [(0,(6,(.t 19)))]),gg 21 (.apx 57 6 56 (.t 18) (.t 20)),gm 2 21] (.reg [gm 22 0,gm 23 5,gg 24 (.sls (.t 22) (some (.t 23)) none),gm 0 24])))))))) (sr [gm 25 2,gm 2 25,gg 3 (.mov (.k (.bool true)))] .ret))) 1 [(.t 2),(.t 3)]) := by kernel_rfl
theorem c45_:compF Tryz.prog 45 = some (.mk (sr [gg 1 (.box 57 (.t 0)),gg 2 (.mov (.k (.string (ByteArray.mk #[])))),gg 3 (.mov (.k (.bool false)))] (sr [gg 11 (.ld (.t 1) (some 6)),gg 12 (.call 87 [(.t 11)]),gm 10 12,gg 13 (.ext (.t 10) 0),gg 14 (.ext (.t 10) 1),gm 4 13,gm 5 14] (.cut (sr [gm 15 5,gg 16 (.un .not (.t 15)),gm 17 16,gq 18 17 false (.ffa (.t 1) 3),gq 19 17 false (.ld (.t 18) none),gq 20 17 false (.bin .lss (.t 19) (xk .i64 0)),gg 21 (.pick (.t 17) (.k (.bool true)) (.t 20)),gm 22 21,gq 23 22 false (.ffa (.t 1) 3),gq 24 22 false (.ld (.t 23) none),gq 25 22 false (.bin .gtr (.t 24) (xk .i64 7)),gg 26 (.pick (.t 22) (.k (.bool true)) (.t 25))] (.cond (.t 26) (sr [gg 2 (.mov (.k (.string (ByteArray.mk #[])))),gg 3 (.mov (.k (.bool false)))] .ret) .skip)) (.cut (.drt (.q (gg 27 (.ffa (.t 1) 3)) 0 (.q (gg 28 (.ld (.t 27) none)) 1 (.q (gg 29 (.cvi .u8 (.t 28))) 2 (.q (gg 33 (.ffa (.t 1) 2)) 6 (.q (gg 34 (.ld (.t 33) none)) 7 (.q (gg 37 (.ffa (.t 1) 0)) 10 (.q (gg 38 (.ld (.t 37) none)) 11 (.q (gg 39 (.cvi .u64 (.t 38))) 12 (.q (gg 42 (.ffa (.t 1) 1)) 15 (.q (gg 43 (.ld (.t 42) none)) 16 (.q (gg 44 (.cvi .u64 (.t 43))) 17 (.alt (gg 30 (.bsl 5 1 1 [(.int .u8 ((0:Nat):Int))] [(0,(1,(.t 29)))])) 3 [16,11,7] (.q (gg 31 (.b2s (.t 30))) 4 (.q (gg 32 (.bin .add (.k (.string (ByteArray.mk #[79,103,103,83,0]))) (.t 31))) 5 (.l (gg 35 (.call 46 [(.t 34),(xk .i64 8)])) 8 [4,16,11] (.q (gg 36 (.bin .add (.t 32) (.t 35))) 9 (.l (gg 40 (.call 46 [(.t 39),(xk .i64 4)])) 13 [4,16] (.q (gg 41 (.bin .add (.t 36) (.t 40))) 14 (.l (gg 45 (.call 46 [(.t 44),(xk .i64 4)])) 18 [4] (.q (gg 46 (.bin .add (.t 41) (.t 45))) 19 (.q (gm 6 46) 20 .stop))))))))) (.l (gg 35 (.call 46 [(.t 34),(xk .i64 8)])) 8 [16,11,1] (.alt (gg 30 (.bsl 5 1 1 [(.int .u8 ((0:Nat):Int))] [(0,(1,(.t 29)))])) 3 [16,11] (.q (gg 31 (.b2s (.t 30))) 4 (.q (gg 32 (.bin .add (.k (.string (ByteArray.mk #[79,103,103,83,0]))) (.t 31))) 5 (.q (gg 36 (.bin .add (.t 32) (.t 35))) 9 (.l (gg 40 (.call 46 [(.t 39),(xk .i64 4)])) 13 [4,16] (.q (gg 41 (.bin .add (.t 36) (.t 40))) 14 (.l (gg 45 (.call 46 [(.t 44),(xk .i64 4)])) 18 [4] (.q (gg 46 (.bin .add (.t 41) (.t 45))) 19 (.q (gm 6 46) 20 .stop)))))))) (.l (gg 40 (.call 46 [(.t 39),(xk .i64 4)])) 13 [16,1] (.alt (gg 30 (.bsl 5 1 1 [(.int .u8 ((0:Nat):Int))] [(0,(1,(.t 29)))])) 3 [16] (.q (gg 31 (.b2s (.t 30))) 4 (.q (gg 32 (.bin .add (.k (.string (ByteArray.mk #[79,103,103,83,0]))) (.t 31))) 5 (.q (gg 36 (.bin .add (.t 32) (.t 35))) 9 (.q (gg 41 (.bin .add (.t 36) (.t 40))) 14 (.l (gg 45 (.call 46 [(.t 44),(xk .i64 4)])) 18 [4] (.q (gg 46 (.bin .add (.t 41) (.t 45))) 19 (.q (gm 6 46) 20 .stop))))))) (.l (gg 45 (.call 46 [(.t 44),(xk .i64 4)])) 18 [1] (.l (gg 30 (.bsl 5 1 1 [(.int .u8 ((0:Nat):Int))] [(0,(1,(.t 29)))])) 3 [] (.q (gg 31 (.b2s (.t 30))) 4 (.q (gg 32 (.bin .add (.k (.string (ByteArray.mk #[79,103,103,83,0]))) (.t 31))) 5 (.q (gg 36 (.bin .add (.t 32) (.t 35))) 9 (.q (gg 41 (.bin .add (.t 36) (.t 40))) 14 (.q (gg 46 (.bin .add (.t 41) (.t 45))) 19 (.q (gm 6 46) 20 .stop))))))))))))))))))))))))) (sr [gm 47 4,gg 48 (.len false (.t 47)),gg 49 (.cvi .u8 (.t 48)),gg 50 (.bsl 5 1 1 [(.int .u8 ((0:Nat):Int))] [(0,(1,(.t 49)))]),gg 51 (.b2s (.t 50)),gm 52 4,gg 53 (.b2s (.t 52)),gg 54 (.bin .add (.t 51) (.t 53)),gm 7 54] (.cut (sr [gg 55 (.ffa (.t 1) 4),gg 56 (.ld (.t 55) none),gg 57 (.len false (.t 56)),gg 58 (.mov (xk .i64 0))] (.block 0 (.loop (sr [gg 59 (.bin .lss (.t 58) (.t 57))] (.seq (.cond (.t 59) .skip (.exit 0)) (.seq (.block 1 (sr [gg 60 (.ia (.t 56) (.t 58) 1),gg 61 (.ld (.t 60) none),gm 9 61] (.reg [gm 62 7,gm 63 9,gg 64 (.bin .add (.t 62) (.t 63)),gm 7 64]))) (.reg [gg 65 (.bin .add (.t 58) (xk .i64 1)),gm 58 65]))))))) (sr [gm 66 6,gm 67 6,gg 68 (.bin .add (.t 67) (.k (.string (ByteArray.mk #[0,0,0,0])))),gm 69 7,gg 70 (.bin .add (.t 68) (.t 69)),gg 71 (.call 88 [(.t 70)]),gg 72 (.cvi .u64 (.t 71)),gg 73 (.call 46 [(.t 72),(xk .i64 4)]),gg 74 (.bin .add (.t 66) (.t 73)),gm 75 7,gg 76 (.bin .add (.t 74) (.t 75)),gm 2 76,gg 3 (.mov (.k (.bool true)))] .ret))))))) 1 [(.t 2),(.t 3)]) := by kernel_rfl
theorem c46_:compF Tryz.prog 46 = some (.mk (sr [gg 4 (.mov (.k (.string (ByteArray.mk #[]))))] (sr [gm 7 1,gg 8 (.mks 5 1 1 [(.int .u8 ((0:Nat):Int))] (.t 7) (.t 7)),gm 5 8] (.cut (sr [gm 9 1,gg 10 (.mov (xk .i64 0))] (.block 0 (.loop (sr [gg 11 (.bin .lss (.t 10) (.t 9))] (.seq (.cond (.t 11) .skip (.exit 0)) (.seq (.block 1 (sr [gm 12 10,gm 6 12] (.reg [gm 13 5,gm 14 6,gm 15 0,gm 16 6,gg 17 (.bin .mul (xk .i64 8) (.t 16)),gg 18 (.bin .shr (.t 15) (.t 17)),gg 19 (.cvi .u8 (.t 18)),gg 20 (.ia (.t 13) (.t 14) 1),(G.mk none none (.st (.t 20) (.t 19) 1))]))) (.reg [gg 21 (.bin .add (.t 10) (xk .i64 1)),gm 10 21]))))))) (sr [gm 22 5,gg 23 (.b2s (.t 22)),gm 4 23] .ret)))) 2 [(.t 4)]) := by kernel_rfl
theorem c47_:compF Tryz.prog 47 = some (.mk (sr [gg 2 (.alc 57 [(.int .u32 ((0:Nat):Int)),(.int .u32 ((0:Nat):Int)),(.int .u64 ((0:Nat):Int)),(.int .i64 ((0:Nat):Int)),(.slice none 0 0),(.bool false)]),gg 3 (.mov (xk .i64 0)),gg 4 (.mov (.k (.bool false)))] (.cut (sr [gm 9 0,gg 10 (.len true (.t 9)),gg 11 (.bin .lss (.t 10) (xk .i64 27)),gm 12 11,gq 13 12 false (.mov (.t 0)),gq 14 12 false (.sls (.t 13) none (some (xk .i64 5))),gq 15 12 false (.bin .neq (.t 14) (.k (.string (ByteArray.mk #[79,103,103,83,0])))),gg 16 (.pick (.t 12) (.k (.bool true)) (.t 15))] (.cond (.t 16) (sr [gg 17 (.bld [(.int .u32 ((0:Nat):Int)),(.int .u32 ((0:Nat):Int)),(.int .u64 ((0:Nat):Int)),(.int .i64 ((0:Nat):Int)),(.slice none 0 0),(.bool false)] []),(G.mk none none (.st (.t 2) (.t 17) 6)),gg 3 (.mov (xk .i64 0)),gg 4 (.mov (.k (.bool false)))] .ret) .skip)) (sr [gm 18 0,gg 19 (.si (.t 18) (xk .i64 26)),gg 20 (.cvi .i64 (.t 19)),gm 5 20] (.cut (sr [gm 21 0,gg 22 (.len true (.t 21)),gm 23 5,gg 24 (.bin .add (xk .i64 27) (.t 23)),gg 25 (.bin .lss (.t 22) (.t 24))] (.cond (.t 25) (sr [gg 26 (.bld [(.int .u32 ((0:Nat):Int)),(.int .u32 ((0:Nat):Int)),(.int .u64 ((0:Nat):Int)),(.int .i64 ((0:Nat):Int)),(.slice none 0 0),(.bool false)] []),(G.mk none none (.st (.t 2) (.t 26) 6)),gg 3 (.mov (xk .i64 0)),gg 4 (.mov (.k (.bool false)))] .ret) .skip)) (.seq (.drw [(.mk (gm 27 0) 0 true []),(.mk (gg 28 (.si (.t 27) (xk .i64 5))) 1 true []),(.mk (gg 29 (.cvi .i64 (.t 28))) 2 true []),(.mk (gm 30 0) 3 true []),(.mk (gg 31 (.sls (.t 30) (some (xk .i64 6)) (some (xk .i64 14)))) 4 true []),(.mk (gm 33 0) 6 true []),(.mk (gg 34 (.sls (.t 33) (some (xk .i64 14)) (some (xk .i64 18)))) 7 true []),(.mk (gm 37 0) 10 true []),(.mk (gg 38 (.sls (.t 37) (some (xk .i64 18)) (some (xk .i64 22)))) 11 true []),(.mk (gg 32 (.call 89 [(.t 31)])) 5 false []),(.mk (gg 35 (.call 89 [(.t 34)])) 8 false []),(.mk (gg 36 (.cvi .u32 (.t 35))) 9 true []),(.mk (gg 39 (.call 89 [(.t 38)])) 12 false []),(.mk (gg 40 (.cvi .u32 (.t 39))) 13 true []),(.mk (gg 41 (.bld [(.int .u32 ((0:Nat):Int)),(.int .u32 ((0:Nat):Int)),(.int .u64 ((0:Nat):Int)),(.int .i64 ((0:Nat):Int)),(.slice none 0 0),(.bool false)] [(3,(1,(.t 29))),(2,(1,(.t 32))),(0,(1,(.t 36))),(1,(1,(.t 40)))])) 14 true []),(.mk (G.mk none none (.st (.t 2) (.t 41) 6)) 15 false [])]) (sr [gm 42 5,gg 43 (.bin .add (xk .i64 27) (.t 42)),gm 44 5,gg 45 (.bin .add (xk .i64 27) (.t 44)),gm 6 43,gm 7 45] (.cut (sr [gm 46 5,gg 47 (.mov (xk .i64 0))] (.block 0 (.loop (sr [gg 48 (.bin .lss (.t 47) (.t 46))] (.seq (.cond (.t 48) .skip (.exit 0)) (.cut (.block 1 (sr [gm 49 47,gm 8 49] (sr [gm 50 6,gm 51 0,gm 52 8,gg 53 (.bin .add (xk .i64 27) (.t 52)),gg 54 (.si (.t 51) (.t 53)),gg 55 (.cvi .i64 (.t 54)),gg 56 (.bin .add (.t 50) (.t 55)),gm 6 56] (.cut (sr [gm 57 6,gm 58 0,gg 59 (.len true (.t 58)),gg 60 (.bin .gtr (.t 57) (.t 59))] (.cond (.t 60) (sr [gg 61 (.bld [(.int .u32 ((0:Nat):Int)),(.int .u32 ((0:Nat):Int)),(.int .u64 ((0:Nat):Int)),(.int .i64 ((0:Nat):Int)),(.slice none 0 0),(.bool false)] []),(G.mk none none (.st (.t 2) (.t 61) 6)),gg 3 (.mov (xk .i64 0)),gg 4 (.mov (.k (.bool false)))] .ret) .skip)) (sr [gm 62 0,gm 63 8,gg 64 (.bin .add (xk .i64 27) (.t 63)),gg 65 (.si (.t 62) (.t 64)),gg 66 (.bin .lss (.t 65) (xk .u8 255)),gm 67 66,gq 68 67 false (.mov (.t 8)),gq 69 67 false (.mov (.t 5)),gq 70 67 false (.bin .sub (.t 69) (xk .i64 1)),gq 71 67 false (.bin .eql (.t 68) (.t 70)),gg 72 (.pick (.t 67) (.k (.bool true)) (.t 71))] (.cond (.t 72) (.seq (.drw [(.mk (gg 73 (.ffa (.t 2) 4)) 0 true []),(.mk (gg 74 (.ld (.t 73) none)) 1 true []),(.mk (gm 75 0) 2 true []),(.mk (gm 76 7) 3 true []),(.mk (gm 77 6) 4 true []),(.mk (gg 78 (.sls (.t 75) (some (.t 76)) (some (.t 77)))) 5 true []),(.mk (gg 79 (.bsl 9 1 1 [(.string (ByteArray.mk #[]))] [(0,(1,(.t 78)))])) 6 false [1]),(.mk (gg 80 (.app 9 1 16 (.t 74) (.t 79))) 7 false []),(.mk (gg 81 (.ffa (.t 2) 4)) 8 true []),(.mk (G.mk none none (.st (.t 81) (.t 80) 1)) 9 false [])]) (sr [gm 82 6,gm 7 82] (.reg [gm 83 0,gm 84 8,gg 85 (.bin .add (xk .i64 27) (.t 84)),gg 86 (.si (.t 83) (.t 85)),gg 87 (.bin .eql (.t 86) (xk .u8 255)),gg 88 (.ffa (.t 2) 5),(G.mk none none (.st (.t 88) (.t 87) 1))]))) .skip)))))) (.reg [gg 89 (.bin .add (.t 47) (xk .i64 1)),gm 47 89]))))))) (.cut (.seq (.drw [(.mk (gm 90 0) 0 true []),(.mk (gg 91 (.sls (.t 90) none (some (xk .i64 22)))) 1 true []),(.mk (gg 92 (.bin .add (.t 91) (.k (.string (ByteArray.mk #[0,0,0,0]))))) 2 true []),(.mk (gm 93 0) 3 true []),(.mk (gm 94 6) 4 true []),(.mk (gg 95 (.sls (.t 93) (some (xk .i64 26)) (some (.t 94)))) 5 true []),(.mk (gg 96 (.bin .add (.t 92) (.t 95))) 6 true []),(.mk (gm 99 0) 9 true []),(.mk (gg 100 (.sls (.t 99) (some (xk .i64 22)) (some (xk .i64 26)))) 10 true []),(.mk (gg 97 (.call 88 [(.t 96)])) 7 false []),(.mk (gg 98 (.cvi .u64 (.t 97))) 8 true []),(.mk (gg 101 (.call 89 [(.t 100)])) 11 false []),(.mk (gg 102 (.bin .neq (.t 98) (.t 101))) 12 true [])]) (.cond (.t 102) (sr [gg 103 (.bld [(.int .u32 ((0:Nat):Int)),(.int .u32 ((0:Nat):Int)),(.int .u64 ((0:Nat):Int)),(.int .i64 ((0:Nat):Int)),(.slice none 0 0),(.bool false)] []),(G.mk none none (.st (.t 2) (.t 103) 6)),gg 3 (.mov (xk .i64 0)),gg 4 (.mov (.k (.bool false)))] .ret) .skip)) (sr [gg 104 (.ld (.t 2) (some 6)),gm 105 6,(G.mk none none (.st (.t 2) (.t 104) 6)),gm 3 105,gg 4 (.mov (.k (.bool true)))] .ret))))))))) 1 [(.cell 2 (some 6)),(.t 3),(.t 4)]) := by kernel_rfl
theorem c48_:compF Tryz.prog 48 = some (.mk (sr [gg 2 (.mov (xk .i64 0))] (.cut (sr [gm 3 0] (.cond (.t 3) (sr [gg 2 (.mov (xk .i64 1))] .ret) .skip)) (sr [gg 2 (.mov (xk .i64 2))] .ret))) 1 [(.t 2)]) := by kernel_rfl
theorem c49_:compF Tryz.prog 49 = some (.mk (sr [gg 2 (.alc 25 [(.int .i64 ((0:Nat):Int)),(.int .i64 ((0:Nat):Int)),(.int .i64 ((0:Nat):Int)),(.int .i64 ((0:Nat):Int)),(.int .i64 ((0:Nat):Int)),(.int .u32 ((0:Nat):Int)),(.int .i64 ((0:Nat):Int)),(.int .i64 ((0:Nat):Int)),(.string (ByteArray.mk #[])),(.slice none 0 0)]),gg 3 (.mov (.k (.bool false))),gg 4 (.mov (xk .i64 0))] (.cut (sr [gm 8 0,gg 9 (.len true (.t 8)),gg 10 (.bin .lss (.t 9) (xk .i64 19)),gm 11 10,gq 12 11 false (.mov (.t 0)),gq 13 11 false (.sls (.t 12) none (some (xk .i64 8))),gq 14 11 false (.bin .neq (.t 13) (.k (.string (ByteArray.mk #[79,112,117,115,72,101,97,100])))),gg 15 (.pick (.t 11) (.k (.bool true)) (.t 14))] (.cond (.t 15) (sr [gg 16 (.bld [(.int .i64 ((0:Nat):Int)),(.int .i64 ((0:Nat):Int)),(.int .i64 ((0:Nat):Int)),(.int .i64 ((0:Nat):Int)),(.int .i64 ((0:Nat):Int)),(.int .u32 ((0:Nat):Int)),(.int .i64 ((0:Nat):Int)),(.int .i64 ((0:Nat):Int)),(.string (ByteArray.mk #[])),(.slice none 0 0)] []),(G.mk none none (.st (.t 2) (.t 16) 10)),gg 3 (.mov (.k (.bool false))),gg 4 (.mov (xk .i64 1))] .ret) .skip)) (.cut (.drt (.q (gm 17 0) 0 (.q (gg 18 (.si (.t 17) (xk .i64 8))) 1 (.q (gg 19 (.cvi .i64 (.t 18))) 2 (.q (gm 20 0) 3 (.q (gg 21 (.si (.t 20) (xk .i64 9))) 4 (.q (gg 22 (.cvi .i64 (.t 21))) 5 (.q (gm 23 0) 6 (.q (gg 24 (.sls (.t 23) (some (xk .i64 10)) (some (xk .i64 12)))) 7 (.q (gm 27 0) 10 (.q (gg 28 (.sls (.t 27) (some (xk .i64 12)) (some (xk .i64 16)))) 11 (.q (gm 31 0) 14 (.q (gg 32 (.sls (.t 31) (some (xk .i64 16)) (some (xk .i64 18)))) 15 (.q (gm 35 0) 18 (.q (gg 36 (.si (.t 35) (xk .i64 18))) 19 (.q (gg 37 (.cvi .i64 (.t 36))) 20 (.alt (gg 25 (.call 89 [(.t 24)])) 8 [] (.q (gg 26 (.cvi .i64 (.t 25))) 9 (.alt (gg 29 (.call 89 [(.t 28)])) 12 [] (.q (gg 30 (.cvi .u32 (.t 29))) 13 (.alt (gg 33 (.call 89 [(.t 32)])) 16 [] (.q (gg 34 (.cvi .i64 (.t 33))) 17 (.q (gg 38 (.bld [(.int .i64 ((0:Nat):Int)),(.int .i64 ((0:Nat):Int)),(.int .i64 ((0:Nat):Int)),(.int .i64 ((0:Nat):Int)),(.int .i64 ((0:Nat):Int)),(.int .u32 ((0:Nat):Int)),(.int .i64 ((0:Nat):Int)),(.int .i64 ((0:Nat):Int)),(.string (ByteArray.mk #[])),(.slice none 0 0)] [(0,(1,(.t 19))),(1,(1,(.t 22))),(3,(1,(.t 26))),(5,(1,(.t 30))),(4,(1,(.t 34))),(2,(1,(.t 37)))])) 21 (.l (gg 5 (.alc 25 [(.int .i64 ((0:Nat):Int)),(.int .i64 ((0:Nat):Int)),(.int .i64 ((0:Nat):Int)),(.int .i64 ((0:Nat):Int)),(.int .i64 ((0:Nat):Int)),(.int .u32 ((0:Nat):Int)),(.int .i64 ((0:Nat):Int)),(.int .i64 ((0:Nat):Int)),(.string (ByteArray.mk #[])),(.slice none 0 0)])) 22 [] (.l (G.mk none none (.st (.t 5) (.t 38) 10)) 23 [] .stop)))) (.l (gg 5 (.alc 25 [(.int .i64 ((0:Nat):Int)),(.int .i64 ((0:Nat):Int)),(.int .i64 ((0:Nat):Int)),(.int .i64 ((0:Nat):Int)),(.int .i64 ((0:Nat):Int)),(.int .u32 ((0:Nat):Int)),(.int .i64 ((0:Nat):Int)),(.int .i64 ((0:Nat):Int)),(.string (ByteArray.mk #[])),(.slice none 0 0)])) 22 [] (.l (gg 33 (.call 89 [(.t 32)])) 16 [] (.q (gg 34 (.cvi .i64 (.t 33))) 17 (.q (gg 38 (.bld [(.int .i64 ((0:Nat):Int)),(.int .i64 ((0:Nat):Int)),(.int .i64 ((0:Nat):Int)),(.int .i64 ((0:Nat):Int)),(.int .i64 ((0:Nat):Int)),(.int .u32 ((0:Nat):Int)),(.int .i64 ((0:Nat):Int)),(.int .i64 ((0:Nat):Int)),(.string (ByteArray.mk #[])),(.slice none 0 0)] [(0,(1,(.t 19))),(1,(1,(.t 22))),(3,(1,(.t 26))),(5,(1,(.t 30))),(4,(1,(.t 34))),(2,(1,(.t 37)))])) 21 (.l (G.mk none none (.st (.t 5) (.t 38) 10)) 23 [] .stop))))))) (.l (gg 5 (.alc 25 [(.int .i64 ((0:Nat):Int)),(.int .i64 ((0:Nat):Int)),(.int .i64 ((0:Nat):Int)),(.int .i64 ((0:Nat):Int)),(.int .i64 ((0:Nat):Int)),(.int .u32 ((0:Nat):Int)),(.int .i64 ((0:Nat):Int)),(.int .i64 ((0:Nat):Int)),(.string (ByteArray.mk #[])),(.slice none 0 0)])) 22 [] (.l (gg 29 (.call 89 [(.t 28)])) 12 [] (.q (gg 30 (.cvi .u32 (.t 29))) 13 (.l (gg 33 (.call 89 [(.t 32)])) 16 [] (.q (gg 34 (.cvi .i64 (.t 33))) 17 (.q (gg 38 (.bld [(.int .i64 ((0:Nat):Int)),(.int .i64 ((0:Nat):Int)),(.int .i64 ((0:Nat):Int)),(.int .i64 ((0:Nat):Int)),(.int .i64 ((0:Nat):Int)),(.int .u32 ((0:Nat):Int)),(.int .i64 ((0:Nat):Int)),(.int .i64 ((0:Nat):Int)),(.string (ByteArray.mk #[])),(.slice none 0 0)] [(0,(1,(.t 19))),(1,(1,(.t 22))),(3,(1,(.t 26))),(5,(1,(.t 30))),(4,(1,(.t 34))),(2,(1,(.t 37)))])) 21 (.l (G.mk none none (.st (.t 5) (.t 38) 10)) 23 [] .stop))))))))) (.l (gg 5 (.alc 25 [(.int .i64 ((0:Nat):Int)),(.int .i64 ((0:Nat):Int)),(.int .i64 ((0:Nat):Int)),(.int .i64 ((0:Nat):Int)),(.int .i64 ((0:Nat):Int)),(.int .u32 ((0:Nat):Int)),(.int .i64 ((0:Nat):Int)),(.int .i64 ((0:Nat):Int)),(.string (ByteArray.mk #[])),(.slice none 0 0)])) 22 [] (.l (gg 25 (.call 89 [(.t 24)])) 8 [] (.q (gg 26 (.cvi .i64 (.t 25))) 9 (.l (gg 29 (.call 89 [(.t 28)])) 12 [] (.q (gg 30 (.cvi .u32 (.t 29))) 13 (.l (gg 33 (.call 89 [(.t 32)])) 16 [] (.q (gg 34 (.cvi .i64 (.t 33))) 17 (.q (gg 38 (.bld [(.int .i64 ((0:Nat):Int)),(.int .i64 ((0:Nat):Int)),(.int .i64 ((0:Nat):Int)),(.int .i64 ((0:Nat):Int)),(.int .i64 ((0:Nat):Int)),(.int .u32 ((0:Nat):Int)),(.int .i64 ((0:Nat):Int)),(.int .i64 ((0:Nat):Int)),(.string (ByteArray.mk #[])),(.slice none 0 0)] [(0,(1,(.t 19))),(1,(1,(.t 22))),(3,(1,(.t 26))),(5,(1,(.t 30))),(4,(1,(.t 34))),(2,(1,(.t 37)))])) 21 (.l (G.mk none none (.st (.t 5) (.t 38) 10)) 23 [] .stop)))))))))))))))))))))))))) (.cut (sr [gg 39 (.ffa (.t 5) 2),gg 40 (.ld (.t 39) none),gg 41 (.bin .neq (.t 40) (xk .i64 0))] (.cond (.t 41) (.cut (sr [gm 42 0,gg 43 (.len true (.t 42)),gg 44 (.ffa (.t 5) 1),gg 45 (.ld (.t 44) none),gg 46 (.bin .add (xk .i64 21) (.t 45)),gg 47 (.bin .lss (.t 43) (.t 46))] (.cond (.t 47) (sr [gg 48 (.bld [(.int .i64 ((0:Nat):Int)),(.int .i64 ((0:Nat):Int)),(.int .i64 ((0:Nat):Int)),(.int .i64 ((0:Nat):Int)),(.int .i64 ((0:Nat):Int)),(.int .u32 ((0:Nat):Int)),(.int .i64 ((0:Nat):Int)),(.int .i64 ((0:Nat):Int)),(.string (ByteArray.mk #[])),(.slice none 0 0)] []),gg 49 (.ffa (.t 5) 2),gg 50 (.ld (.t 49) none),gg 51 (.bin .eql (.t 50) (xk .i64 1)),gm 52 51,gq 53 52 false (.ffa (.t 5) 2),gq 54 52 false (.ld (.t 53) none),gq 55 52 false (.bin .eql (.t 54) (xk .i64 255)),gg 56 (.pick (.t 52) (.k (.bool true)) (.t 55)),gg 57 (.call 48 [(.t 56)]),(G.mk none none (.st (.t 2) (.t 48) 10)),gg 3 (.mov (.k (.bool false))),gm 4 57] .ret) .skip)) (.drw [(.mk (gm 58 0) 0 true []),(.mk (gg 59 (.si (.t 58) (xk .i64 19))) 1 true []),(.mk (gg 60 (.cvi .i64 (.t 59))) 2 true []),(.mk (gm 61 0) 3 true []),(.mk (gg 62 (.si (.t 61) (xk .i64 20))) 4 true []),(.mk (gg 63 (.cvi .i64 (.t 62))) 5 true []),(.mk (gm 64 0) 6 true []),(.mk (gg 65 (.ffa (.t 5) 1)) 7 true []),(.mk (gg 66 (.ld (.t 65) none)) 8 true []),(.mk (gg 67 (.bin .add (xk .i64 21) (.t 66))) 9 true []),(.mk (gg 68 (.sls (.t 64) (some (xk .i64 21)) (some (.t 67)))) 10 true []),(.mk (gg 69 (.ffa (.t 5) 6)) 11 true []),(.mk (G.mk none none (.st (.t 69) (.t 60) 1)) 12 false []),(.mk (gg 70 (.ffa (.t 5) 7)) 13 true []),(.mk (G.mk none none (.st (.t 70) (.t 63) 1)) 14 false []),(.mk (gg 71 (.ffa (.t 5) 8)) 15 true []),(.mk (G.mk none none (.st (.t 71) (.t 68) 1)) 16 false [])])) .skip)) (sr [gg 73 (.ld (.t 5) (some 10)),gg 74 (.call 51 [(.t 73)]),gm 72 74,gg 75 (.ext (.t 72) 0),gg 76 (.ext (.t 72) 1),gm 6 75,gm 7 76] (.cut (sr [gm 77 7,gg 78 (.bin .neq (.t 77) (xk .i64 1)),gm 79 78,gq 80 79 false (.mov (.t 6)),gq 81 79 false (.mov (.t 0)),gq 82 79 false (.bin .neq (.t 80) (.t 81)),gg 83 (.pick (.t 79) (.k (.bool true)) (.t 82)),gm 84 83,gq 85 84 false (.ffa (.t 5) 0),gq 86 84 false (.ld (.t 85) none),gq 87 84 false (.bin .neq (.t 86) (xk .i64 1)),gg 88 (.pick (.t 84) (.k (.bool true)) (.t 87))] (.cond (.t 88) (sr [gg 89 (.bld [(.int .i64 ((0:Nat):Int)),(.int .i64 ((0:Nat):Int)),(.int .i64 ((0:Nat):Int)),(.int .i64 ((0:Nat):Int)),(.int .i64 ((0:Nat):Int)),(.int .u32 ((0:Nat):Int)),(.int .i64 ((0:Nat):Int)),(.int .i64 ((0:Nat):Int)),(.string (ByteArray.mk #[])),(.slice none 0 0)] []),(G.mk none none (.st (.t 2) (.t 89) 10)),gg 3 (.mov (.k (.bool false))),gg 4 (.mov (xk .i64 2))] .ret) .skip)) (sr [gg 90 (.ld (.t 5) (some 10)),(G.mk none none (.st (.t 2) (.t 90) 10)),gg 3 (.mov (.k (.bool true))),gg 4 (.mov (xk .i64 1))] .ret))))))) 1 [(.cell 2 (some 10)),(.t 3),(.t 4)]) := by kernel_rfl
theorem c50_:compF Tryz.prog 50 = some (.mk (sr [gg 2 (.mov (.k (.bool false)))] (.cut (sr [gm 5 0,gg 6 (.len false (.t 5)),gg 7 (.bin .gtr (.t 6) (xk .i64 2147483647))] (.cond (.t 7) (sr [gg 2 (.mov (.k (.bool false)))] .ret) .skip)) (.cut (sr [gm 8 0,gg 9 (.len false (.t 8)),gg 10 (.mov (xk .i64 0))] (.block 0 (.loop (sr [gg 11 (.bin .lss (.t 10) (.t 9))] (.seq (.cond (.t 11) .skip (.exit 0)) (.cut (.block 1 (sr [gg 12 (.ia (.t 8) (.t 10) 1),gg 13 (.ld (.t 12) none),gm 4 13] (sr [gm 14 4,gg 15 (.len true (.t 14)),gg 16 (.bin .gtr (.t 15) (xk .i64 2147483647))] (.cond (.t 16) (sr [gg 2 (.mov (.k (.bool false)))] .ret) .skip)))) (.reg [gg 17 (.bin .add (.t 10) (xk .i64 1)),gm 10 17]))))))) (sr [gg 2 (.mov (.k (.bool true)))] .ret)))) 1 [(.t 2)]) := by kernel_rfl
theorem c56_:compF Tryz.prog 56 = some (.mk (sr [gg 4 (.mov (.k (.string (ByteArray.mk #[]))))] (.cut (sr [gm 9 1,gg 10 (.bin .eql (.t 9) (xk .i64 10))] (.cond (.t 10) (.cut (sr [gm 11 0,gg 12 (.bin .lss (.t 11) (xk .u64 100))] (.cond (.t 12) (sr [gm 13 0,gg 14 (.cvi .i64 (.t 13)),gg 15 (.call 98 [(.t 14)]),gm 4 15] .ret) .skip)) (sr [gg 5 (.ala 180 [(.int .u8 ((0:Nat):Int)),(.int .u8 ((0:Nat):Int)),(.int .u8 ((0:Nat):Int)),(.int .u8 ((0:Nat):Int)),(.int .u8 ((0:Nat):Int)),(.int .u8 ((0:Nat):Int)),(.int .u8 ((0:Nat):Int)),(.int .u8 ((0:Nat):Int)),(.int .u8 ((0:Nat):Int)),(.int .u8 ((0:Nat):Int)),(.int .u8 ((0:Nat):Int)),(.int .u8 ((0:Nat):Int)),(.int .u8 ((0:Nat):Int)),(.int .u8 ((0:Nat):Int)),(.int .u8 ((0:Nat):Int)),(.int .u8 ((0:Nat):Int)),(.int .u8 ((0:Nat):Int)),(.int .u8 ((0:Nat):Int)),(.int .u8 ((0:Nat):Int)),(.int .u8 ((0:Nat):Int)),(.int .u8 ((0:Nat):Int)),(.int .u8 ((0:Nat):Int)),(.int .u8 ((0:Nat):Int)),(.int .u8 ((0:Nat):Int))])] (sr [gm 16 0,gg 17 (.call 99 [(.t 16)]),gm 6 17] (sr [gm 18 6,gg 19 (.sll (.t 5) (some (.t 18)) 1 24),gm 20 0,gg 21 (.call 100 [(.t 19),(.t 20)])] (sr [gm 22 6,gg 23 (.sll (.t 5) (some (.t 22)) 1 24),gg 24 (.b2s (.t 23)),gm 4 24] .ret))))) .skip)) (sr [gm 26 0,gm 27 1,gg 28 (.call 101 [(.k (.slice none 0 0)),(.t 26),(.t 27),(.k (.bool false)),(.k (.bool false))]),gm 25 28,gg 29 (.ext (.t 25) 0),gg 30 (.ext (.t 25) 1),gm 7 29,gm 8 30] (sr [gm 31 8,gm 4 31] .ret)))) 2 [(.t 4)]) := by kernel_rfl
theorem c87_:compF Tryz.prog 87 = some (.mk (sr [gg 1 (.box 57 (.t 0)),gg 2 (.mov (.k (.slice none 0 0))),gg 3 (.mov (.k (.bool false)))] (sr [gg 4 (.mov (.k (.slice none 0 0)))] (.cut (sr [gg 8 (.ffa (.t 1) 4),gg 9 (.ld (.t 8) none),gg 10 (.len false (.t 9)),gg 11 (.mov (xk .i64 0))] (.block 0 (.loop (sr [gg 12 (.bin .lss (.t 11) (.t 10))] (.seq (.cond (.t 12) .skip (.exit 0)) (.cut (.block 1 (sr [gm 13 11,gg 14 (.ia (.t 9) (.t 11) 1),gg 15 (.ld (.t 14) none),gm 5 13,gm 6 15] (sr [gm 16 6,gg 17 (.len true (.t 16)),gm 7 17] (.cut (.block 2 (.loop (.seq (sr [gm 18 7,gg 19 (.bin .geq (.t 18) (xk .i64 255))] (.cond (.t 19) .skip (.exit 2))) (.seq (.block 3 (.reg [gm 22 4,gg 23 (.bsl 5 1 1 [(.int .u8 ((0:Nat):Int))] [(0,(1,(xk .u8 255)))]),gg 24 (.app 5 1 1 (.t 22) (.t 23)),gm 4 24])) (.reg [gm 20 7,gg 21 (.bin .sub (.t 20) (xk .i64 255)),gm 7 21]))))) (.cut (sr [gm 25 5,gg 26 (.ffa (.t 1) 4),gg 27 (.ld (.t 26) none),gg 28 (.len false (.t 27)),gg 29 (.bin .sub (.t 28) (xk .i64 1)),gg 30 (.bin .eql (.t 25) (.t 29)),gm 31 30,gq 32 31 true (.ffa (.t 1) 5),gq 33 31 true (.ld (.t 32) none),gg 34 (.pick (.t 31) (.t 33) (.k (.bool false)))] (.cond (.t 34) (.cut (sr [gm 35 7,gg 36 (.bin .neq (.t 35) (xk .i64 0)),gm 37 36,gq 38 37 false (.mov (.t 6)),gq 39 37 false (.bin .eql (.t 38) (.k (.string (ByteArray.mk #[])))),gg 40 (.pick (.t 37) (.k (.bool true)) (.t 39))] (.cond (.t 40) (sr [gg 2 (.mov (.k (.slice none 0 0))),gg 3 (.mov (.k (.bool false)))] .ret) .skip)) (.exit 0)) .skip)) (.reg [gm 41 4,gm 42 7,gg 43 (.cvi .u8 (.t 42)),gg 44 (.bsl 5 1 1 [(.int .u8 ((0:Nat):Int))] [(0,(1,(.t 43)))]),gg 45 (.app 5 1 1 (.t 41) (.t 44)),gm 4 45])))))) (.reg [gg 46 (.bin .add (.t 11) (xk .i64 1)),gm 11 46]))))))) (.seq (.drw [(.mk (gm 47 4) 0 true []),(.mk (gm 48 4) 1 true []),(.mk (gg 49 (.len false (.t 48))) 2 true []),(.mk (gg 50 (.bin .leq (.t 49) (xk .i64 255))) 3 true []),(.mk (gm 51 50) 4 true []),(.mk (gq 52 51 true (.ffa (.t 1) 5)) 5 true []),(.mk (gq 53 51 true (.ld (.t 52) none)) 6 true []),(.mk (gq 54 51 true (.un .not (.t 53))) 7 true []),(.mk (gq 55 51 true (.mov (.t 54))) 8 true []),(.mk (gq 56 55 false (.ffa (.t 1) 4)) 9 true []),(.mk (gq 57 55 false (.ld (.t 56) none)) 10 true []),(.mk (gq 58 55 false (.len false (.t 57))) 11 true []),(.mk (gq 59 55 false (.bin .gtr (.t 58) (xk .i64 0))) 12 true []),(.mk (gq 60 51 true (.pick (.t 55) (.k (.bool true)) (.t 59))) 13 true []),(.mk (gg 61 (.pick (.t 51) (.t 60) (.k (.bool false)))) 14 true []),(.mk (gm 2 47) 15 true []),(.mk (gm 3 61) 16 true [])]) .ret)))) 1 [(.t 2),(.t 3)]) := by kernel_rfl
theorem c88_:compF Tryz.prog 88 = some (.mk (sr [gg 2 (.mov (xk .u32 0))] (sr [gg 3 (.mov (xk .u32 0))] (.cut (sr [gm 5 0,gg 6 (.len true (.t 5)),gg 7 (.mov (xk .i64 0))] (.block 0 (.loop (sr [gg 8 (.bin .lss (.t 7) (.t 6))] (.seq (.cond (.t 8) .skip (.exit 0)) (.cut (.block 1 (sr [gm 9 7,gm 4 9] (sr [gm 10 3,gm 11 0,gm 12 4,gg 13 (.si (.t 11) (.t 12)),gg 14 (.cvi .u32 (.t 13)),gg 15 (.bik .shl .u64 (.t 14) 24),gg 16 (.bin .xor (.t 10) (.t 15)),gm 3 16] (sr [gg 17 (.mov (xk .i64 0))] (.block 2 (.loop (sr [gg 18 (.bin .lss (.t 17) (xk .i64 8))] (.seq (.cond (.t 18) .skip (.exit 2)) (.cut (.block 3 (sr [gm 19 3,gg 20 (.bin .and (.t 19) (xk .u32 2147483648)),gg 21 (.bin .neq (.t 20) (xk .u32 0))] (.cond (.t 21) (.reg [gm 22 3,gg 23 (.bik .shl .u64 (.t 22) 1),gg 24 (.bin .xor (.t 23) (xk .u32 79764919)),gm 3 24]) (.reg [gm 25 3,gg 26 (.bik .shl .u64 (.t 25) 1),gm 3 26])))) (.reg [gg 27 (.bin .add (.t 17) (xk .i64 1)),gm 17 27])))))))))) (.reg [gg 28 (.bin .add (.t 7) (xk .i64 1)),gm 7 28]))))))) (sr [gm 29 3,gm 2 29] .ret)))) 1 [(.t 2)]) := by kernel_rfl
theorem c89_:compF Tryz.prog 89 = some (.mk (sr [gg 2 (.mov (xk .u64 0))] (sr [gg 3 (.mov (xk .u64 0))] (.cut (sr [gm 5 0,gg 6 (.len true (.t 5)),gg 7 (.bin .sub (.t 6) (xk .i64 1)),gm 4 7] (.block 0 (.loop (.seq (sr [gm 8 4,gg 9 (.bin .geq (.t 8) (xk .i64 0))] (.cond (.t 9) .skip (.exit 0))) (.seq (.block 1 (.reg [gm 12 3,gg 13 (.bik .shl .u64 (.t 12) 8),gm 14 0,gm 15 4,gg 16 (.si (.t 14) (.t 15)),gg 17 (.cvi .u64 (.t 16)),gg 18 (.bin .or (.t 13) (.t 17)),gm 3 18])) (.reg [gm 10 4,gg 11 (.bin .sub (.t 10) (xk .i64 1)),gm 4 11])))))) (sr [gm 19 3,gm 2 19] .ret)))) 1 [(.t 2)]) := by kernel_rfl
theorem c51_:compF Tryz.prog 51 = some (.mk (sr [gg 1 (.box 25 (.t 0)),gg 2 (.mov (.k (.string (ByteArray.mk #[])))),gg 3 (.mov (xk .i64 0))] (.cut (sr [gg 5 (.ffa (.t 1) 0),gg 6 (.ld (.t 5) none),gg 7 (.bin .lss (.t 6) (xk .i64 0)),gm 8 7,gq 9 8 false (.ffa (.t 1) 0),gq 10 8 false (.ld (.t 9) none),gq 11 8 false (.bin .gtr (.t 10) (xk .i64 255)),gg 12 (.pick (.t 8) (.k (.bool true)) (.t 11)),gm 13 12,gq 14 13 false (.ffa (.t 1) 1),gq 15 13 false (.ld (.t 14) none),gq 16 13 false (.bin .lss (.t 15) (xk .i64 1)),gg 17 (.pick (.t 13) (.k (.bool true)) (.t 16)),gm 18 17,gq 19 18 false (.ffa (.t 1) 1),gq 20 18 false (.ld (.t 19) none),gq 21 18 false (.bin .gtr (.t 20) (xk .i64 255)),gg 22 (.pick (.t 18) (.k (.bool true)) (.t 21)),gm 23 22,gq 24 23 false (.ffa (.t 1) 2),gq 25 23 false (.ld (.t 24) none),gq 26 23 false (.bin .lss (.t 25) (xk .i64 0)),gg 27 (.pick (.t 23) (.k (.bool true)) (.t 26)),gm 28 27,gq 29 28 false (.ffa (.t 1) 2),gq 30 28 false (.ld (.t 29) none),gq 31 28 false (.bin .gtr (.t 30) (xk .i64 255)),gg 32 (.pick (.t 28) (.k (.bool true)) (.t 31)),gm 33 32,gq 34 33 false (.ffa (.t 1) 3),gq 35 33 false (.ld (.t 34) none),gq 36 33 false (.bin .lss (.t 35) (xk .i64 0)),gg 37 (.pick (.t 33) (.k (.bool true)) (.t 36)),gm 38 37,gq 39 38 false (.ffa (.t 1) 3),gq 40 38 false (.ld (.t 39) none),gq 41 38 false (.bin .gtr (.t 40) (xk .i64 65535)),gg 42 (.pick (.t 38) (.k (.bool true)) (.t 41)),gm 43 42,gq 44 43 false (.ffa (.t 1) 4),gq 45 43 false (.ld (.t 44) none),gq 46 43 false (.bin .lss (.t 45) (.k (.int .i64 (-32768)))),gg 47 (.pick (.t 43) (.k (.bool true)) (.t 46)),gm 48 47,gq 49 48 false (.ffa (.t 1) 4),gq 50 48 false (.ld (.t 49) none),gq 51 48 false (.bin .gtr (.t 50) (xk .i64 65535)),gg 52 (.pick (.t 48) (.k (.bool true)) (.t 51)),gm 53 52,gq 54 53 false (.ffa (.t 1) 9),gq 55 53 false (.ld (.t 54) none),gq 56 53 false (.len false (.t 55)),gq 57 53 false (.bin .gtr (.t 56) (xk .i64 0)),gg 58 (.pick (.t 53) (.k (.bool true)) (.t 57))] (.cond (.t 58) (sr [gg 2 (.mov (.k (.string (ByteArray.mk #[])))),gg 3 (.mov (xk .i64 2))] .ret) .skip)) (.cut (.drt (.q (gg 59 (.ffa (.t 1) 0)) 0 (.q (gg 60 (.ld (.t 59) none)) 1 (.q (gg 61 (.cvi .u8 (.t 60))) 2 (.q (gg 62 (.ffa (.t 1) 1)) 3 (.q (gg 63 (.ld (.t 62) none)) 4 (.q (gg 64 (.cvi .u8 (.t 63))) 5 (.q (gg 68 (.ffa (.t 1) 3)) 9 (.q (gg 69 (.ld (.t 68) none)) 10 (.q (gg 70 (.cvi .u64 (.t 69))) 11 (.q (gg 73 (.ffa (.t 1) 5)) 14 (.q (gg 74 (.ld (.t 73) none)) 15 (.q (gg 75 (.cvi .u64 (.t 74))) 16 (.q (gg 78 (.ffa (.t 1) 4)) 19 (.q (gg 79 (.ld (.t 78) none)) 20 (.q (gg 80 (.cvi .u16 (.t 79))) 21 (.q (gg 81 (.cvi .u64 (.t 80))) 22 (.q (gg 84 (.ffa (.t 1) 2)) 25 (.q (gg 85 (.ld (.t 84) none)) 26 (.q (gg 86 (.cvi .u8 (.t 85))) 27 (.alt (gg 65 (.bsl 5 1 2 [(.int .u8 ((0:Nat):Int)),(.int .u8 ((0:Nat):Int))] [(0,(1,(.t 61))),(1,(1,(.t 64)))])) 6 [26,20,15,10] (.q (gg 66 (.b2s (.t 65))) 7 (.q (gg 67 (.bin .add (.k (.string (ByteArray.mk #[79,112,117,115,72,101,97,100]))) (.t 66))) 8 (.alt (gg 71 (.call 46 [(.t 70),(xk .i64 2)])) 12 [7,26,20,15] (.q (gg 72 (.bin .add (.t 67) (.t 71))) 13 (.alt (gg 76 (.call 46 [(.t 75),(xk .i64 4)])) 17 [7,26,20] (.q (gg 77 (.bin .add (.t 72) (.t 76))) 18 (.alt (gg 82 (.call 46 [(.t 81),(xk .i64 2)])) 23 [7,26] (.q (gg 83 (.bin .add (.t 77) (.t 82))) 24 (.l (gg 87 (.bsl 5 1 1 [(.int .u8 ((0:Nat):Int))] [(0,(1,(.t 86)))])) 28 [7] (.q (gg 88 (.b2s (.t 87))) 29 (.q (gg 89 (.bin .add (.t 83) (.t 88))) 30 (.q (gm 4 89) 31 .stop))))) (.l (gg 87 (.bsl 5 1 1 [(.int .u8 ((0:Nat):Int))] [(0,(1,(.t 86)))])) 28 [7,20] (.q (gg 88 (.b2s (.t 87))) 29 (.l (gg 82 (.call 46 [(.t 81),(xk .i64 2)])) 23 [29,7] (.q (gg 83 (.bin .add (.t 77) (.t 82))) 24 (.q (gg 89 (.bin .add (.t 83) (.t 88))) 30 (.q (gm 4 89) 31 .stop)))))))) (.l (gg 87 (.bsl 5 1 1 [(.int .u8 ((0:Nat):Int))] [(0,(1,(.t 86)))])) 28 [7,20,15] (.q (gg 88 (.b2s (.t 87))) 29 (.l (gg 76 (.call 46 [(.t 75),(xk .i64 4)])) 17 [29,7,20] (.q (gg 77 (.bin .add (.t 72) (.t 76))) 18 (.l (gg 82 (.call 46 [(.t 81),(xk .i64 2)])) 23 [29,7] (.q (gg 83 (.bin .add (.t 77) (.t 82))) 24 (.q (gg 89 (.bin .add (.t 83) (.t 88))) 30 (.q (gm 4 89) 31 .stop)))))))))) (.l (gg 87 (.bsl 5 1 1 [(.int .u8 ((0:Nat):Int))] [(0,(1,(.t 86)))])) 28 [7,20,15,10] (.q (gg 88 (.b2s (.t 87))) 29 (.l (gg 71 (.call 46 [(.t 70),(xk .i64 2)])) 12 [29,7,20,15] (.q (gg 72 (.bin .add (.t 67) (.t 71))) 13 (.l (gg 76 (.call 46 [(.t 75),(xk .i64 4)])) 17 [29,7,20] (.q (gg 77 (.bin .add (.t 72) (.t 76))) 18 (.l (gg 82 (.call 46 [(.t 81),(xk .i64 2)])) 23 [29,7] (.q (gg 83 (.bin .add (.t 77) (.t 82))) 24 (.q (gg 89 (.bin .add (.t 83) (.t 88))) 30 (.q (gm 4 89) 31 .stop))))))))))))) (.alt (gg 71 (.call 46 [(.t 70),(xk .i64 2)])) 12 [26,20,15,4,1] (.alt (gg 65 (.bsl 5 1 2 [(.int .u8 ((0:Nat):Int)),(.int .u8 ((0:Nat):Int))] [(0,(1,(.t 61))),(1,(1,(.t 64)))])) 6 [26,20,15] (.q (gg 66 (.b2s (.t 65))) 7 (.q (gg 67 (.bin .add (.k (.string (ByteArray.mk #[79,112,117,115,72,101,97,100]))) (.t 66))) 8 (.q (gg 72 (.bin .add (.t 67) (.t 71))) 13 (.alt (gg 76 (.call 46 [(.t 75),(xk .i64 4)])) 17 [7,26,20] (.q (gg 77 (.bin .add (.t 72) (.t 76))) 18 (.alt (gg 82 (.call 46 [(.t 81),(xk .i64 2)])) 23 [7,26] (.q (gg 83 (.bin .add (.t 77) (.t 82))) 24 (.l (gg 87 (.bsl 5 1 1 [(.int .u8 ((0:Nat):Int))] [(0,(1,(.t 86)))])) 28 [7] (.q (gg 88 (.b2s (.t 87))) 29 (.q (gg 89 (.bin .add (.t 83) (.t 88))) 30 (.q (gm 4 89) 31 .stop))))) (.l (gg 87 (.bsl 5 1 1 [(.int .u8 ((0:Nat):Int))] [(0,(1,(.t 86)))])) 28 [7,20] (.q (gg 88 (.b2s (.t 87))) 29 (.l (gg 82 (.call 46 [(.t 81),(xk .i64 2)])) 23 [29,7] (.q (gg 83 (.bin .add (.t 77) (.t 82))) 24 (.q (gg 89 (.bin .add (.t 83) (.t 88))) 30 (.q (gm 4 89) 31 .stop)))))))) (.l (gg 87 (.bsl 5 1 1 [(.int .u8 ((0:Nat):Int))] [(0,(1,(.t 86)))])) 28 [7,20,15] (.q (gg 88 (.b2s (.t 87))) 29 (.l (gg 76 (.call 46 [(.t 75),(xk .i64 4)])) 17 [29,7,20] (.q (gg 77 (.bin .add (.t 72) (.t 76))) 18 (.l (gg 82 (.call 46 [(.t 81),(xk .i64 2)])) 23 [29,7] (.q (gg 83 (.bin .add (.t 77) (.t 82))) 24 (.q (gg 89 (.bin .add (.t 83) (.t 88))) 30 (.q (gm 4 89) 31 .stop)))))))))))) (.alt (gg 76 (.call 46 [(.t 75),(xk .i64 4)])) 17 [26,20,4,1] (.alt (gg 65 (.bsl 5 1 2 [(.int .u8 ((0:Nat):Int)),(.int .u8 ((0:Nat):Int))] [(0,(1,(.t 61))),(1,(1,(.t 64)))])) 6 [26,20] (.q (gg 66 (.b2s (.t 65))) 7 (.q (gg 67 (.bin .add (.k (.string (ByteArray.mk #[79,112,117,115,72,101,97,100]))) (.t 66))) 8 (.q (gg 72 (.bin .add (.t 67) (.t 71))) 13 (.q (gg 77 (.bin .add (.t 72) (.t 76))) 18 (.alt (gg 82 (.call 46 [(.t 81),(xk .i64 2)])) 23 [7,26] (.q (gg 83 (.bin .add (.t 77) (.t 82))) 24 (.l (gg 87 (.bsl 5 1 1 [(.int .u8 ((0:Nat):Int))] [(0,(1,(.t 86)))])) 28 [7] (.q (gg 88 (.b2s (.t 87))) 29 (.q (gg 89 (.bin .add (.t 83) (.t 88))) 30 (.q (gm 4 89) 31 .stop))))) (.l (gg 87 (.bsl 5 1 1 [(.int .u8 ((0:Nat):Int))] [(0,(1,(.t 86)))])) 28 [7,20] (.q (gg 88 (.b2s (.t 87))) 29 (.l (gg 82 (.call 46 [(.t 81),(xk .i64 2)])) 23 [29,7] (.q (gg 83 (.bin .add (.t 77) (.t 82))) 24 (.q (gg 89 (.bin .add (.t 83) (.t 88))) 30 (.q (gm 4 89) 31 .stop))))))))))) (.alt (gg 82 (.call 46 [(.t 81),(xk .i64 2)])) 23 [26,4,1] (.alt (gg 65 (.bsl 5 1 2 [(.int .u8 ((0:Nat):Int)),(.int .u8 ((0:Nat):Int))] [(0,(1,(.t 61))),(1,(1,(.t 64)))])) 6 [26] (.q (gg 66 (.b2s (.t 65))) 7 (.q (gg 67 (.bin .add (.k (.string (ByteArray.mk #[79,112,117,115,72,101,97,100]))) (.t 66))) 8 (.q (gg 72 (.bin .add (.t 67) (.t 71))) 13 (.q (gg 77 (.bin .add (.t 72) (.t 76))) 18 (.q (gg 83 (.bin .add (.t 77) (.t 82))) 24 (.l (gg 87 (.bsl 5 1 1 [(.int .u8 ((0:Nat):Int))] [(0,(1,(.t 86)))])) 28 [7] (.q (gg 88 (.b2s (.t 87))) 29 (.q (gg 89 (.bin .add (.t 83) (.t 88))) 30 (.q (gm 4 89) 31 .stop))))))))) (.l (gg 87 (.bsl 5 1 1 [(.int .u8 ((0:Nat):Int))] [(0,(1,(.t 86)))])) 28 [4,1] (.q (gg 88 (.b2s (.t 87))) 29 (.l (gg 65 (.bsl 5 1 2 [(.int .u8 ((0:Nat):Int)),(.int .u8 ((0:Nat):Int))] [(0,(1,(.t 61))),(1,(1,(.t 64)))])) 6 [29] (.q (gg 66 (.b2s (.t 65))) 7 (.q (gg 67 (.bin .add (.k (.string (ByteArray.mk #[79,112,117,115,72,101,97,100]))) (.t 66))) 8 (.q (gg 72 (.bin .add (.t 67) (.t 71))) 13 (.q (gg 77 (.bin .add (.t 72) (.t 76))) 18 (.q (gg 83 (.bin .add (.t 77) (.t 82))) 24 (.q (gg 89 (.bin .add (.t 83) (.t 88))) 30 (.q (gm 4 89) 31 .stop))))))))))) (.l (gg 87 (.bsl 5 1 1 [(.int .u8 ((0:Nat):Int))] [(0,(1,(.t 86)))])) 28 [20,4,1] (.q (gg 88 (.b2s (.t 87))) 29 (.alt (gg 65 (.bsl 5 1 2 [(.int .u8 ((0:Nat):Int)),(.int .u8 ((0:Nat):Int))] [(0,(1,(.t 61))),(1,(1,(.t 64)))])) 6 [29,20] (.q (gg 66 (.b2s (.t 65))) 7 (.q (gg 67 (.bin .add (.k (.string (ByteArray.mk #[79,112,117,115,72,101,97,100]))) (.t 66))) 8 (.q (gg 72 (.bin .add (.t 67) (.t 71))) 13 (.q (gg 77 (.bin .add (.t 72) (.t 76))) 18 (.l (gg 82 (.call 46 [(.t 81),(xk .i64 2)])) 23 [7,29] (.q (gg 83 (.bin .add (.t 77) (.t 82))) 24 (.q (gg 89 (.bin .add (.t 83) (.t 88))) 30 (.q (gm 4 89) 31 .stop)))))))) (.l (gg 82 (.call 46 [(.t 81),(xk .i64 2)])) 23 [29,4,1] (.l (gg 65 (.bsl 5 1 2 [(.int .u8 ((0:Nat):Int)),(.int .u8 ((0:Nat):Int))] [(0,(1,(.t 61))),(1,(1,(.t 64)))])) 6 [29] (.q (gg 66 (.b2s (.t 65))) 7 (.q (gg 67 (.bin .add (.k (.string (ByteArray.mk #[79,112,117,115,72,101,97,100]))) (.t 66))) 8 (.q (gg 72 (.bin .add (.t 67) (.t 71))) 13 (.q (gg 77 (.bin .add (.t 72) (.t 76))) 18 (.q (gg 83 (.bin .add (.t 77) (.t 82))) 24 (.q (gg 89 (.bin .add (.t 83) (.t 88))) 30 (.q (gm 4 89) 31 .stop)))))))))))))) (.l (gg 87 (.bsl 5 1 1 [(.int .u8 ((0:Nat):Int))] [(0,(1,(.t 86)))])) 28 [20,15,4,1] (.q (gg 88 (.b2s (.t 87))) 29 (.alt (gg 65 (.bsl 5 1 2 [(.int .u8 ((0:Nat):Int)),(.int .u8 ((0:Nat):Int))] [(0,(1,(.t 61))),(1,(1,(.t 64)))])) 6 [29,20,15] (.q (gg 66 (.b2s (.t 65))) 7 (.q (gg 67 (.bin .add (.k (.string (ByteArray.mk #[79,112,117,115,72,101,97,100]))) (.t 66))) 8 (.q (gg 72 (.bin .add (.t 67) (.t 71))) 13 (.l (gg 76 (.call 46 [(.t 75),(xk .i64 4)])) 17 [7,29,20] (.q (gg 77 (.bin .add (.t 72) (.t 76))) 18 (.l (gg 82 (.call 46 [(.t 81),(xk .i64 2)])) 23 [7,29] (.q (gg 83 (.bin .add (.t 77) (.t 82))) 24 (.q (gg 89 (.bin .add (.t 83) (.t 88))) 30 (.q (gm 4 89) 31 .stop))))))))) (.l (gg 76 (.call 46 [(.t 75),(xk .i64 4)])) 17 [29,20,4,1] (.alt (gg 65 (.bsl 5 1 2 [(.int .u8 ((0:Nat):Int)),(.int .u8 ((0:Nat):Int))] [(0,(1,(.t 61))),(1,(1,(.t 64)))])) 6 [29,20] (.q (gg 66 (.b2s (.t 65))) 7 (.q (gg 67 (.bin .add (.k (.string (ByteArray.mk #[79,112,117,115,72,101,97,100]))) (.t 66))) 8 (.q (gg 72 (.bin .add (.t 67) (.t 71))) 13 (.q (gg 77 (.bin .add (.t 72) (.t 76))) 18 (.l (gg 82 (.call 46 [(.t 81),(xk .i64 2)])) 23 [7,29] (.q (gg 83 (.bin .add (.t 77) (.t 82))) 24 (.q (gg 89 (.bin .add (.t 83) (.t 88))) 30 (.q (gm 4 89) 31 .stop)))))))) (.l (gg 82 (.call 46 [(.t 81),(xk .i64 2)])) 23 [29,4,1] (.l (gg 65 (.bsl 5 1 2 [(.int .u8 ((0:Nat):Int)),(.int .u8 ((0:Nat):Int))] [(0,(1,(.t 61))),(1,(1,(.t 64)))])) 6 [29] (.q (gg 66 (.b2s (.t 65))) 7 (.q (gg 67 (.bin .add (.k (.string (ByteArray.mk #[79,112,117,115,72,101,97,100]))) (.t 66))) 8 (.q (gg 72 (.bin .add (.t 67) (.t 71))) 13 (.q (gg 77 (.bin .add (.t 72) (.t 76))) 18 (.q (gg 83 (.bin .add (.t 77) (.t 82))) 24 (.q (gg 89 (.bin .add (.t 83) (.t 88))) 30 (.q (gm 4 89) 31 .stop)))))))))))))))) (.l (gg 87 (.bsl 5 1 1 [(.int .u8 ((0:Nat):Int))] [(0,(1,(.t 86)))])) 28 [20,15,10,4,1] (.q (gg 88 (.b2s (.t 87))) 29 (.alt (gg 65 (.bsl 5 1 2 [(.int .u8 ((0:Nat):Int)),(.int .u8 ((0:Nat):Int))] [(0,(1,(.t 61))),(1,(1,(.t 64)))])) 6 [29,20,15,10] (.q (gg 66 (.b2s (.t 65))) 7 (.q (gg 67 (.bin .add (.k (.string (ByteArray.mk #[79,112,117,115,72,101,97,100]))) (.t 66))) 8 (.l (gg 71 (.call 46 [(.t 70),(xk .i64 2)])) 12 [7,29,20,15] (.q (gg 72 (.bin .add (.t 67) (.t 71))) 13 (.l (gg 76 (.call 46 [(.t 75),(xk .i64 4)])) 17 [7,29,20] (.q (gg 77 (.bin .add (.t 72) (.t 76))) 18 (.l (gg 82 (.call 46 [(.t 81),(xk .i64 2)])) 23 [7,29] (.q (gg 83 (.bin .add (.t 77) (.t 82))) 24 (.q (gg 89 (.bin .add (.t 83) (.t 88))) 30 (.q (gm 4 89) 31 .stop)))))))))) (.l (gg 71 (.call 46 [(.t 70),(xk .i64 2)])) 12 [29,20,15,4,1] (.alt (gg 65 (.bsl 5 1 2 [(.int .u8 ((0:Nat):Int)),(.int .u8 ((0:Nat):Int))] [(0,(1,(.t 61))),(1,(1,(.t 64)))])) 6 [29,20,15] (.q (gg 66 (.b2s (.t 65))) 7 (.q (gg 67 (.bin .add (.k (.string (ByteArray.mk #[79,112,117,115,72,101,97,100]))) (.t 66))) 8 (.q (gg 72 (.bin .add (.t 67) (.t 71))) 13 (.l (gg 76 (.call 46 [(.t 75),(xk .i64 4)])) 17 [7,29,20] (.q (gg 77 (.bin .add (.t 72) (.t 76))) 18 (.l (gg 82 (.call 46 [(.t 81),(xk .i64 2)])) 23 [7,29] (.q (gg 83 (.bin .add (.t 77) (.t 82))) 24 (.q (gg 89 (.bin .add (.t 83) (.t 88))) 30 (.q (gm 4 89) 31 .stop))))))))) (.l (gg 76 (.call 46 [(.t 75),(xk .i64 4)])) 17 [29,20,4,1] (.alt (gg 65 (.bsl 5 1 2 [(.int .u8 ((0:Nat):Int)),(.int .u8 ((0:Nat):Int))] [(0,(1,(.t 61))),(1,(1,(.t 64)))])) 6 [29,20] (.q (gg 66 (.b2s (.t 65))) 7 (.q (gg 67 (.bin .add (.k (.string (ByteArray.mk #[79,112,117,115,72,101,97,100]))) (.t 66))) 8 (.q (gg 72 (.bin .add (.t 67) (.t 71))) 13 (.q (gg 77 (.bin .add (.t 72) (.t 76))) 18 (.l (gg 82 (.call 46 [(.t 81),(xk .i64 2)])) 23 [7,29] (.q (gg 83 (.bin .add (.t 77) (.t 82))) 24 (.q (gg 89 (.bin .add (.t 83) (.t 88))) 30 (.q (gm 4 89) 31 .stop)))))))) (.l (gg 82 (.call 46 [(.t 81),(xk .i64 2)])) 23 [29,4,1] (.l (gg 65 (.bsl 5 1 2 [(.int .u8 ((0:Nat):Int)),(.int .u8 ((0:Nat):Int))] [(0,(1,(.t 61))),(1,(1,(.t 64)))])) 6 [29] (.q (gg 66 (.b2s (.t 65))) 7 (.q (gg 67 (.bin .add (.k (.string (ByteArray.mk #[79,112,117,115,72,101,97,100]))) (.t 66))) 8 (.q (gg 72 (.bin .add (.t 67) (.t 71))) 13 (.q (gg 77 (.bin .add (.t 72) (.t 76))) 18 (.q (gg 83 (.bin .add (.t 77) (.t 82))) 24 (.q (gg 89 (.bin .add (.t 83) (.t 88))) 30 (.q (gm 4 89) 31 .stop)))))))))))))))))))))))))))))))))))))) (.cut (sr [gg 90 (.ffa (.t 1) 2),gg 91 (.ld (.t 90) none),gg 92 (.bin .eql (.t 91) (xk .i64 0))] (.cond (.t 92) (sr [gm 93 4,gg 94 (.ffa (.t 1) 6),gg 95 (.ld (.t 94) none),gg 96 (.bin .eql (.t 95) (xk .i64 0)),gm 97 96,gq 98 97 true (.ffa (.t 1) 7),gq 99 97 true (.ld (.t 98) none),gq 100 97 true (.bin .eql (.t 99) (xk .i64 0)),gg 101 (.pick (.t 97) (.t 100) (.k (.bool false))),gm 102 101,gq 103 102 true (.ffa (.t 1) 8),gq 104 102 true (.ld (.t 103) none),gq 105 102 true (.bin .eql (.t 104) (.k (.string (ByteArray.mk #[])))),gg 106 (.pick (.t 102) (.t 105) (.k (.bool false))),gm 107 106,gq 108 107 true (.ffa (.t 1) 1),gq 109 107 true (.ld (.t 108) none),gq 110 107 true (.bin .leq (.t 109) (xk .i64 2)),gg 111 (.pick (.t 107) (.t 110) (.k (.bool false))),gg 112 (.call 48 [(.t 111)]),gm 2 93,gm 3 112] .ret) .skip)) (.cut (sr [gg 113 (.ffa (.t 1) 6),gg 114 (.ld (.t 113) none),gg 115 (.bin .lss (.t 114) (xk .i64 1)),gm 116 115,gq 117 116 false (.ffa (.t 1) 6),gq 118 116 false (.ld (.t 117) none),gq 119 116 false (.bin .gtr (.t 118) (xk .i64 255)),gg 120 (.pick (.t 116) (.k (.bool true)) (.t 119)),gm 121 120,gq 122 121 false (.ffa (.t 1) 7),gq 123 121 false (.ld (.t 122) none),gq 124 121 false (.bin .lss (.t 123) (xk .i64 0)),gg 125 (.pick (.t 121) (.k (.bool true)) (.t 124)),gm 126 125,gq 127 126 false (.ffa (.t 1) 7),gq 128 126 false (.ld (.t 127) none),gq 129 126 false (.ffa (.t 1) 6),gq 130 126 false (.ld (.t 129) none),gq 131 126 false (.bin .gtr (.t 128) (.t 130)),gg 132 (.pick (.t 126) (.k (.bool true)) (.t 131)),gm 133 132,gq 134 133 false (.ffa (.t 1) 6),gq 135 133 false (.ld (.t 134) none),gq 136 133 false (.ffa (.t 1) 7),gq 137 133 false (.ld (.t 136) none),gq 138 133 false (.bin .add (.t 135) (.t 137)),gq 139 133 false (.bin .gtr (.t 138) (xk .i64 255)),gg 140 (.pick (.t 133) (.k (.bool true)) (.t 139)),gm 141 140,gq 142 141 false (.ffa (.t 1) 8),gq 143 141 false (.ld (.t 142) none),gq 144 141 false (.len true (.t 143)),gq 145 141 false (.ffa (.t 1) 1),gq 146 141 false (.ld (.t 145) none),gq 147 141 false (.bin .neq (.t 144) (.t 146)),gg 148 (.pick (.t 141) (.k (.bool true)) (.t 147)),gm 149 148,gq 150 149 false (.ffa (.t 1) 2),gq 151 149 false (.ld (.t 150) none),gq 152 149 false (.bin .neq (.t 151) (xk .i64 1)),gq 153 149 false (.mov (.t 152)),gq 154 153 true (.ffa (.t 1) 2),gq 155 153 true (.ld (.t 154) none),gq 156 153 true (.bin .neq (.t 155) (xk .i64 255)),gq 157 149 false (.pick (.t 153) (.t 156) (.k (.bool false))),gg 158 (.pick (.t 149) (.k (.bool true)) (.t 157))] (.cond (.t 158) (sr [gg 2 (.mov (.k (.string (ByteArray.mk #[])))),gg 3 (.mov (xk .i64 2))] .ret) .skip)) (sr [gm 159 4,gg 160 (.ffa (.t 1) 6),gg 161 (.ld (.t 160) none),gg 162 (.cvi .u8 (.t 161)),gg 163 (.ffa (.t 1) 7),gg 164 (.ld (.t 163) none),gg 165 (.cvi .u8 (.t 164)),gg 166 (.bsl 5 1 2 [(.int .u8 ((0:Nat):Int)),(.int .u8 ((0:Nat):Int))] [(0,(1,(.t 162))),(1,(1,(.t 165)))]),gg 167 (.b2s (.t 166)),gg 168 (.bin .add (.t 159) (.t 167)),gg 169 (.ffa (.t 1) 8),gg 170 (.ld (.t 169) none),gg 171 (.bin .add (.t 168) (.t 170)),gm 2 171,gg 3 (.mov (xk .i64 1))] .ret)))))) 1 [(.t 2),(.t 3)]) := by kernel_rfl
end Go.Proofs.YtokkphocaloelaaGreatDoor

end
section
namespace Go.Proofs.YtokkphocaloelaaGreatDoor
open Go Go.Vc
set_option maxRecDepth 100000
set_option maxHeartbeats 8000000

theorem nxor32 {a b:Nat} (ha:a < 4294967296) (hb:b < 4294967296):IntKind.u32.wrap (((BitVec.ofInt IntKind.u32.bits (a:Int) ^^^ BitVec.ofInt IntKind.u32.bits (b:Int)).toNat:Nat):Int) = ((a ^^^ b:Nat):Int) := by
 have e:(BitVec.ofInt IntKind.u32.bits (a:Int) ^^^ BitVec.ofInt IntKind.u32.bits (b:Int)).toNat = a ^^^ b := by
   show (BitVec.ofInt 32 (a:Int) ^^^ BitVec.ofInt 32 (b:Int)).toNat = _
   rw [BitVec.toNat_xor,BitVec.toNat_ofInt,BitVec.toNat_ofInt]
   congr 1 <;> omega
 rw [e]
 exact nwrap32 (Nat.xor_lt_two_pow (n := 32) ha hb)
def le:List Int → Nat
 | [] => 0
 | x :: r => x.toNat + 256 * le r
theorem le_lt {l:List Int} (h:∀ x ∈ l,0 ≤ x ∧ x < 256):le l < 256 ^ l.length := by
 induction l with
 | nil => exact Nat.one_pos
 | cons x r ih =>
   have := ih fun y hy => h y (List.mem_cons_of_mem _ hy)
   have hx := h x (List.mem_cons_self ..)
   show x.toNat + 256 * le r < 256 ^ (r.length + 1)
   rw [Nat.pow_succ]
   omega
def leL (n size:Nat):List Int := (List.range size).map fun i => ((n / 256 ^ i % 256:Nat):Int)
theorem leL_len (n size:Nat):(leL n size).length = size := by simp [leL]
theorem leL_succ (n size:Nat):leL n (size + 1) = leL n size ++ [((n / 256 ^ size % 256:Nat):Int)] := by simp [leL,List.range_succ]
theorem leL_bytes (n size:Nat):∀ x ∈ leL n size,0 ≤ x ∧ x < 256 := by
 intro x hx
 obtain ⟨i,_,rfl⟩ := List.mem_map.1 hx
 omega
theorem bytes_at {b:ByteArray} {i:Nat} {x:Int} (h:(bytesOf b)[i]? = some x):∃ y:UInt8,b[i]? = some y ∧ x = (y.toNat:Int) := by
 unfold bytesOf at h
 rw [List.getElem?_map] at h
 obtain ⟨y,hy,rfl⟩ := Option.map_eq_some_iff.1 h
 refine ⟨y,?_,rfl⟩
 rw [Array.getElem?_toList] at hy
 have hi:i < b.size := (Array.getElem?_eq_some_iff.1 hy).1
 rw [getElem?_pos b i hi]
 obtain ⟨h1,h2⟩ := Array.getElem?_eq_some_iff.1 hy
 rw [← h2]
 rfl
theorem si_at {b:ByteArray} {i:Nat} {y:UInt8} (h:b[i]? = some y):(if (0:Int) ≤ ((i:Nat):Int) then b[((i:Nat):Int).toNat]? else none) = some y := by
 rw [if_pos (by omega),Int.toNat_natCast]
 exact h
theorem leastOfW (w0:World) {b:ByteArray} (h8:b.size ≤ 8):CallsA Tryz.prog w0 89 [.c (.val (.string b))] [] fun r H => r = .o (.c (.val (.int .u64 (le (bytesOf b):Nat)))) ∧ H = [] := by
 have hbl := bytesOf_len b
 have hbb := bytesOf_lt b
 refine callsA_of_ev c89_ ?_
 conv => whnf
 refine Or.inl ?_
 conv => whnf
 refine ⟨{j:Nat // j ≤ b.size},fun ⟨j,_⟩ => ⟨[(0,.o (.c (.val (.string b)))),(3,.o (.c (.val (.int .u64 (le ((bytesOf b).drop j):Nat))))),(4,.o (.c (.val (.int .i64 ((j:Int) - 1)))))],[]⟩,fun j => j.1,⟨⟨b.size,Nat.le_refl _⟩,[],⟨rfl,trivial,rfl⟩,rfl,?_,eq_i64 ?_,trivial⟩,fun ⟨j,hj⟩ => ?_⟩
 · rw [List.drop_of_length_le (by omega)]
   rfl
 · rw [IntKind.wrap_i64]
   omega
 conv => whnf
 refine ⟨fun g => ?_,fun g => ?_⟩
 · have g:(j:Int) - 1 ≥ 0 := of_decide_eq_true g
   obtain ⟨i,rfl⟩:∃ i,j = i + 1 := ⟨j - 1,by omega⟩
   obtain ⟨x,hx⟩:∃ x,(bytesOf b)[i]? = some x := ⟨_,List.getElem?_eq_getElem (by omega)⟩
   obtain ⟨y,hy,rfl⟩ := bytes_at hx
   have hdr:(bytesOf b).drop i = (y.toNat:Int) :: (bytesOf b).drop (i + 1) := by
     rw [List.drop_eq_getElem_cons (by omega)]
     rw [List.getElem?_eq_getElem (by omega)] at hx
     rw [Option.some.inj hx]
   have hlt := le_lt (l := (bytesOf b).drop (i + 1)) fun x hx => hbb x (List.mem_of_mem_drop hx)
   rw [List.length_drop] at hlt
   have hlt2:le ((bytesOf b).drop (i + 1)) < 256 ^ 7 := Nat.lt_of_lt_of_le hlt (Nat.pow_le_pow_right (by omega) (by omega))
   have hy8 := y.toNat_lt
   conv => whnf
   have e1:(((i + 1:Nat):Int) - 1) = ((i:Nat):Int) := by omega
   rw [e1]
   refine ⟨y,si_at hy,?_⟩
   conv => whnf
   refine ⟨⟨i,by omega⟩,⟨[],⟨rfl,trivial,rfl⟩,rfl,eq_u64 ?_,eq_i64 ?_,trivial⟩,Nat.lt_succ_self i⟩
   · have hsh:IntKind.u64.wrap (((le ((bytesOf b).drop (i + 1)):Nat):Int) * (2:Int) ^ min 8 IntKind.u64.bits) = ((le ((bytesOf b).drop (i + 1)) * 2 ^ 8:Nat):Int) := by
       rw [nshl64 _ 8 (by omega),nwrap64 (by omega)]
     rw [hsh,nwrap64 (n := y.toNat) (by omega),nor64 (by omega) (by omega),hdr]
     show _ = (((y.toNat:Int).toNat + 256 * le ((bytesOf b).drop (i + 1)):Nat):Int)
     rw [Int.toNat_natCast,Nat.mul_comm _ (2 ^ 8),← Nat.two_pow_add_eq_or_of_lt (i := 8) (by omega),Nat.add_comm]
   · rw [IntKind.wrap_i64]
     omega
 · have g:¬ (j:Int) - 1 ≥ 0 := of_decide_eq_false g
   obtain rfl:j = 0 := by omega
   conv => whnf
   exact Or.inl ⟨rfl,rfl⟩
def leZ (n size j:Nat):List Int := leL n j ++ List.replicate (size - j) 0
theorem leZ_len (n:Nat) {size j:Nat} (h:j ≤ size):(leZ n size j).length = size := by
 unfold leZ
 rw [List.length_append,leL_len,List.length_replicate]
 omega
theorem leZ_set (n:Nat) {size j:Nat} (h:j < size):(leZ n size j).set j ((n / 256 ^ j % 256:Nat):Int) = leZ n size (j + 1) := by
 unfold leZ
 rw [leL_succ,List.set_append_right _ _ (by rw [leL_len]; omega),leL_len,Nat.sub_self,show size - j = (size - (j + 1)) + 1 by omega,List.replicate_succ,List.set_cons_zero]
 simp
theorem leastW (w0:World) (n:Nat) {size:Nat} (hs:size ≤ 8):CallsA Tryz.prog w0 46 [.c (.val (.int .u64 n)),.c (.val (.int .i64 size))] [] fun r H => H = [] ∧ r = .o (.c (.val (.string (strOf (leL n size))))) := by
 refine callsA_of_ev c46_ ?_
 conv => whnf
 refine ⟨⟨by omega,by omega,by omega,by omega,by decide⟩,Int,encI .u8,[],0,fun _ => rfl,rfl,?_⟩
 conv => whnf
 refine Or.inl ?_
 conv => whnf
 refine ⟨{j:Nat // j ≤ size},fun ⟨j,_⟩ => ⟨[(0,.o (.c (.val (.int .u64 n)))),(5,.o (.c (.vec 0 size))),(9,.o (.c (.val (.int .i64 size)))),(10,.o (.c (.val (.int .i64 j))))],[.vec true 5 (encI .u8) [] 1 (leZ n size j)]⟩,fun j => size - j.1,⟨⟨0,Nat.zero_le _⟩,[0],⟨rfl,⟨rfl,rfl,trivial⟩,rfl⟩,?_⟩,fun ⟨j,hj⟩ => ?_⟩
 · exact ⟨rfl,rfl,rfl,rfl,trivial⟩
 conv => whnf
 refine ⟨fun g => ?_,fun g => ?_⟩
 · have g:j < size := lt_t g
   conv => whnf
   rw [nmul,nwrapi (n := 8 * j) (by omega),nshrv64 n (8 * j) (by omega)]
   refine ⟨by omega,?_⟩
   conv => whnf
   have hx:∃ x,(leZ n size j)[((j:Nat):Int).toNat]? = some x := ⟨_,List.getElem?_eq_getElem (by rw [leZ_len n hj,Int.toNat_natCast]; omega)⟩
   obtain ⟨x,hx⟩ := hx
   refine ⟨⟨by omega,by omega⟩,x,_,hx,rfl,?_⟩
   conv => whnf
   refine ⟨⟨j + 1,g⟩,⟨[0],⟨rfl,⟨?_,rfl,trivial⟩,rfl⟩,rfl,rfl,rfl,eq_i64 ?_,trivial⟩,?_⟩
   · rw [Int.toNat_natCast]
     show some (Blk.vec true 5 (encI .u8) [] 1 ((leZ n size j).set j _)) = some (Blk.vec true 5 (encI .u8) [] 1 (leZ n size (j + 1)))
     rw [← leZ_set n g,IntKind.wrap_u8,Nat.pow_mul]
     congr 3
   · rw [nadd,nwrapi (by omega)]
   · show size - (j + 1) < size - j
     omega
 · have g:size ≤ j := lt_f g
   obtain rfl:j = size := by omega
   conv => whnf
   have hz:leZ n j j = leL n j := by simp [leZ]
   refine ⟨trivial,leL n j,?_,?_⟩
   · rw [hz]
     exact ⟨rfl,Nat.le_of_eq (leL_len n j).symm,leL_len n j,by rw [List.take_of_length_le (Nat.le_of_eq (leL_len n j))]⟩
   conv => whnf
   exact Or.inr ⟨[],_,[],⟨rfl,trivial,rfl⟩,rfl,rfl,rfl⟩
end Go.Proofs.YtokkphocaloelaaGreatDoor

end
section
namespace Go.Proofs.YtokkphocaloelaaGreatDoor
open Go Go.Vc
set_option maxRecDepth 100000
set_option maxHeartbeats 8000000

def Byt (l:List Int):Prop := ∀ x ∈ l,0 ≤ x ∧ x < 256
theorem Byt.append {a b:List Int} (ha:Byt a) (hb:Byt b):Byt (a ++ b) := fun x hx => (List.mem_append.1 hx).elim (ha x) (hb x)
theorem Byt.drop {a:List Int} (ha:Byt a) (n:Nat):Byt (a.drop n) := fun x hx => ha x (List.mem_of_mem_drop hx)
theorem Byt.take {a:List Int} (ha:Byt a) (n:Nat):Byt (a.take n) := fun x hx => ha x (List.mem_of_mem_take hx)
theorem byt_bytes (b:ByteArray):Byt (bytesOf b) := bytesOf_lt b
theorem strOf_dat (l:List Int):∀ r:ByteArray,(l.foldl (fun r n => r.push (UInt8.ofNat n.toNat)) r).data.toList = r.data.toList ++ l.map fun n => UInt8.ofNat n.toNat := by
 induction l with
 | nil => intro r; simp
 | cons x t ih =>
   intro r
   rw [List.foldl_cons,ih]
   simp
theorem strOf_lst (l:List Int):(strOf l).data.toList = l.map fun n => UInt8.ofNat n.toNat := by
 show (List.foldl _ ByteArray.empty l).data.toList = _
 rw [strOf_dat]
 rfl
theorem ba_ext {a b:ByteArray} (h:a.data.toList = b.data.toList):a = b := ByteArray.ext (Array.ext' h)
theorem strOf_add (a b:List Int):strOf (a ++ b) = strOf a ++ strOf b := by
 apply ba_ext
 rw [strOf_lst,ByteArray.toList_data_append,strOf_lst,strOf_lst,List.map_append]
theorem strOf_siz (l:List Int):(strOf l).size = l.length := by
 have := congrArg List.length (strOf_lst l)
 rw [List.length_map] at this
 rw [← this]
 exact Array.length_toList.symm
theorem bytes_str {l:List Int} (h:Byt l):bytesOf (strOf l) = l := by
 unfold bytesOf
 rw [strOf_lst,List.map_map]
 conv => rhs; rw [← List.map_id l]
 apply List.map_congr_left
 intro x hx
 have := h x hx
 simp only [Function.comp,id,UInt8.toNat_ofNat']
 omega
theorem str_bytes (b:ByteArray):strOf (bytesOf b) = b := by
 apply ba_ext
 rw [strOf_lst]
 unfold bytesOf
 rw [List.map_map]
 conv => rhs; rw [← List.map_id b.data.toList]
 apply List.map_congr_left
 intro x _
 simp
theorem str_inj {a b:List Int} (ha:Byt a) (hb:Byt b) (h:strOf a = strOf b):a = b := by rw [← bytes_str ha,← bytes_str hb,h]
theorem bytes_inj {a b:ByteArray} (h:bytesOf a = bytesOf b):a = b := by rw [← str_bytes a,← str_bytes b,h]
theorem bytes_add (a b:ByteArray):bytesOf (a ++ b) = bytesOf a ++ bytesOf b := by
 unfold bytesOf
 rw [ByteArray.toList_data_append,List.map_append]
theorem bytes_ext (b:ByteArray) (i j:Nat):bytesOf (b.extract i j) = ((bytesOf b).take j).drop i := by
 unfold bytesOf
 rw [ByteArray.data_extract,Array.toList_extract,List.extract_eq_take_drop,← List.map_take,← List.map_drop,List.drop_take]
def poly:Nat := 79764919
def crc1 (c:Nat):Nat := if c &&& 2147483648 ≠ 0 then (c * 2 % 4294967296) ^^^ poly else c * 2 % 4294967296
def crcN:Nat → Nat → Nat
 | 0,c => c
 | n + 1,c => crc1 (crcN n c)
def crcB (c:Nat) (x:Int):Nat := crcN 8 (c ^^^ x.toNat * 16777216)
def crcS (l:List Int):Nat := l.foldl crcB 0
theorem crc1_lt (c:Nat):crc1 c < 4294967296 := by
 unfold crc1
 split
 · exact Nat.xor_lt_two_pow (n := 32) (Nat.mod_lt _ (by decide)) (by decide)
 · exact Nat.mod_lt _ (by decide)
theorem crcN_lt {c:Nat} (h:c < 4294967296):∀ n,crcN n c < 4294967296
 | 0 => h
 | _ + 1 => crc1_lt _
theorem crcB_lt {c:Nat} {x:Int} (h:c < 4294967296) (hx:x < 256):crcB c x < 4294967296 := crcN_lt (Nat.xor_lt_two_pow (n := 32) h (by show x.toNat * 16777216 < 4294967296; omega)) 8
theorem crcF_lt {l:List Int} (h:Byt l):∀ {c:Nat},c < 4294967296 → l.foldl crcB c < 4294967296 := by
 induction l with
 | nil => intro c hc; exact hc
 | cons x t ih =>
   intro c hc
   exact ih (fun y hy => h y (List.mem_cons_of_mem _ hy)) (crcB_lt hc (h x (List.mem_cons_self ..)).2)
theorem crcS_lt {l:List Int} (h:Byt l):crcS l < 4294967296 := crcF_lt h (by decide)
theorem topbit (c:Nat):(c &&& 2147483648 ≠ 0) ↔ c.testBit 31 = true := by
 constructor
 · intro h
   refine Classical.byContradiction fun hc => h ?_
   apply Nat.eq_of_testBit_eq
   intro i
   rw [Nat.testBit_and,show (2147483648:Nat) = 2 ^ 31 from rfl,Nat.testBit_two_pow,Nat.zero_testBit]
   by_cases hi:31 = i
   · subst hi
     simp at hc
     rw [hc,Bool.false_and]
   · simp [hi]
 · intro h hc
   have := congrArg (Nat.testBit · 31) hc
   simp only [Nat.testBit_and,show (2147483648:Nat) = 2 ^ 31 from rfl,Nat.testBit_two_pow,Nat.zero_testBit,h] at this
   exact Bool.noConfusion this
theorem crc1_bit (c i:Nat):(crc1 c).testBit i = ((decide (i < 32) && (decide (1 ≤ i) && c.testBit (i - 1))) ^^ (c.testBit 31 && poly.testBit i)) := by
 have h:(c * 2 % 4294967296).testBit i = (decide (i < 32) && (decide (1 ≤ i) && c.testBit (i - 1))) := by
   rw [show (4294967296:Nat) = 2 ^ 32 from rfl,Nat.testBit_mod_two_pow,show c * 2 = c * 2 ^ 1 from rfl,Nat.testBit_mul_two_pow]
 unfold crc1
 by_cases hc:c.testBit 31 = true
 · rw [if_pos ((topbit c).2 hc),Nat.testBit_xor,h,hc,Bool.true_and]
 · rw [if_neg (fun h => hc ((topbit c).1 h)),h]
   have:c.testBit 31 = false := by simpa using hc
   rw [this,Bool.false_and,Bool.xor_false]
theorem crc1_xor (a b:Nat):crc1 (a ^^^ b) = crc1 a ^^^ crc1 b := by
 apply Nat.eq_of_testBit_eq
 intro i
 rw [Nat.testBit_xor,crc1_bit,crc1_bit,crc1_bit,Nat.testBit_xor,Nat.testBit_xor]
 cases decide (i < 32) <;> cases decide (1 ≤ i) <;> cases a.testBit (i - 1) <;> cases b.testBit (i - 1) <;> cases a.testBit 31 <;> cases b.testBit 31 <;> cases poly.testBit i <;> rfl
theorem crcN_xor (a b:Nat):∀ n,crcN n (a ^^^ b) = crcN n a ^^^ crcN n b
 | 0 => rfl
 | n + 1 => by rw [crcN,crcN,crcN,crcN_xor a b n,crc1_xor]
theorem crcN_low {a:Nat}:∀ n,n ≤ 31 → a < 2 ^ (32 - n) → crcN n a = a * 2 ^ n
 | 0,_,_ => by simp [crcN]
 | n + 1,hn,h => by
   have h2:a < 2 ^ (32 - n) := Nat.lt_of_lt_of_le h (Nat.pow_le_pow_right (by decide) (by omega))
   rw [crcN,crcN_low n (by omega) h2]
   have h3:a * 2 ^ n < 2 ^ 31 := by
     calc a * 2 ^ n < 2 ^ (32 - (n + 1)) * 2 ^ n := Nat.mul_lt_mul_of_pos_right h (Nat.two_pow_pos n)
       _ = 2 ^ 31 := by rw [← Nat.pow_add]; congr 1; omega
   unfold crc1
   have hb:(a * 2 ^ n).testBit 31 = false := Nat.testBit_lt_two_pow h3
   rw [if_neg fun hc => by rw [(topbit _).1 hc] at hb; exact Bool.noConfusion hb,Nat.mod_eq_of_lt (by omega),Nat.pow_succ,Nat.mul_assoc]
def crcT (i:Nat):Nat := crcN 8 (i * 16777216)
theorem split24 (c:Nat):c = c % 16777216 ^^^ c / 16777216 * 16777216 := by
 have h := Nat.two_pow_add_eq_or_of_lt (i := 24) (b := c % 16777216) (Nat.mod_lt _ (by decide)) (c / 16777216)
 have h2:c % 16777216 ^^^ c / 16777216 * 16777216 = c / 16777216 * 16777216 ||| c % 16777216 := by
   apply Nat.eq_of_testBit_eq
   intro i
   rw [Nat.testBit_xor,Nat.testBit_or,show (16777216:Nat) = 2 ^ 24 from rfl,Nat.testBit_mod_two_pow,Nat.testBit_mul_two_pow]
   by_cases hi:i < 24
   · simp [hi,Nat.not_le.2 hi]
   · simp [hi,Nat.le_of_not_lt hi]
 rw [h2,Nat.mul_comm,show (16777216:Nat) = 2 ^ 24 from rfl,← h]
 exact (Nat.div_add_mod c (2 ^ 24)).symm
theorem crcB_tab {c:Nat} {x:Int}:crcB c x = c % 16777216 * 256 ^^^ crcT (c / 16777216 ^^^ x.toNat) := by
 unfold crcB crcT
 have e:c ^^^ x.toNat * 16777216 = c % 16777216 ^^^ (c / 16777216 ^^^ x.toNat) * 16777216 := by
   have h2:(c / 16777216 ^^^ x.toNat) * 16777216 = c / 16777216 * 16777216 ^^^ x.toNat * 16777216 := by
     rw [show (16777216:Nat) = 2 ^ 24 from rfl,← Nat.shiftLeft_eq,← Nat.shiftLeft_eq,← Nat.shiftLeft_eq]
     exact Nat.shiftLeft_xor_distrib ..
   rw [h2,← Nat.xor_assoc,← split24]
 rw [e,crcN_xor,crcN_low 8 (by decide) (Nat.mod_lt _ (by decide))]
end Go.Proofs.YtokkphocaloelaaGreatDoor

end
section
namespace Go.Proofs.YtokkphocaloelaaGreatDoor
open Go Go.Vc
set_option maxRecDepth 100000
set_option maxHeartbeats 8000000

theorem crcF_snoc {l:List Int} {j:Nat} {x:Int} (h:l[j]? = some x) (c:Nat):(l.take (j + 1)).foldl crcB c = crcB ((l.take j).foldl crcB c) x := by
 rw [List.take_add_one,h,List.foldl_append]
 rfl
theorem oggSumW (w0:World) {b:ByteArray} (hb:b.size < 9223372036854775808):CallsA Tryz.prog w0 88 [.c (.val (.string b))] [] fun r H => r = u32 (crcS (bytesOf b)) ∧ H = [] := by
 have hbl := bytesOf_len b
 have hbb := byt_bytes b
 refine callsA_of_ev c88_ ?_
 conv => whnf
 refine Or.inl ?_
 conv => whnf
 refine ⟨{j:Nat // j ≤ b.size},fun ⟨j,_⟩ => ⟨[(0,.o (.c (.val (.string b)))),(3,.o (.c (.val (.int .u32 (crcS ((bytesOf b).take j):Nat))))),(6,.o (.c (.val (.int .i64 b.size)))),(7,.o (.c (.val (.int .i64 j))))],[]⟩,fun j => b.size - j.1,⟨⟨0,Nat.zero_le _⟩,[],⟨rfl,trivial,rfl⟩,rfl,rfl,rfl,rfl,trivial⟩,fun ⟨j,hj⟩ => ?_⟩
 conv => whnf
 refine ⟨fun g => ?_,fun g => ?_⟩
 · have g:j < b.size := lt_t g
   obtain ⟨x,hx⟩:∃ x,(bytesOf b)[j]? = some x := ⟨_,List.getElem?_eq_getElem (by omega)⟩
   obtain ⟨y,hy,rfl⟩ := bytes_at hx
   have hy8 := y.toNat_lt
   have hc:crcS ((bytesOf b).take j) < 4294967296 := crcS_lt (hbb.take j)
   have hs:crcS ((bytesOf b).take (j + 1)) = crcN 8 (crcS ((bytesOf b).take j) ^^^ y.toNat * 16777216) := crcF_snoc hx 0
   generalize crcS ((bytesOf b).take j) = c at hc hs ⊢
   generalize hd:c ^^^ y.toNat * 16777216 = d at hs
   have hdl:d < 4294967296 := by
     rw [← hd]
     exact Nat.xor_lt_two_pow (n := 32) hc (by show y.toNat * 16777216 < 4294967296; omega)
   conv => whnf
   refine Or.inl ?_
   conv => whnf
   refine ⟨y,si_at hy,?_⟩
   conv => whnf
   refine ⟨{k:Nat // k ≤ 8},fun ⟨k,_⟩ => ⟨[(0,.o (.c (.val (.string b)))),(3,.o (.c (.val (.int .u32 (crcN k d:Nat))))),(6,.o (.c (.val (.int .i64 b.size)))),(7,.o (.c (.val (.int .i64 j)))),(17,.o (.c (.val (.int .i64 k))))],[]⟩,fun k => 8 - k.1,⟨⟨0,Nat.zero_le _⟩,[],⟨rfl,trivial,rfl⟩,rfl,eq_u32 ?_,rfl,rfl,rfl,trivial⟩,fun ⟨k,hk⟩ => ?_⟩
   · rw [nwrap32 (n := y.toNat) (by omega),nshlk .u32 y.toNat 24 (by decide),nwrap32 (n := y.toNat * 2 ^ 24) (by omega),nxor32 hc (by omega)]
     show _ = ((d:Nat):Int)
     rw [← hd]
   conv => whnf
   have hkl := crcN_lt hdl k
   refine ⟨fun g2 => ?_,fun g2 => ?_⟩
   · have g2:k < 8 := lt_t g2
     conv => whnf
     refine Or.inl ?_
     conv => whnf
     rw [nand32 hkl (by omega)]
     have hq:crcN (k + 1) d = crc1 (crcN k d) := rfl
     have hsh:IntKind.u32.wrap (((crcN k d:Nat):Int) * (2:Int) ^ min 1 IntKind.u32.bits) = ((crcN k d * 2 % 4294967296:Nat):Int) := by
       rw [nshlk .u32 _ 1 (by decide),IntKind.wrap_u32]
       omega
     refine ⟨fun g3 => ?_,fun g3 => ?_⟩
     · have g3:crcN k d &&& 2147483648 ≠ 0 := fun h => by simp [h] at g3
       conv => whnf
       refine ⟨⟨k + 1,g2⟩,⟨[],⟨rfl,trivial,rfl⟩,rfl,eq_u32 ?_,rfl,rfl,eq_i64 ?_,trivial⟩,?_⟩
       · rw [hsh,nxor32 (Nat.mod_lt _ (by decide)) (by omega),hq]
         unfold crc1
         rw [if_pos g3]
         rfl
       · rw [nadd,nwrapi (by omega)]
       · show 8 - (k + 1) < 8 - k
         omega
     · have g3:crcN k d &&& 2147483648 = 0 := by simpa using g3
       conv => whnf
       refine ⟨⟨k + 1,g2⟩,⟨[],⟨rfl,trivial,rfl⟩,rfl,eq_u32 ?_,rfl,rfl,eq_i64 ?_,trivial⟩,?_⟩
       · rw [hsh,hq]
         unfold crc1
         rw [if_neg fun h => h g3]
       · rw [nadd,nwrapi (by omega)]
       · show 8 - (k + 1) < 8 - k
         omega
   · have g2:8 ≤ k := lt_f g2
     obtain rfl:k = 8 := by omega
     conv => whnf
     refine ⟨⟨j + 1,g⟩,⟨[],⟨rfl,trivial,rfl⟩,rfl,eq_u32 ?_,rfl,eq_i64 ?_,trivial⟩,?_⟩
     · rw [hs]
     · rw [nadd,nwrapi (by omega)]
     · show b.size - (j + 1) < b.size - j
       omega
 · have g:b.size ≤ j := lt_f g
   obtain rfl:j = b.size := by omega
   conv => whnf
   rw [List.take_of_length_le (by omega)]
   exact Or.inl ⟨rfl,rfl⟩
end Go.Proofs.YtokkphocaloelaaGreatDoor

end
section
namespace Go.Proofs.YtokkphocaloelaaGreatDoor
open Go Go.Vc
set_option maxRecDepth 100000
set_option maxHeartbeats 8000000

def bt (L:List Int) (i:Nat):Nat := (L.getD i 0).toNat
theorem bt_get {L:List Int} (h:Byt L) {i:Nat} (hi:i < L.length):L[i]? = some (bt L i:Int) ∧ bt L i < 256 := by
 have h1:L[i]? = some L[i] := List.getElem?_eq_getElem hi
 have h2 := h _ (List.mem_of_getElem? h1)
 unfold bt
 rw [List.getD_eq_getElem?_getD,h1,Option.getD_some]
 exact ⟨by rw [Int.toNat_of_nonneg h2.1],by omega⟩
theorem bt_str {b:ByteArray} {i:Nat} (h:i < b.size):∃ y:UInt8,b[i]? = some y ∧ y.toNat = bt (bytesOf b) i ∧ bt (bytesOf b) i < 256 := by
 have h1 := bt_get (byt_bytes b) (i := i) (by rw [bytesOf_len]; exact h)
 have hi:i < b.data.size := h
 refine ⟨b[i],getElem?_pos b i h,?_,h1.2⟩
 have h2 := h1.1
 unfold bytesOf at h2
 rw [List.getElem?_map,List.getElem?_eq_getElem (show i < b.data.toList.length from hi)] at h2
 have h3:(((b.data.toList[i]'(show i < b.data.toList.length from hi)).toNat:Nat):Int) = ((bt (bytesOf b) i:Nat):Int) := Option.some.inj h2
 have h4:(b[i]).toNat = (b.data.toList[i]'(show i < b.data.toList.length from hi)).toNat := by
   rw [Array.getElem_toList]
   rfl
 omega
structure Pg where
 ser:Nat
 seq:Nat
 gran:Nat
 flags:Int
 parts:List ByteArray
 more:Bool
def prS (b:ByteArray) (n:Nat):Nat → Nat × Nat × List ByteArray × Bool
 | 0 => (27 + n,27 + n,[],false)
 | i + 1 =>
   let s := prS b n i
   let v := bt (bytesOf b) (27 + i)
   if v < 255 ∨ i + 1 = n then (s.1 + v,s.1 + v,s.2.2.1 ++ [b.extract s.2.1 (s.1 + v)],decide (v = 255)) else (s.1 + v,s.2.1,s.2.2.1,s.2.2.2)
theorem prS_at (b:ByteArray) (n i:Nat):(prS b n (i + 1)).1 = (prS b n i).1 + bt (bytesOf b) (27 + i) := by
 simp only [prS]
 split <;> rfl
theorem prS_mono (b:ByteArray) (n:Nat) {i:Nat}:∀ {j},i ≤ j → (prS b n i).1 ≤ (prS b n j).1
 | 0,h => by
   obtain rfl:i = 0 := by omega
   exact Nat.le_refl _
 | j + 1,h => by
   rcases Nat.lt_or_ge j i with c | c
   · obtain rfl:i = j + 1 := by omega
     exact Nat.le_refl _
   · have := prS_mono b n c
     rw [prS_at]
     omega
theorem prS_le (b:ByteArray) (n:Nat) (hn:n ≤ 255):∀ i,27 + n + i ≤ b.size ∨ True → (prS b n i).1 ≤ 27 + n + 255 * i
 | 0,_ => by simp [prS]
 | i + 1,_ => by
   have := prS_le b n hn i (.inr trivial)
   rw [prS_at]
   have h2:bt (bytesOf b) (27 + i) < 256 := by
     unfold bt
     rw [List.getD_eq_getElem?_getD]
     cases h:(bytesOf b)[27 + i]? with
     | none => decide
     | some x =>
       have := byt_bytes b x (List.mem_of_getElem? h)
       rw [Option.getD_some]
       omega
   omega
theorem prS_from (b:ByteArray) (n:Nat):∀ i,(prS b n i).2.1 ≤ (prS b n i).1
 | 0 => Nat.le_refl _
 | i + 1 => by
   have := prS_from b n i
   simp only [prS]
   split
   · exact Nat.le_refl _
   · show (prS b n i).2.1 ≤ (prS b n i).1 + _
     omega
def oggS:List Int := [79,103,103,83,0]
def pageP (b:ByteArray):Option (Pg × Nat) :=
 let L := bytesOf b
 let n := bt L 26
 let s := prS b n n
 if b.size < 27 ∨ L.take 5 ≠ oggS ∨ b.size < 27 + n ∨ b.size < s.1 ∨ crcS (L.take 22 ++ [0,0,0,0] ++ (L.take s.1).drop 26) ≠ le ((L.take 26).drop 22) then none
 else some (⟨le ((L.take 18).drop 14),le ((L.take 22).drop 18),le ((L.take 14).drop 6),bt L 5,s.2.2.1,s.2.2.2⟩,s.1)
end Go.Proofs.YtokkphocaloelaaGreatDoor

end
section
namespace Go.Proofs.YtokkphocaloelaaGreatDoor
open Go Go.Vc
set_option maxRecDepth 100000
set_option maxHeartbeats 8000000

theorem strq_t {a b:ByteArray} (h:(!(a.toList == b.toList)) = false):a = b := by
 have h:(a.toList == b.toList) = true := by simpa using h
 have h := eq_of_beq h
 rw [ByteArray.toList_eq,ByteArray.toList_eq] at h
 exact ByteArray.ext (Array.ext' h)
theorem strq_f {a b:ByteArray} (h:(!(a.toList == b.toList)) = true):a ≠ b := by
 rintro rfl
 rw [beq_self_eq_true] at h
 cases h
def encStr:Enc ByteArray := ⟨fun _ s => [.val (.string s)],fun _ _ _ _ _ _ => rfl⟩
def strB (l:List ByteArray):Blk := .vec true 9 encStr [] 1 l
def pgC (p:Pg) (i:Nat):List CV := [.val (.int .u32 p.ser),.val (.int .u32 p.seq),.val (.int .u64 p.gran),.val (.int .i64 p.flags),(match p.parts with | [] => .val (.slice none 0 0) | _ :: _ => .vec i p.parts.length),.val (.bool p.more)]
def pgB (p:Pg):List Blk := match p.parts with
 | [] => []
 | _ :: _ => [strB p.parts]
def pg0:Pg := ⟨0,0,0,0,[],false⟩
def pgOf (b:ByteArray) (s:Nat × Nat × List ByteArray × Bool):Pg := ⟨le (((bytesOf b).take 18).drop 14),le (((bytesOf b).take 22).drop 18),le (((bytesOf b).take 14).drop 6),bt (bytesOf b) 5,s.2.2.1,s.2.2.2⟩
def prSt (b:ByteArray) (n i:Nat) (s:Nat × Nat × List ByteArray × Bool):S := ⟨[(0,.o (.c (.val (.string b)))),(2,.o (.c (.ptr 0 0))),(5,.o (.c (.val (.int .i64 n)))),(6,.o (.c (.val (.int .i64 (s.1:Nat))))),(7,.o (.c (.val (.int .i64 (s.2.1:Nat))))),(46,.o (.c (.val (.int .i64 n)))),(47,.o (.c (.val (.int .i64 i))))],.cells 57 (pgC (pgOf b s) 1) :: pgB (pgOf b s)⟩
def prEn (b:ByteArray) (s:Nat × Nat × List ByteArray × Bool):S := ⟨[(0,.o (.c (.val (.string b)))),(2,.o (.c (.ptr 0 0))),(6,.o (.c (.val (.int .i64 (s.1:Nat)))))],.cells 57 (pgC (pgOf b s) 1) :: pgB (pgOf b s)⟩
theorem prS_len (b:ByteArray) (n:Nat):∀ i,(prS b n i).2.2.1.length ≤ i
 | 0 => Nat.le_refl _
 | i + 1 => by
   have := prS_len b n i
   simp only [prS]
   split
   · show ((prS b n i).2.2.1 ++ [_]).length ≤ _
     rw [List.length_append,List.length_singleton]
     omega
   · show (prS b n i).2.2.1.length ≤ _
     omega
theorem le_ext {b:ByteArray} {i k:Nat} (h:i + k ≤ b.size):bytesOf (b.extract i (i + k)) = ((bytesOf b).take (i + k)).drop i ∧ le (((bytesOf b).take (i + k)).drop i) < 256 ^ k := by
 refine ⟨bytes_ext b i (i + k),?_⟩
 have := le_lt (l := ((bytesOf b).take (i + k)).drop i) (((byt_bytes b).take (i + k)).drop i)
 rw [List.length_drop,List.length_take,bytesOf_len,show min (i + k) b.size - i = k by omega] at this
 exact this
theorem emb_pg {p:Pg} {e0 e:Env} (h:embE [0] e e0 ∧ embE [0,1] e e0):EmbS 0 ⟨e0,.cells 57 (pgC p 1) :: pgB p⟩ ⟨e,.cells 57 (pgC p 1) :: pgB p⟩ := by
 obtain ⟨a,q,c,d,parts,m⟩ := p
 cases parts with
 | nil => exact ⟨[0],⟨rfl,⟨rfl,rfl,trivial⟩,rfl⟩,h.1⟩
 | cons x r => exact ⟨[0,1],⟨rfl,⟨rfl,rfl,rfl,rfl,trivial⟩,rfl⟩,h.2⟩
theorem of_bne {a b:Nat} (h:(((a:Nat):Int) != ((b:Nat):Int)) = true):a ≠ b := by
 rintro rfl
 simp at h
theorem of_bne_f {a b:Nat} (h:(((a:Nat):Int) != ((b:Nat):Int)) = false):a = b := by
 have:((a:Nat):Int) = ((b:Nat):Int) := by simpa using h
 omega
theorem pageReadW (w0:World) {b:ByteArray} (hs:b.size ≤ 1099511627776):CallsA Tryz.prog w0 47 [.c (.val (.string b))] [] fun r H => match pageP b with
   | none => r = .t [.a (pgC pg0 0),.c (.val (.int .i64 ((0:Nat):Int))),.c (.val (.bool false))] ∧ H = []
   | some (p,took) => r = .t [.a (pgC p 0),.c (.val (.int .i64 (took:Nat))),.c (.val (.bool true))] ∧ H = pgB p := by
 have hbl := bytesOf_len b
 have hbb := byt_bytes b
 obtain ⟨F,hF⟩:∃ F,F = pageP b := ⟨_,rfl⟩
 rw [← hF]
 unfold pageP at hF
 simp only at hF
 refine callsA_of_ev c47_ ?_
 conv => whnf
 refine Or.inl ?_
 conv => whnf
 refine ⟨fun g1 => ?_,fun g1 => ?_⟩
 · have g1:b.size < 27 := lt_t g1
   rw [if_pos (.inl g1)] at hF
   subst hF
   conv => whnf
   exact Or.inr ⟨[],_,[],⟨rfl,trivial,rfl⟩,rfl,rfl,rfl⟩
 have g1:27 ≤ b.size := lt_f g1
 conv => whnf
 refine ⟨by omega,?_⟩
 conv => whnf
 refine ⟨fun g2 => ?_,fun g2 => ?_⟩
 · have g2 := strq_f g2
   have g3:(bytesOf b).take 5 ≠ oggS := fun h => g2 (bytes_inj (by rw [bytes_ext]; exact h))
   rw [if_pos (.inr (.inl g3))] at hF
   subst hF
   conv => whnf
   exact Or.inr ⟨[],_,[],⟨rfl,trivial,rfl⟩,rfl,rfl,rfl⟩
 have g2 := strq_t g2
 conv => whnf
 have g3:(bytesOf b).take 5 = oggS := by
   have := congrArg bytesOf g2
   rw [bytes_ext] at this
   exact this
 obtain ⟨y26,h26,hb26,hl26⟩ := bt_str (b := b) (i := 26) (by omega)
 refine ⟨y26,h26,?_⟩
 obtain ⟨n,hn⟩:∃ n,n = bt (bytesOf b) 26 := ⟨_,rfl⟩
 rw [hb26]
 rw [← hn] at hF hl26 ⊢
 conv => whnf
 refine Or.inr ⟨PLift (27 + n ≤ b.size),fun _ => ⟨[(0,.o (.c (.val (.string b)))),(2,.o (.c (.ptr 0 0))),(5,.o (.c (.val (.int .i64 n))))],[.cells 57 (pgC pg0 1)]⟩,?_,fun ⟨g4⟩ => ?_⟩
 · conv => whnf
   rw [nwrapi (n := n) (by omega),nadd,nwrapi (n := 27 + n) (by omega)]
   refine ⟨fun g4 => ?_,fun g4 => ?_⟩
   · have g4:b.size < 27 + n := lt_t g4
     rw [if_pos (.inr (.inr (.inl g4)))] at hF
     subst hF
     conv => whnf
     exact Or.inr ⟨[],_,[],⟨rfl,trivial,rfl⟩,rfl,rfl,rfl⟩
   have g4:27 + n ≤ b.size := lt_f g4
   conv => whnf
   exact ⟨⟨g4⟩,[0],⟨rfl,⟨rfl,rfl,trivial⟩,rfl⟩,rfl,rfl,rfl,trivial⟩
 conv => whnf
 obtain ⟨y5,h5,hb5,hl5⟩ := bt_str (b := b) (i := 5) (by omega)
 refine ⟨y5,h5,?_⟩
 rw [hb5]
 conv => whnf
 refine ⟨by omega,?_⟩
 conv => whnf
 refine ⟨by omega,?_⟩
 conv => whnf
 refine ⟨by omega,?_⟩
 conv => whnf
 have hz:∀ i j,i ≤ j → j ≤ b.size → (b.extract i j).size = j - i := fun i j _ h => by
   rw [ByteArray.size_extract]
   omega
 refine cL0 (leastOfW w0 (b := b.extract 6 14) (by rw [hz _ _ (by omega) (by omega)]; omega)) ?_
 rintro _ _ ⟨rfl,rfl⟩
 refine ⟨trivial,?_⟩
 conv => whnf
 refine cL0 (leastOfW w0 (b := b.extract 14 18) (by rw [hz _ _ (by omega) (by omega)]; omega)) ?_
 rintro _ _ ⟨rfl,rfl⟩
 refine ⟨trivial,?_⟩
 conv => whnf
 refine cL0 (leastOfW w0 (b := b.extract 18 22) (by rw [hz _ _ (by omega) (by omega)]; omega)) ?_
 rintro _ _ ⟨rfl,rfl⟩
 refine ⟨trivial,?_⟩
 conv => whnf
 refine ⟨trivial,?_⟩
 conv => whnf
 obtain ⟨e1,f1⟩ := le_ext (b := b) (i := 6) (k := 8) (by omega)
 obtain ⟨e2,f2⟩ := le_ext (b := b) (i := 14) (k := 4) (by omega)
 obtain ⟨e3,f3⟩ := le_ext (b := b) (i := 18) (k := 4) (by omega)
 refine Or.inr ⟨PLift ((prS b n n).1 ≤ b.size),fun _ => prEn b (prS b n n),?_,fun ⟨g5⟩ => ?_⟩
 · conv => whnf
   refine ⟨{i:Nat // i ≤ n ∧ (prS b n i).1 ≤ b.size},fun ⟨i,_⟩ => prSt b n i (prS b n i),fun i => n - i.1,
     ⟨⟨0,Nat.zero_le _,g4⟩,[0],⟨rfl,⟨?_,rfl,trivial⟩,rfl⟩,rfl,rfl,rfl,eq_i64 ?_,eq_i64 ?_,rfl,rfl,trivial⟩,fun ⟨i,hih⟩ => ?_⟩
   · refine congrArg some (congrArg (Blk.cells 57) ?_)
     show [CV.val (.int .u32 (IntKind.u32.wrap ((le (bytesOf (b.extract 14 18)):Nat):Int))),CV.val (.int .u32 (IntKind.u32.wrap ((le (bytesOf (b.extract 18 22)):Nat):Int))),CV.val (.int .u64 ((le (bytesOf (b.extract 6 14)):Nat):Int)),CV.val (.int .i64 (IntKind.i64.wrap ((bt (bytesOf b) 5:Nat):Int))),.val (.slice none 0 0),.val (.bool false)] = [CV.val (.int .u32 ((le (((bytesOf b).take 18).drop 14):Nat):Int)),CV.val (.int .u32 ((le (((bytesOf b).take 22).drop 18):Nat):Int)),CV.val (.int .u64 ((le (((bytesOf b).take 14).drop 6):Nat):Int)),CV.val (.int .i64 ((bt (bytesOf b) 5:Nat):Int)),.val (.slice none 0 0),.val (.bool false)]
     rw [e1,e2,e3,nwrap32 f2,nwrap32 f3,nwrapi (n := bt (bytesOf b) 5) (by omega)]
   · rw [nadd,nwrapi (by omega)]
     rfl
   · rw [nadd,nwrapi (by omega)]
     rfl
   have hi := hih.1
   have hat := hih.2
   conv => whnf
   refine ⟨fun g6 => ?_,fun g6 => ?_⟩
   · have g6:i < n := lt_t g6
     conv => whnf
     refine Or.inl ?_
     conv => whnf
     obtain ⟨y,hy,hyb,hyl⟩ := bt_str (b := b) (i := 27 + i) (by omega)
     have hnx := prS_at b n i
     have hlei := prS_le b n (by omega) i (.inr trivial)
     have hfr := prS_from b n i
     have hpl := prS_len b n i
     obtain ⟨v,hv⟩:∃ v,v = bt (bytesOf b) (27 + i) := ⟨_,rfl⟩
     have hstep:prS b n (i + 1) = if v < 255 ∨ i + 1 = n then ((prS b n i).1 + v,(prS b n i).1 + v,(prS b n i).2.2.1 ++ [b.extract (prS b n i).2.1 ((prS b n i).1 + v)],decide (v = 255)) else ((prS b n i).1 + v,(prS b n i).2.1,(prS b n i).2.2.1,(prS b n i).2.2.2) := by rw [hv]; rfl
     have hm := prS_mono b n (i := i + 1) (j := n) g6
     rw [← hv] at hyb hyl hnx
     generalize prS b n i = s at hat hnx hlei hfr hpl hstep ⊢
     obtain ⟨at',fr,parts,more⟩ := s
     simp only at hat hnx hlei hfr hpl hstep
     rw [nadd 27 i,nwrapi (n := 27 + i) (by omega)]
     refine ⟨y,si_at hy,?_⟩
     rw [hyb]
     conv => whnf
     rw [nwrapi (n := v) (by omega),nadd at' v,nwrapi (n := at' + v) (by omega)]
     refine Or.inl ?_
     conv => whnf
     refine ⟨fun g7 => ?_,fun g7 => ?_⟩
     · have g7:b.size < at' + v := by
         have := of_decide_eq_true g7
         omega
       rw [if_pos (.inr (.inr (.inr (.inl (by omega)))))] at hF
       subst hF
       conv => whnf
       exact Or.inr ⟨[],_,[],⟨rfl,trivial,rfl⟩,rfl,rfl,rfl⟩
     have g7:at' + v ≤ b.size := by
       have := of_decide_eq_false g7
       omega
     conv => whnf
     rw [nadd 27 i,nwrapi (n := 27 + i) (by omega)]
     refine ⟨y,si_at hy,?_⟩
     rw [hyb]
     conv => whnf
     have hfv:fr ≤ at' + v := by omega
     have hbe:(((v:Nat):Int) == ((255:Nat):Int)) = decide (v = 255) := by
       rw [Bool.eq_iff_iff]
       simp
       omega
     refine ⟨fun g8 => ?_,fun g8 => ?_⟩
     · have g8:v < 255 := lt_t g8
       rw [if_pos (.inl g8)] at hstep
       cases parts with
       | nil =>
         conv => whnf
         refine ⟨⟨Int.natCast_nonneg fr,Int.ofNat_le.2 hfv,Int.ofNat_le.2 g7⟩,?_⟩
         conv => whnf
         refine ⟨⟨⟨rfl,rfl⟩,trivial⟩,?_⟩
         conv => whnf
         refine ⟨by omega,ByteArray,encStr,[],[b.extract fr (at' + v)],fun _ => rfl,⟨rfl,rfl,rfl⟩,by simp only [List.length_cons,List.length_nil]; omega,by simp only [List.length_cons,List.length_nil]; omega,?_⟩
         conv => whnf
         refine ⟨trivial,?_⟩
         conv => whnf
         refine ⟨trivial,?_⟩
         conv => whnf
         rw [nadd 27 i,nwrapi (n := 27 + i) (by omega)]
         refine ⟨y,si_at hy,?_⟩
         rw [hyb]
         conv => whnf
         rw [hbe]
         refine ⟨⟨i + 1,g6,by rw [hnx]; exact g7⟩,?_,?_⟩
         · show EmbS 0 (prSt b n (i + 1) (prS b n (i + 1))) _
           rw [hstep]
           exact ⟨[0,2],⟨rfl,⟨rfl,rfl,rfl,rfl,trivial⟩,rfl⟩,rfl,rfl,rfl,rfl,rfl,rfl,eq_i64 (by rw [nadd,nwrapi (by omega)]),trivial⟩
         · show n - (i + 1) < n - i
           omega
       | cons x r =>
         simp only [List.length_cons] at hpl
         conv => whnf
         refine ⟨⟨Int.natCast_nonneg fr,Int.ofNat_le.2 hfv,Int.ofNat_le.2 g7⟩,?_⟩
         conv => whnf
         refine ⟨⟨⟨rfl,rfl⟩,trivial⟩,?_⟩
         conv => whnf
         refine ⟨rfl,[b.extract fr (at' + v)],⟨rfl,rfl,rfl⟩,by show ((x :: r) ++ [_]).length * 16 ≤ _; simp only [List.length_append,List.length_cons,List.length_nil]; omega,by show ((x :: r) ++ [_]).length ≤ _; simp only [List.length_append,List.length_cons,List.length_nil]; omega,?_⟩
         conv => whnf
         refine ⟨trivial,?_⟩
         conv => whnf
         refine ⟨trivial,?_⟩
         conv => whnf
         rw [nadd 27 i,nwrapi (n := 27 + i) (by omega)]
         refine ⟨y,si_at hy,?_⟩
         rw [hyb]
         conv => whnf
         rw [hbe]
         refine ⟨⟨i + 1,g6,by rw [hnx]; exact g7⟩,?_,?_⟩
         · show EmbS 0 (prSt b n (i + 1) (prS b n (i + 1))) _
           rw [hstep]
           exact ⟨[0,3],⟨rfl,⟨rfl,rfl,rfl,rfl,trivial⟩,rfl⟩,rfl,rfl,rfl,rfl,rfl,rfl,eq_i64 (by rw [nadd,nwrapi (by omega)]),trivial⟩
         · show n - (i + 1) < n - i
           omega
     · have g8:255 ≤ v := lt_f g8
       conv => whnf
       rw [nsub (a := n) (b := 1) (by omega),nwrapi (n := n - 1) (by omega)]
       refine ⟨fun g9 => ?_,fun g9 => ?_⟩
       · have g9:i + 1 = n := by
           have := eq_of_beq g9
           omega
         rw [if_pos (.inr g9)] at hstep
         cases parts with
         | nil =>
           conv => whnf
           refine ⟨⟨Int.natCast_nonneg fr,Int.ofNat_le.2 hfv,Int.ofNat_le.2 g7⟩,?_⟩
           conv => whnf
           refine ⟨⟨⟨rfl,rfl⟩,trivial⟩,?_⟩
           conv => whnf
           refine ⟨by omega,ByteArray,encStr,[],[b.extract fr (at' + v)],fun _ => rfl,⟨rfl,rfl,rfl⟩,by simp only [List.length_cons,List.length_nil]; omega,by simp only [List.length_cons,List.length_nil]; omega,?_⟩
           conv => whnf
           refine ⟨trivial,?_⟩
           conv => whnf
           refine ⟨trivial,?_⟩
           conv => whnf
           rw [nadd 27 i,nwrapi (n := 27 + i) (by omega)]
           refine ⟨y,si_at hy,?_⟩
           rw [hyb]
           conv => whnf
           rw [hbe]
           refine ⟨⟨i + 1,g6,by rw [hnx]; exact g7⟩,?_,?_⟩
           · show EmbS 0 (prSt b n (i + 1) (prS b n (i + 1))) _
             rw [hstep]
             exact ⟨[0,2],⟨rfl,⟨rfl,rfl,rfl,rfl,trivial⟩,rfl⟩,rfl,rfl,rfl,rfl,rfl,rfl,eq_i64 (by rw [nadd,nwrapi (by omega)]),trivial⟩
           · show n - (i + 1) < n - i
             omega
         | cons x r =>
           simp only [List.length_cons] at hpl
           conv => whnf
           refine ⟨⟨Int.natCast_nonneg fr,Int.ofNat_le.2 hfv,Int.ofNat_le.2 g7⟩,?_⟩
           conv => whnf
           refine ⟨⟨⟨rfl,rfl⟩,trivial⟩,?_⟩
           conv => whnf
           refine ⟨rfl,[b.extract fr (at' + v)],⟨rfl,rfl,rfl⟩,by show ((x :: r) ++ [_]).length * 16 ≤ _; simp only [List.length_append,List.length_cons,List.length_nil]; omega,by show ((x :: r) ++ [_]).length ≤ _; simp only [List.length_append,List.length_cons,List.length_nil]; omega,?_⟩
           conv => whnf
           refine ⟨trivial,?_⟩
           conv => whnf
           refine ⟨trivial,?_⟩
           conv => whnf
           rw [nadd 27 i,nwrapi (n := 27 + i) (by omega)]
           refine ⟨y,si_at hy,?_⟩
           rw [hyb]
           conv => whnf
           rw [hbe]
           refine ⟨⟨i + 1,g6,by rw [hnx]; exact g7⟩,?_,?_⟩
           · show EmbS 0 (prSt b n (i + 1) (prS b n (i + 1))) _
             rw [hstep]
             exact ⟨[0,3],⟨rfl,⟨rfl,rfl,rfl,rfl,trivial⟩,rfl⟩,rfl,rfl,rfl,rfl,rfl,rfl,eq_i64 (by rw [nadd,nwrapi (by omega)]),trivial⟩
           · show n - (i + 1) < n - i
             omega
       · have g9:¬ (v < 255 ∨ i + 1 = n) := by
           rintro (h | h)
           · omega
           · have h2:(((i:Nat):Int) == ((n - 1:Nat):Int)) = true := by
               rw [show i = n - 1 by omega]
               exact beq_self_eq_true _
             rw [h2] at g9
             exact Bool.noConfusion g9
         rw [if_neg g9] at hstep
         conv => whnf
         refine ⟨⟨i + 1,g6,by rw [hnx]; exact g7⟩,?_,?_⟩
         · show EmbS 0 (prSt b n (i + 1) (prS b n (i + 1))) _
           rw [hstep]
           exact emb_pg (p := pgOf b (at',fr,parts,more)) ⟨⟨rfl,rfl,rfl,rfl,rfl,rfl,eq_i64 (by rw [nadd,nwrapi (by omega)]),trivial⟩,⟨rfl,rfl,rfl,rfl,rfl,rfl,eq_i64 (by rw [nadd,nwrapi (by omega)]),trivial⟩⟩
         · show n - (i + 1) < n - i
           omega
   · have g6:n ≤ i := lt_f g6
     obtain rfl:i = n := by omega
     conv => whnf
     exact ⟨⟨hat⟩,emb_pg ⟨⟨rfl,rfl,rfl,trivial⟩,⟨rfl,rfl,rfl,trivial⟩⟩⟩
 have hm := prS_mono b n (i := 0) (j := n) (Nat.zero_le n)
 have hm:27 + n ≤ (prS b n n).1 := hm
 have hle := prS_le b n (by omega) n (.inr trivial)
 unfold prEn
 conv => whnf
 refine Or.inl ?_
 conv => whnf
 refine ⟨by omega,?_⟩
 conv => whnf
 refine ⟨by show (b.extract 0 22).size + 4 ≤ _; rw [hz _ _ (by omega) (by omega)]; omega,?_⟩
 conv => whnf
 refine ⟨⟨by omega,by omega,by omega⟩,?_⟩
 conv => whnf
 refine ⟨by show (b.extract 0 22 ++ ByteArray.mk #[0,0,0,0]).size + (b.extract 26 (prS b n n).1).size ≤ _; rw [ByteArray.size_append,hz _ _ (by omega) (by omega),hz _ _ (by omega) (by omega)]; show 22 - 0 + 4 + _ ≤ _; omega,?_⟩
 conv => whnf
 refine ⟨by omega,?_⟩
 conv => whnf
 refine cL0 (oggSumW w0 (b := b.extract 0 22 ++ ByteArray.mk #[0,0,0,0] ++ b.extract 26 (prS b n n).1) (by rw [ByteArray.size_append,ByteArray.size_append,hz _ _ (by omega) (by omega),hz _ _ (by omega) (by omega)]; show 22 - 0 + 4 + _ < _; omega)) ?_
 rintro _ _ ⟨rfl,rfl⟩
 refine ⟨trivial,?_⟩
 conv => whnf
 refine cL0 (leastOfW w0 (b := b.extract 22 26) (by rw [hz _ _ (by omega) (by omega)]; omega)) ?_
 rintro _ _ ⟨rfl,rfl⟩
 refine ⟨trivial,?_⟩
 conv => whnf
 have hcrc:bytesOf (b.extract 0 22 ++ ByteArray.mk #[0,0,0,0] ++ b.extract 26 (prS b n n).1) = (bytesOf b).take 22 ++ [0,0,0,0] ++ ((bytesOf b).take (prS b n n).1).drop 26 := by
   rw [bytes_add,bytes_add,bytes_ext,bytes_ext]
   rfl
 have hlt := crcS_lt (byt_bytes (b.extract 0 22 ++ ByteArray.mk #[0,0,0,0] ++ b.extract 26 (prS b n n).1))
 rw [hcrc] at hlt
 rw [hcrc,bytes_ext b 22 26,nwrap64 (by omega)]
 have hno:¬ (b.size < 27 ∨ List.take 5 (bytesOf b) ≠ oggS ∨ b.size < 27 + n ∨ b.size < (prS b n n).1) := by
   rintro (h | h | h | h)
   · omega
   · exact h g3
   · omega
   · omega
 refine ⟨fun g10 => ?_,fun g10 => ?_⟩
 · have g10 := of_bne g10
   rw [if_pos (.inr (.inr (.inr (.inr g10))))] at hF
   subst hF
   conv => whnf
   exact Or.inr ⟨[],_,[],⟨rfl,trivial,rfl⟩,rfl,rfl,rfl⟩
 have g10 := of_bne_f g10
 rw [if_neg (by
   rintro (h | h | h | h | h)
   · exact hno (.inl h)
   · exact hno (.inr (.inl h))
   · exact hno (.inr (.inr (.inl h)))
   · exact hno (.inr (.inr (.inr h)))
   · exact h g10)] at hF
 subst hF
 clear hno hlt hcrc g10 hm hle g5
 generalize prS b n n = s
 obtain ⟨at',fr,parts,more⟩ := s
 cases parts with
 | nil =>
   conv => whnf
   exact Or.inr ⟨[],.t [.a (pgC (pgOf b (at',fr,[],more)) 0),.c (.val (.int .i64 (at':Nat))),.c (.val (.bool true))],[],⟨rfl,trivial,rfl⟩,rfl,rfl,rfl⟩
 | cons x r =>
   conv => whnf
   exact Or.inr ⟨[1],.t [.a (pgC (pgOf b (at',fr,x :: r,more)) 0),.c (.val (.int .i64 (at':Nat))),.c (.val (.bool true))],[strB (x :: r)],⟨rfl,⟨rfl,rfl,trivial⟩,rfl⟩,rfl,rfl,rfl⟩
end Go.Proofs.YtokkphocaloelaaGreatDoor

end
