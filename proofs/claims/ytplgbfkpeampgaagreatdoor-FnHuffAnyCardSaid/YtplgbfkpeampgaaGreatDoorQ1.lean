/- Walks (printed by a program of my own). -/
import Derived.Test.YtplgbfkpeampgaaGreatDoorP3
set_option linter.unusedVariables false
set_option linter.unusedSimpArgs false
set_option maxRecDepth 100000
namespace Go.Proofs.YtplgbfkpeampgaaGreatDoor
open Go
theorem and63 {n:Nat} (h:n<64):n&&&63=n:=by rw[show(63:Nat)=2^6-1 from rfl,Nat.and_two_pow_sub_one_eq_mod];exact Nat.mod_eq_of_lt h
theorem c_Uint32 (bi so:Nat) (shi:Shp) (xs:List Nat) (hx:Bytes xs) (k len cap:Nat) (hl:4≤len) (hk:k+4≤xs.length):Con Tryz.prog 95 [.agg #[],Vs bi (so+k) len cap] [] [⟨bi,so,(nats .u8 xs),shi⟩] (fun v l'=>v=Vc (le32 xs k)∧l'=[]):=by
 refine Zi Tryz.func95 rfl fun w0=>?_
 refine G.seq ?_
 have hb0:=hx.at_ k
 have hb1:=hx.at_ (k+1)
 have hb2:=hx.at_ (k+2)
 have hb3:=hx.at_ (k+3)
 refine YG ?_
 refine Ze (e_box rfl rfl rfl rfl rfl) fun b1=>?_
 refine Ya ?_
 refine Y2 ?_
 refine Yy (Zx (so+(k+3)) 3 se_22) ?_
 refine Yr (r_ldr 0 (k+3) rfl rfl rfl ag_5 (by first|omega|(dsimp only;omega)|rfl) (nats_get Om)) ?_
 refine Z4 ?_
 refine Zg 0 [y_0,y_1,r_2,y_3,y_4,y_5,r_6,y_7,y_8,y_9,y_10,y_11,r_12,y_13,y_14,y_15,y_16,y_17,r_18,y_19,y_20,y_21,y_22] ?_
 refine Ypa ?_
 refine Ypy (Zx (so+k) 0 se_22) ?_
 refine Ypr (r_ldr 0 k rfl rfl rfl ag_5 (by first|omega|(dsimp only;omega)|rfl) (nats_get Om)) ?_
 refine Ypy (ZcvNc (xs.getD k 0) un_5 un_75) ?_
 refine Ypy (Zx (so+(k+1)) 1 se_22) ?_
 refine Ypr (r_ldr 0 (k+1) rfl rfl rfl ag_5 (by first|omega|(dsimp only;omega)|rfl) (nats_get Om)) ?_
 refine Ypy (ZcvNc (xs.getD (k+1) 0) un_5 un_75) ?_
 refine Ypy (ZshlWc (xs.getD (k+1) 0) 8) ?_
 refine Ypy (ZorNc (xs.getD k 0) ((xs.getD (k+1) 0)*2^8%4294967296)) ?_
 refine Ypy (Zx (so+(k+2)) 2 se_22) ?_
 refine Ypr (r_ldr 0 (k+2) rfl rfl rfl ag_5 (by first|omega|(dsimp only;omega)|rfl) (nats_get Om)) ?_
 refine Ypy (ZcvNc (xs.getD (k+2) 0) un_5 un_75) ?_
 refine Ypy (ZshlWc (xs.getD (k+2) 0) 16) ?_
 refine Ypy (orN_u32 (m:=(xs.getD k 0)|||((xs.getD (k+1) 0)*2^8%4294967296)) (n:=(xs.getD (k+2) 0)*2^16%4294967296) rfl rfl rfl (or_lt32 Om Om) Om) ?_
 refine Ypy (Zx (so+(k+3)) 3 se_22) ?_
 refine Ypr (r_ldr 0 (k+3) rfl rfl rfl ag_5 (by first|omega|(dsimp only;omega)|rfl) (nats_get Om)) ?_
 refine Ypy (ZcvNc (xs.getD (k+3) 0) un_5 un_75) ?_
 refine Ypy (ZshlWc (xs.getD (k+3) 0) 24) ?_
 refine Ypy (orN_u32 (m:=((xs.getD k 0)|||((xs.getD (k+1) 0)*2^8%4294967296))|||((xs.getD (k+2) 0)*2^16%4294967296)) (n:=(xs.getD (k+3) 0)*2^24%4294967296) rfl rfl rfl (or_lt32 (or_lt32 Om Om) Om) Om) ?_
 refine GP.nil (GQ.thenN (G.ret ?_))
 repeat first|refine ZR ?_|refine ZB ?_
 exact ret1 [] rfl rfl rfl (⟨by simp[le32],rfl⟩)
theorem c_Uint64 (bi so:Nat) (shi:Shp) (xs:List Nat) (hx:Bytes xs) (k len cap:Nat) (hl:8≤len) (hk:k+8≤xs.length):Con Tryz.prog 102 [.agg #[],Vs bi (so+k) len cap] [] [⟨bi,so,(nats .u8 xs),shi⟩] (fun v l'=>v=Vd (le64 xs k)∧l'=[]):=by
 refine Zi Tryz.func102 rfl fun w0=>?_
 refine G.seq ?_
 have hb0:=hx.at_ k
 have hb1:=hx.at_ (k+1)
 have hb2:=hx.at_ (k+2)
 have hb3:=hx.at_ (k+3)
 have hb4:=hx.at_ (k+4)
 have hb5:=hx.at_ (k+5)
 have hb6:=hx.at_ (k+6)
 have hb7:=hx.at_ (k+7)
 refine YG ?_
 refine Ze (e_box rfl rfl rfl rfl rfl) fun b1=>?_
 refine Ya ?_
 refine Y2 ?_
 refine Yy (Zx (so+(k+7)) 7 se_22) ?_
 refine Yr (r_ldr 0 (k+7) rfl rfl rfl ag_5 (by first|omega|(dsimp only;omega)|rfl) (nats_get Om)) ?_
 refine Z4 ?_
 refine Zg 0 [y_0,y_1,r_2,y_3,y_4,y_5,r_6,y_7,y_8,y_9,y_10,y_11,r_12,y_13,y_14,y_15,y_16,y_17,r_18,y_19,y_20,y_21,y_22,y_23,r_24,y_25,y_26,y_27,y_28,y_29,r_30,y_31,y_32,y_33,y_34,y_35,r_36,y_37,y_38,y_39,y_40,y_41,r_42,y_43,y_44,y_45,y_46] ?_
 refine Ypa ?_
 refine Ypy (Zx (so+k) 0 se_22) ?_
 refine Ypr (r_ldr 0 k rfl rfl rfl ag_5 (by first|omega|(dsimp only;omega)|rfl) (nats_get Om)) ?_
 refine Ypy (ZcvNd (xs.getD k 0) un_5 un_96) ?_
 refine Ypy (Zx (so+(k+1)) 1 se_22) ?_
 refine Ypr (r_ldr 0 (k+1) rfl rfl rfl ag_5 (by first|omega|(dsimp only;omega)|rfl) (nats_get Om)) ?_
 refine Ypy (ZcvNd (xs.getD (k+1) 0) un_5 un_96) ?_
 refine Ypy (ZshlWd (xs.getD (k+1) 0) 8) ?_
 refine Ypy (ZorNd (xs.getD k 0) ((xs.getD (k+1) 0)*2^8%18446744073709551616)) ?_
 refine Ypy (Zx (so+(k+2)) 2 se_22) ?_
 refine Ypr (r_ldr 0 (k+2) rfl rfl rfl ag_5 (by first|omega|(dsimp only;omega)|rfl) (nats_get Om)) ?_
 refine Ypy (ZcvNd (xs.getD (k+2) 0) un_5 un_96) ?_
 refine Ypy (ZshlWd (xs.getD (k+2) 0) 16) ?_
 refine Ypy (orN_u64 (m:=(xs.getD k 0)|||((xs.getD (k+1) 0)*2^8%18446744073709551616)) (n:=(xs.getD (k+2) 0)*2^16%18446744073709551616) rfl rfl rfl (or_lt64 Om Om) Om) ?_
 refine Ypy (Zx (so+(k+3)) 3 se_22) ?_
 refine Ypr (r_ldr 0 (k+3) rfl rfl rfl ag_5 (by first|omega|(dsimp only;omega)|rfl) (nats_get Om)) ?_
 refine Ypy (ZcvNd (xs.getD (k+3) 0) un_5 un_96) ?_
 refine Ypy (ZshlWd (xs.getD (k+3) 0) 24) ?_
 refine Ypy (orN_u64 (m:=((xs.getD k 0)|||((xs.getD (k+1) 0)*2^8%18446744073709551616))|||((xs.getD (k+2) 0)*2^16%18446744073709551616)) (n:=(xs.getD (k+3) 0)*2^24%18446744073709551616) rfl rfl rfl (or_lt64 (or_lt64 Om Om) Om) Om) ?_
 refine Ypy (Zx (so+(k+4)) 4 se_22) ?_
 refine Ypr (r_ldr 0 (k+4) rfl rfl rfl ag_5 (by first|omega|(dsimp only;omega)|rfl) (nats_get Om)) ?_
 refine Ypy (ZcvNd (xs.getD (k+4) 0) un_5 un_96) ?_
 refine Ypy (ZshlWd (xs.getD (k+4) 0) 32) ?_
 refine Ypy (orN_u64 (m:=(((xs.getD k 0)|||((xs.getD (k+1) 0)*2^8%18446744073709551616))|||((xs.getD (k+2) 0)*2^16%18446744073709551616))|||((xs.getD (k+3) 0)*2^24%18446744073709551616)) (n:=(xs.getD (k+4) 0)*2^32%18446744073709551616) rfl rfl rfl (or_lt64 (or_lt64 (or_lt64 Om Om) Om) Om) Om) ?_
 refine Ypy (Zx (so+(k+5)) 5 se_22) ?_
 refine Ypr (r_ldr 0 (k+5) rfl rfl rfl ag_5 (by first|omega|(dsimp only;omega)|rfl) (nats_get Om)) ?_
 refine Ypy (ZcvNd (xs.getD (k+5) 0) un_5 un_96) ?_
 refine Ypy (ZshlWd (xs.getD (k+5) 0) 40) ?_
 refine Ypy (orN_u64 (m:=((((xs.getD k 0)|||((xs.getD (k+1) 0)*2^8%18446744073709551616))|||((xs.getD (k+2) 0)*2^16%18446744073709551616))|||((xs.getD (k+3) 0)*2^24%18446744073709551616))|||((xs.getD (k+4) 0)*2^32%18446744073709551616)) (n:=(xs.getD (k+5) 0)*2^40%18446744073709551616) rfl rfl rfl (or_lt64 (or_lt64 (or_lt64 (or_lt64 Om Om) Om) Om) Om) Om) ?_
 refine Ypy (Zx (so+(k+6)) 6 se_22) ?_
 refine Ypr (r_ldr 0 (k+6) rfl rfl rfl ag_5 (by first|omega|(dsimp only;omega)|rfl) (nats_get Om)) ?_
 refine Ypy (ZcvNd (xs.getD (k+6) 0) un_5 un_96) ?_
 refine Ypy (ZshlWd (xs.getD (k+6) 0) 48) ?_
 refine Ypy (orN_u64 (m:=(((((xs.getD k 0)|||((xs.getD (k+1) 0)*2^8%18446744073709551616))|||((xs.getD (k+2) 0)*2^16%18446744073709551616))|||((xs.getD (k+3) 0)*2^24%18446744073709551616))|||((xs.getD (k+4) 0)*2^32%18446744073709551616))|||((xs.getD (k+5) 0)*2^40%18446744073709551616)) (n:=(xs.getD (k+6) 0)*2^48%18446744073709551616) rfl rfl rfl (or_lt64 (or_lt64 (or_lt64 (or_lt64 (or_lt64 Om Om) Om) Om) Om) Om) Om) ?_
 refine Ypy (Zx (so+(k+7)) 7 se_22) ?_
 refine Ypr (r_ldr 0 (k+7) rfl rfl rfl ag_5 (by first|omega|(dsimp only;omega)|rfl) (nats_get Om)) ?_
 refine Ypy (ZcvNd (xs.getD (k+7) 0) un_5 un_96) ?_
 refine Ypy (ZshlWd (xs.getD (k+7) 0) 56) ?_
 refine Ypy (orN_u64 (m:=((((((xs.getD k 0)|||((xs.getD (k+1) 0)*2^8%18446744073709551616))|||((xs.getD (k+2) 0)*2^16%18446744073709551616))|||((xs.getD (k+3) 0)*2^24%18446744073709551616))|||((xs.getD (k+4) 0)*2^32%18446744073709551616))|||((xs.getD (k+5) 0)*2^40%18446744073709551616))|||((xs.getD (k+6) 0)*2^48%18446744073709551616)) (n:=(xs.getD (k+7) 0)*2^56%18446744073709551616) rfl rfl rfl (or_lt64 (or_lt64 (or_lt64 (or_lt64 (or_lt64 (or_lt64 Om Om) Om) Om) Om) Om) Om) Om) ?_
 refine GP.nil (GQ.thenN (G.ret ?_))
 repeat first|refine ZR ?_|refine ZB ?_
 exact ret1 [] rfl rfl rfl (⟨by simp[le64],rfl⟩)
theorem c_Load32 (bi so:Nat) (shi:Shp) (xs:List Nat) (hx:Bytes xs) (k len cap i:Nat) (hl:i+4≤len) (hc:len≤cap) (hk:k+len≤xs.length):Con Tryz.prog 68 [Vs bi (so+k) len cap,Vd i] [] [⟨bi,so,(nats .u8 xs),shi⟩] (fun v l'=>v=Vc (le32 xs (k+i))∧l'=[]):=by
 refine Zi Tryz.func68 rfl fun w0=>?_
 refine Y5 ?_
 refine Z4 ?_
 refine Zg 16 [r_0,y_1,y_2,y_3,e_4,y_5] ?_
 refine Ypr (OpY.toR (y_ld0 rfl rfl ag_180 sz_180)) ?_
 refine Ypy (y_slL (q':=so+(k+i)) (lo:=i) rfl rfl rfl se_22 Om Om) ?_
 refine Zpcc [] [0] (c_Uint32 bi so shi xs Oa (k+i) (len-i) (cap-i) Om Om) rfl ?_
 refine Ypa ?_
 refine GP.nil (GQ.thenN (G.ret ?_))
 repeat first|refine ZR ?_|refine ZB ?_
 exact ret1 [] rfl rfl rfl (⟨rfl,rfl⟩)
theorem c_Load64 (bi so:Nat) (shi:Shp) (xs:List Nat) (hx:Bytes xs) (k len cap i:Nat) (hl:i+8≤len) (hc:len≤cap) (hk:k+len≤xs.length):Con Tryz.prog 94 [Vs bi (so+k) len cap,Vd i] [] [⟨bi,so,(nats .u8 xs),shi⟩] (fun v l'=>v=Vd (le64 xs (k+i))∧l'=[]):=by
 refine Zi Tryz.func94 rfl fun w0=>?_
 refine Y5 ?_
 refine Z4 ?_
 refine Zg 16 [r_0,y_1,y_2,y_3,e_4,y_5] ?_
 refine Ypr (OpY.toR (y_ld0 rfl rfl ag_180 sz_180)) ?_
 refine Ypy (y_slL (q':=so+(k+i)) (lo:=i) rfl rfl rfl se_22 Om Om) ?_
 refine Zpcc [] [0] (c_Uint64 bi so shi xs Oa (k+i) (len-i) (cap-i) Om Om) rfl ?_
 refine Ypa ?_
 refine GP.nil (GQ.thenN (G.ret ?_))
 repeat first|refine ZR ?_|refine ZB ?_
 exact ret1 [] rfl rfl rfl (⟨rfl,rfl⟩)
theorem blen8 (n:Nat) (h:n<256):blen n≤8:=blen_le (k:=8) h
theorem len32_1 (x:Nat) (hx:x<4294967296) (h1:65536≤x) (h2:256≤x/2^16):16+8+blen (x/2^16/2^8%256)=blen x:=by
  rw[Nat.mod_eq_of_lt Om,blen_div x 16 Om,blen_div (x/2^16) 8 Om];omega
theorem len32_2 (x:Nat) (hx:x<4294967296) (h1:65536≤x) (h2:¬256≤x/2^16):16+blen (x/2^16%256)=blen x:=by
  rw[Nat.mod_eq_of_lt Om,blen_div x 16 Om]
theorem len32_3 (x:Nat) (hx:x<4294967296) (h1:¬65536≤x) (h2:256≤x):0+8+blen (x/2^8%256)=blen x:=by
  rw[Nat.mod_eq_of_lt Om,blen_div x 8 Om]
theorem len32_4 (x:Nat) (hx:x<4294967296) (h1:¬65536≤x) (h2:¬256≤x):0+blen (x%256)=blen x:=by
  rw[Nat.mod_eq_of_lt Om,Nat.zero_add]
theorem c_Len32 (x:Nat) (hx:x<4294967296):Con Tryz.prog 58 [Vc x] [] [] (fun v l'=>v=Vh (blen x)∧l'=[]):=by
 refine Zi Tryz.func58 rfl fun w0=>?_
 refine Y5 ?_
 refine Y3 ?_
 refine Yy (Zge x 65536) ?_
 refine Zn ?_
 refine Zc (fun h1=>?_) (fun h1=>?_)
 refine Y5 ?_
 refine Yy (ZshrNc x 16) ?_
 refine Y1 ?_
 refine Y3 ?_
 refine Yy (Zge (x/2^16) 256) ?_
 refine Zn ?_
 refine Zc (fun h2=>?_) (fun h2=>?_)
 refine Y5 ?_
 refine Yy (ZshrNc (x/2^16) 8) ?_
 refine Y1 ?_
 refine Yy (Zq 24 (ZaddNh 16 8) Od) ?_
 refine Y2 ?_
 refine Yy (ZcvWa ((x/2^16)/2^8) un_75 un_5) ?_
 refine Yy (y_istr (sb:=tab8) (m:=((x/2^16)/2^8)%256) rfl (by kernel_rfl) rfl un_9 (tab8_ok _ Om)) ?_
 have hb8:=blen8 (((x/2^16)/2^8)%256) Om
 refine Yy (ZcvNh (blen (((x/2^16)/2^8)%256)) un_5 un_3) ?_
 refine Yy (ZaddNh 24 (blen (((x/2^16)/2^8)%256))) ?_
 refine Zn (G.ret ?_)
 repeat first|refine ZR ?_|refine ZB ?_
 exact ret1 [] rfl rfl rfl (⟨congrArg (fun q:Nat=>Value.int .i64 (q:Int)) (len32_1 x hx Om Om),rfl⟩)
 refine Y8 ?_
 refine Yy (ZcvWa (x/2^16) un_75 un_5) ?_
 refine Yy (y_istr (sb:=tab8) (m:=(x/2^16)%256) rfl (by kernel_rfl) rfl un_9 (tab8_ok _ Om)) ?_
 have hb8:=blen8 ((x/2^16)%256) Om
 refine Yy (ZcvNh (blen ((x/2^16)%256)) un_5 un_3) ?_
 refine Yy (ZaddNh 16 (blen ((x/2^16)%256))) ?_
 refine Zn (G.ret ?_)
 repeat first|refine ZR ?_|refine ZB ?_
 exact ret1 [] rfl rfl rfl (⟨congrArg (fun q:Nat=>Value.int .i64 (q:Int)) (len32_2 x hx Om Om),rfl⟩)
 refine Z7 (Y6 ?_)
 refine Yy (Zge x 256) ?_
 refine Zn ?_
 refine Zc (fun h3=>?_) (fun h3=>?_)
 refine Y5 ?_
 refine Yy (ZshrNc x 8) ?_
 refine Y1 ?_
 refine Yy (Zq 8 (ZaddNh 0 8) Od) ?_
 refine Y2 ?_
 refine Yy (ZcvWa (x/2^8) un_75 un_5) ?_
 refine Yy (y_istr (sb:=tab8) (m:=(x/2^8)%256) rfl (by kernel_rfl) rfl un_9 (tab8_ok _ Om)) ?_
 have hb8:=blen8 ((x/2^8)%256) Om
 refine Yy (ZcvNh (blen ((x/2^8)%256)) un_5 un_3) ?_
 refine Yy (ZaddNh 8 (blen ((x/2^8)%256))) ?_
 refine Zn (G.ret ?_)
 repeat first|refine ZR ?_|refine ZB ?_
 exact ret1 [] rfl rfl rfl (⟨congrArg (fun q:Nat=>Value.int .i64 (q:Int)) (len32_3 x hx Om Om),rfl⟩)
 refine Y8 ?_
 refine Yy (ZcvWa x un_75 un_5) ?_
 refine Yy (y_istr (sb:=tab8) (m:=x%256) rfl (by kernel_rfl) rfl un_9 (tab8_ok _ Om)) ?_
 have hb8:=blen8 (x%256) Om
 refine Yy (ZcvNh (blen (x%256)) un_5 un_3) ?_
 refine Yy (ZaddNh 0 (blen (x%256))) ?_
 refine Zn (G.ret ?_)
 repeat first|refine ZR ?_|refine ZB ?_
 exact ret1 [] rfl rfl rfl (⟨congrArg (fun q:Nat=>Value.int .i64 (q:Int)) (len32_4 x hx Om Om),rfl⟩)
theorem c_highBit32 (x:Nat) (h0:0<x) (hx:x<4294967296):Con Tryz.prog 36 [Vc x] [] [] (fun v l'=>v=Vc (blen x-1)∧l'=[]):=by
 refine Zi Tryz.func36 rfl fun w0=>?_
 refine Y5 ?_
 refine Z4 ?_
 have hp:=blen_pos h0
 have hb:blen x≤32:=blen_le (k:=32) Om
 refine YG ?_
 refine Zcc [] [] (c_Len32 x Om) rfl ?_
 refine Yy (ZsubNh (blen x) 1) ?_
 refine Yy (ZcvNc ((blen x)-1) un_3 un_75) ?_
 refine Zn (G.ret ?_)
 repeat first|refine ZR ?_|refine ZB ?_
 exact ret1 [] rfl rfl rfl (⟨rfl,rfl⟩)
theorem c_highBits (x:Nat) (h0:0<x) (hx:x<4294967296):Con Tryz.prog 81 [Vc x] [] [] (fun v l'=>v=Vc (blen x-1)∧l'=[]):=by
 refine Zi Tryz.func81 rfl fun w0=>?_
 refine Y5 ?_
 refine Z4 ?_
 have hp:=blen_pos h0
 have hb:blen x≤32:=blen_le (k:=32) Om
 refine YG ?_
 refine Zcc [] [] (c_Len32 x Om) rfl ?_
 refine Yy (ZsubNh (blen x) 1) ?_
 refine Yy (ZcvNc ((blen x)-1) un_3 un_75) ?_
 refine Zn (G.ret ?_)
 repeat first|refine ZR ?_|refine ZB ?_
 exact ret1 [] rfl rfl rfl (⟨rfl,rfl⟩)
theorem c_advance_Shifted (iv:Value) (len:Nat) (b o:Nat) (sh:Shp) (s:BR) (h:s.OK len) (n:Nat) (hn:n<256):Con Tryz.prog 42 [Vp b o,Va n] [⟨b,o,[iv,Vd s.off,Vd s.val,Va s.rd],sh⟩] [] (fun v l'=>v=.tuple #[]∧l'=[⟨b,o,brC (iv) (BR.adv s n),sh⟩]):=by
 refine Zi Tryz.func42 rfl fun w0=>?_
 refine G.seq ?_
 have hoff:=h.off
 have hval:=h.val
 have hrd:=h.rd
 refine YG ?_
 refine Yy (Zf fo_121_3) ?_
 refine Yr (Zl 0 3 ag_5) ?_
 refine Yy (ZaddWa s.rd n) ?_
 refine Yy (Zf fo_121_3) ?_
 refine Ys (Zst 0 3 sz_5) ?_
 refine Y1 ?_
 refine Yy (Zf fo_121_2) ?_
 refine Yr (Zl 0 2 ag_96) ?_
 refine Yy (ZandNa n 63) ?_
 refine Yy (ZshlWd s.val (n&&&63)) ?_
 refine Yy (Zf fo_121_2) ?_
 refine Ys (Zst 0 2 sz_96) ?_
 refine GL.nil ?_
 exact ret0 [0] rfl rfl (⟨rfl,rfl⟩)
theorem c_peek_Shifted (iv:Value) (len:Nat) (b o:Nat) (sh:Shp) (s:BR) (h:s.OK len) (n:Nat) (hn:n≤64):Con Tryz.prog 41 [Vp b o,Va n] [⟨b,o,[iv,Vd s.off,Vd s.val,Va s.rd],sh⟩] [] (fun v l'=>v=Vb (s.peek n)∧l'=[⟨b,o,brC (iv) s,sh⟩]):=by
 refine Zi Tryz.func41 rfl fun w0=>?_
 refine Y5 ?_
 refine Z4 ?_
 have hoff:=h.off
 have hval:=h.val
 have hrd:=h.rd
 refine YG ?_
 refine Yy (Zf fo_121_2) ?_
 refine Yr (Zl 0 2 ag_96) ?_
 refine Yy (ZsubNa 64 n) ?_
 refine Yy (ZandNa (64-n) 63) ?_
 refine Yy (ZshrNd s.val ((64-n)&&&63)) ?_
 refine Yy (ZcvWb (s.val/2^((64-n)&&&63)) un_96 un_78) ?_
 refine Zn (G.ret ?_)
 repeat first|refine ZR ?_|refine ZB ?_
 exact ret1 [0] rfl rfl rfl (⟨rfl,rfl⟩)
theorem c_fillFast_Shifted (bi so:Nat) (shi:Shp) (xs:List Nat) (k len cap:Nat) (hc:len≤cap) (hk:k+len≤xs.length) (hz:xs.length≤1152921504606846976) (b o:Nat) (sh:Shp) (s:BR) (h:s.OK len) (hx:Bytes xs) (h4:32≤s.rd→4≤s.off) (hr:s.rd≤64):Con Tryz.prog 40 [Vp b o] [⟨b,o,[Vs bi (so+k) len cap,Vd s.off,Vd s.val,Va s.rd],sh⟩] [⟨bi,so,(nats .u8 xs),shi⟩] (fun v l'=>v=.tuple #[]∧l'=[⟨b,o,brC (Vs bi (so+k) len cap) (BR.fillFast xs k s),sh⟩]):=by
 refine Zi Tryz.func40 rfl fun w0=>?_
 refine G.seq (G.seq ?_)
 have hoff:=h.off
 have hval:=h.val
 have hrd:=h.rd
 refine YG ?_
 refine Yy (Zf fo_121_3) ?_
 refine Yr (Zl 0 3 ag_5) ?_
 refine Yy (Zlt s.rd 32) ?_
 refine Zn ?_
 refine Zc (fun h1=>?_) (fun h1=>?_)
 have h32:s.rd<32:=Om
 refine G.ret ?_
 repeat first|refine ZR ?_|refine ZB ?_
 exact ret0r [0] rfl rfl (⟨rfl,by simp[BR.fillFast,BR.load4,brC,h32]⟩)
 have h32:¬s.rd<32:=Om
 have h4:=h4 Om
 have hlt:=le32_lt hx (k+(s.off-4))
 refine Z7 (G.seq ?_)
 refine Zg 512 [y_0,y_1,y_2,r_3,y_4,y_5,y_6,r_7,y_8,e_9,y_10] ?_
 refine Ypa ?_
 refine Ypy (Zf fo_121_0) ?_
 refine Ypr (Zl 0 0 ag_22) ?_
 refine Ypy (Zf fo_121_1) ?_
 refine Ypr (Zl 0 1 ag_39) ?_
 refine Ypy (ZsubNd s.off 4) ?_
 refine Zpcc [] [1] (c_Load32 bi so shi xs Oa k len cap (s.off-4) Om Om Om) rfl ?_
 refine Ypa ?_
 refine GP.nil (GQ.thenN (G.seq ?_))
 refine Zg 65536 [y_0,y_1,y_2,r_3,y_4,y_5,y_6,y_7,y_8,r_9,y_10,y_11,y_12,y_13,y_14,y_15,e_16] ?_
 refine Ypa ?_
 refine Ypy (Zf fo_121_2) ?_
 refine Ypr (Zl 0 2 ag_96) ?_
 refine Ypy (ZcvNd (le32 xs (k+(s.off-4))) un_75 un_96) ?_
 refine Ypy (Zf fo_121_3) ?_
 refine Ypr (Zl 0 3 ag_5) ?_
 refine Ypy (ZsubNa s.rd 32) ?_
 refine Ypy (ZandNa (s.rd-32) 63) ?_
 refine Ypy (ZshlWd (le32 xs (k+(s.off-4))) ((s.rd-32)&&&63)) ?_
 refine Ypy (ZorNd s.val ((le32 xs (k+(s.off-4)))*2^((s.rd-32)&&&63)%18446744073709551616)) ?_
 refine Ypy (Zf fo_121_2) ?_
 refine Yps (Zst 0 2 sz_96) ?_
 refine GP.nil (GQ.thenN (Y5 ?_))
 refine Yy (Zf fo_121_3) ?_
 refine Yr (Zl 0 3 ag_5) ?_
 refine Yy (ZsubNa s.rd 32) ?_
 refine Yy (Zf fo_121_3) ?_
 refine Ys (Zst 0 3 sz_5) ?_
 refine Y1 ?_
 refine Yy (Zf fo_121_1) ?_
 refine Yr (Zl 0 1 ag_39) ?_
 refine Yy (ZsubNd s.off 4) ?_
 refine Yy (Zf fo_121_1) ?_
 refine Ys (Zst 0 1 sz_39) ?_
 refine GL.nil ?_
 exact ret0 [0] rfl rfl (⟨rfl,by simp[BR.fillFast,BR.load4,brC,h32,and63 (show s.rd-32<64 by omega)]⟩)
theorem c_fillFastStart_Shifted (bi so:Nat) (shi:Shp) (xs:List Nat) (k len cap:Nat) (hc:len≤cap) (hk:k+len≤xs.length) (hz:xs.length≤1152921504606846976) (b o:Nat) (sh:Shp) (s:BR) (h:s.OK len) (hx:Bytes xs) (h8:8≤s.off):Con Tryz.prog 66 [Vp b o] [⟨b,o,[Vs bi (so+k) len cap,Vd s.off,Vd s.val,Va s.rd],sh⟩] [⟨bi,so,(nats .u8 xs),shi⟩] (fun v l'=>v=.tuple #[]∧l'=[⟨b,o,brC (Vs bi (so+k) len cap) (⟨s.off-8,le64 xs (k+(s.off-8)),0⟩:BR),sh⟩]):=by
 refine Zi Tryz.func66 rfl fun w0=>?_
 refine G.seq ?_
 have hoff:=h.off
 have hval:=h.val
 have hrd:=h.rd
 refine Zg 9216 [y_0,y_1,y_2,y_3,r_4,y_5,y_6,y_7,r_8,y_9,e_10,y_11,y_12,e_13] ?_
 refine Ypa ?_
 refine Ypy (Zf fo_121_0) ?_
 refine Ypr (Zl 0 0 ag_22) ?_
 refine Ypy (Zf fo_121_1) ?_
 refine Ypr (Zl 0 1 ag_39) ?_
 refine Ypy (ZsubNd s.off 8) ?_
 refine Zpcc [] [1] (c_Load64 bi so shi xs Oa k len cap (s.off-8) Om Om Om) rfl ?_
 refine Ypa ?_
 refine Ypy (Zf fo_121_2) ?_
 refine Yps (Zst 0 2 sz_96) ?_
 refine GP.nil (GQ.thenN (Y5 ?_))
 refine Yy (Zf fo_121_3) ?_
 refine Ys (Zst 0 3 sz_5) ?_
 refine Y1 ?_
 refine Yy (Zf fo_121_1) ?_
 refine Yr (Zl 0 1 ag_39) ?_
 refine Yy (ZsubNd s.off 8) ?_
 refine Yy (Zf fo_121_1) ?_
 refine Ys (Zst 0 1 sz_39) ?_
 refine GL.nil ?_
 exact ret0 [0] rfl rfl (⟨rfl,rfl⟩)
theorem c_remaining_Shifted (iv:Value) (len:Nat) (b o:Nat) (sh:Shp) (s:BR) (h:s.OK len) (hr:s.rd≤64) (hz:len≤1152921504606846976):Con Tryz.prog 44 [Vp b o] [⟨b,o,[iv,Vd s.off,Vd s.val,Va s.rd],sh⟩] [] (fun v l'=>v=Vd s.left∧l'=[⟨b,o,brC (iv) s,sh⟩]):=by
 refine Zi Tryz.func44 rfl fun w0=>?_
 refine G.seq ?_
 have hoff:=h.off
 have hval:=h.val
 have hrd:=h.rd
 refine YG ?_
 refine Z4 ?_
 refine Zg 0 [y_0,y_1,y_2,r_3,y_4,y_5,y_6,y_7,r_8,y_9,y_10,y_11,y_12] ?_
 refine Ypa ?_
 refine Ypy (Zf fo_121_1) ?_
 refine Ypr (Zl 0 1 ag_39) ?_
 refine Ypy (ZmulNd s.off 8) ?_
 refine Ypy (Zf fo_121_3) ?_
 refine Ypr (Zl 0 3 ag_5) ?_
 refine Ypy (ZsubNa 64 s.rd) ?_
 refine Ypy (ZcvNd (64-s.rd) un_5 un_39) ?_
 refine Ypy (ZaddNd (s.off*8) (64-s.rd)) ?_
 refine GP.nil (GQ.thenN (G.ret ?_))
 repeat first|refine ZR ?_|refine ZB ?_
 exact ret1 [0] rfl rfl rfl (⟨rfl,rfl⟩)
theorem c_fill_Shifted (bi so:Nat) (shi:Shp) (xs:List Nat) (k len cap:Nat) (hc:len≤cap) (hk:k+len≤xs.length) (hz:xs.length≤1152921504606846976) (b o:Nat) (sh:Shp) (s:BR) (h:s.OK len) (hx:Bytes xs) (hr:s.rd≤64) (h8:32≤s.rd→s.off<5→8*s.off≤s.rd):Con Tryz.prog 45 [Vp b o] [⟨b,o,[Vs bi (so+k) len cap,Vd s.off,Vd s.val,Va s.rd],sh⟩] [⟨bi,so,(nats .u8 xs),shi⟩] (fun v l'=>v=.tuple #[]∧l'=[⟨b,o,brC (Vs bi (so+k) len cap) (BR.fill 5 xs k s),sh⟩]):=by
 refine Zi Tryz.func45 rfl fun w0=>?_
 refine G.seq (G.seq ?_)
 have hoff:=h.off
 have hval:=h.val
 have hrd:=h.rd
 refine YG ?_
 refine Yy (Zf fo_121_3) ?_
 refine Yr (Zl 0 3 ag_5) ?_
 refine Yy (Zlt s.rd 32) ?_
 refine Zn ?_
 refine Zc (fun h1=>?_) (fun h1=>?_)
 have h32:s.rd<32:=Om
 refine G.ret ?_
 repeat first|refine ZR ?_|refine ZB ?_
 exact ret0r [0] rfl rfl (⟨rfl,by simp[BR.fill,brC,h32]⟩)
 have h32:¬s.rd<32:=Om
 refine Z7 (Y6 ?_)
 refine Yy (Zf fo_121_1) ?_
 refine Yr (Zl 0 1 ag_39) ?_
 refine Yy (Zgt s.off 4) ?_
 refine Zn ?_
 refine Zc (fun h2=>?_) (fun h2=>?_)
 have h4:5≤s.off:=Om
 have hlt:=le32_lt hx (k+(s.off-4))
 refine G.seq ?_
 refine Zg 512 [y_0,y_1,y_2,r_3,y_4,y_5,y_6,r_7,y_8,e_9,y_10] ?_
 refine Ypa ?_
 refine Ypy (Zf fo_121_0) ?_
 refine Ypr (Zl 0 0 ag_22) ?_
 refine Ypy (Zf fo_121_1) ?_
 refine Ypr (Zl 0 1 ag_39) ?_
 refine Ypy (ZsubNd s.off 4) ?_
 refine Zpcc [] [1] (c_Load32 bi so shi xs Oa k len cap (s.off-4) Om Om Om) rfl ?_
 refine Ypa ?_
 refine GP.nil (GQ.thenN (G.seq ?_))
 refine Zg 65536 [y_0,y_1,y_2,r_3,y_4,y_5,y_6,y_7,y_8,r_9,y_10,y_11,y_12,y_13,y_14,y_15,e_16] ?_
 refine Ypa ?_
 refine Ypy (Zf fo_121_2) ?_
 refine Ypr (Zl 0 2 ag_96) ?_
 refine Ypy (ZcvNd (le32 xs (k+(s.off-4))) un_75 un_96) ?_
 refine Ypy (Zf fo_121_3) ?_
 refine Ypr (Zl 0 3 ag_5) ?_
 refine Ypy (ZsubNa s.rd 32) ?_
 refine Ypy (ZandNa (s.rd-32) 63) ?_
 refine Ypy (ZshlWd (le32 xs (k+(s.off-4))) ((s.rd-32)&&&63)) ?_
 refine Ypy (ZorNd s.val ((le32 xs (k+(s.off-4)))*2^((s.rd-32)&&&63)%18446744073709551616)) ?_
 refine Ypy (Zf fo_121_2) ?_
 refine Yps (Zst 0 2 sz_96) ?_
 refine GP.nil (GQ.thenN (Y5 ?_))
 refine Yy (Zf fo_121_3) ?_
 refine Yr (Zl 0 3 ag_5) ?_
 refine Yy (ZsubNa s.rd 32) ?_
 refine Yy (Zf fo_121_3) ?_
 refine Ys (Zst 0 3 sz_5) ?_
 refine Y2 ?_
 refine Yy (Zf fo_121_1) ?_
 refine Yr (Zl 0 1 ag_39) ?_
 refine Yy (ZsubNd s.off 4) ?_
 refine Yy (Zf fo_121_1) ?_
 refine Ys (Zst 0 1 sz_39) ?_
 refine Zn (G.ret ?_)
 repeat first|refine ZR ?_|refine ZB ?_
 exact ret0r [0] rfl rfl (⟨rfl,by simp[BR.fill,BR.load4,brC,h32,h4,and63 (show s.rd-32<64 by omega)]⟩)
 have h4:¬5≤s.off:=Om
 have h8:=h8 Om Om
 refine Z7 (G.block ?_)
 refine Zo (fun n ρ l=>∃j:Nat,n=s.off-j∧(j≤s.off)∧ρ=[(0,Vp b o)]∧l=[⟨b,o,[Vs bi (so+k) len cap,Vd ((BR.loads xs k j s).off),Vd ((BR.loads xs k j s).val),Va ((BR.loads xs k j s).rd)],sh⟩]) ⟨0,rfl,Om,rfl,rfl⟩ ?_
 rintro _ _ _ ⟨j,rfl,hj,rfl,rfl⟩
 have ho1:=BR.loads_off (xs:=xs) (k:=k) (s:=s) j
 have hr1:=BR.loads_rd (xs:=xs) (k:=k) (s:=s) j
 have hv1:=(BR.OK.loads (xs:=xs) (k:=k) h j).val
 have hb1:=hx.at_ (k+((BR.loads xs k j s).off-1))
 refine Y6 ?_
 refine Yy (Zf fo_121_1) ?_
 refine Yr (Zl 0 1 ag_39) ?_
 refine Yy (Zgt ((BR.loads xs k j s).off) 0) ?_
 refine Zn ?_
 refine Zc (fun h3=>?_) (fun h3=>?_)
 refine Z7 (G.block (G.seq ?_))
 refine Zg 67108864 [y_0,y_1,y_2,r_3,y_4,y_5,y_6,r_7,y_8,y_9,y_10,r_11,y_12,y_13,r_14,y_15,y_16,y_17,y_18,r_19,y_20,y_21,y_22,y_23,y_24,y_25,e_26] ?_
 refine Ypa ?_
 refine Ypy (Zf fo_121_2) ?_
 refine Ypr (Zl 0 2 ag_96) ?_
 refine Ypy (Zf fo_121_0) ?_
 refine Ypr (Zl 0 0 ag_22) ?_
 refine Ypy (Zf fo_121_1) ?_
 refine Ypr (Zl 0 1 ag_39) ?_
 refine Ypy (ZsubNd ((BR.loads xs k j s).off) 1) ?_
 refine Ypy (Zx (so+(k+(((BR.loads xs k j s).off)-1))) (((BR.loads xs k j s).off)-1) se_22) ?_
 refine Ypr (r_ldr 0 (k+(((BR.loads xs k j s).off)-1)) rfl rfl rfl ag_5 (by first|omega|(dsimp only;omega)|rfl) (nats_get Om)) ?_
 refine Ypy (ZcvNd (xs.getD (k+(((BR.loads xs k j s).off)-1)) 0) un_5 un_96) ?_
 refine Ypy (Zf fo_121_3) ?_
 refine Ypr (Zl 0 3 ag_5) ?_
 refine Ypy (ZsubNa ((BR.loads xs k j s).rd) 8) ?_
 refine Ypy (ZandNa (((BR.loads xs k j s).rd)-8) 63) ?_
 refine Ypy (ZshlWd (xs.getD (k+(((BR.loads xs k j s).off)-1)) 0) ((((BR.loads xs k j s).rd)-8)&&&63)) ?_
 refine Ypy (ZorNd ((BR.loads xs k j s).val) ((xs.getD (k+(((BR.loads xs k j s).off)-1)) 0)*2^((((BR.loads xs k j s).rd)-8)&&&63)%18446744073709551616)) ?_
 refine Ypy (Zf fo_121_2) ?_
 refine Yps (Zst 0 2 sz_96) ?_
 refine GP.nil (GQ.thenN (Y5 ?_))
 refine Yy (Zf fo_121_3) ?_
 refine Yr (Zl 0 3 ag_5) ?_
 refine Yy (ZsubNa ((BR.loads xs k j s).rd) 8) ?_
 refine Yy (Zf fo_121_3) ?_
 refine Ys (Zst 0 3 sz_5) ?_
 refine Y1 ?_
 refine Yy (Zf fo_121_1) ?_
 refine Yr (Zl 0 1 ag_39) ?_
 refine Yy (ZsubNd ((BR.loads xs k j s).off) 1) ?_
 refine Yy (Zf fo_121_1) ?_
 refine Ys (Zst 0 1 sz_39) ?_
 refine GL.nil (GQ.blockN ?_)
 exact Zb ⟨j+1,rfl,Om,rfl,(by simp[setS,BR.loads,BR.load1,and63 (show(BR.loads xs k j s).rd-8<64 by omega)])⟩
 refine G.exit (GQ.thenE (GQ.thenE (GQ.blockE ?_)))
 exact ret0 [0] rfl rfl (⟨rfl,by simp[BR.fill,brC,h32,h4,show j=s.off by omega]⟩)
theorem c_close_Shifted (iv:Value) (len:Nat) (b o:Nat) (sh:Shp) (s:BR) (h:s.OK len) (h0:s.off=0) (h64:s.rd=64) (hz:len≤1152921504606846976):Con Tryz.prog 46 [Vp b o] [⟨b,o,[iv,Vd s.off,Vd s.val,Va s.rd],sh⟩] [] (fun v l'=>v=.nilIface∧l'=[⟨b,o,brC (.slice none 0 0) s,sh⟩]):=by
 refine Zi Tryz.func46 rfl fun w0=>?_
 refine G.seq ?_
 have hoff:=h.off
 have hval:=h.val
 have hrd:=h.rd
 have hlf:s.left=0:=by simp[BR.left,h0,h64]
 refine YG ?_
 refine Y2 ?_
 refine Yy (Zf fo_121_0) ?_
 refine Ys (Zst 0 0 sz_22) ?_
 refine Y3 ?_
 refine Zcc [0] [] (c_remaining_Shifted (.slice none 0 0) _ b o sh s Oa Om Om) rfl ?_
 refine Yy (Zgt (BR.left s) 0) ?_
 refine Zn ?_
 refine Zc (fun h1=>?_) (fun h1=>?_)
 exfalso;omega
 refine Z7 (Y6 ?_)
 refine Yy (Zf fo_121_3) ?_
 refine Yr (Zl 0 3 ag_5) ?_
 refine Yy (Zgt s.rd 64) ?_
 refine Zn ?_
 refine Zc (fun h2=>?_) (fun h2=>?_)
 exfalso;omega
 refine Y8 ?_
 refine Zn (G.ret ?_)
 repeat first|refine ZR ?_|refine ZB ?_
 exact ret1 [0] rfl rfl rfl (⟨rfl,rfl⟩)
theorem c_init_Shifted (bi so:Nat) (shi:Shp) (xs:List Nat) (k len cap:Nat) (hc:len≤cap) (hk:k+len≤xs.length) (hz:xs.length≤1152921504606846976) (hx:Bytes xs) (h1:1≤len) (hv:0<xs.getD (k+(len-1)) 0) (b o:Nat) (sh:Shp) (c0 c1 c2 c3:Value):Con Tryz.prog 38 [Vp b o,Vs bi (so+k) len cap] [⟨b,o,[c0,c1,c2,c3],sh⟩] [⟨bi,so,(nats .u8 xs),shi⟩] (fun v l'=>v=.nilIface∧l'=[⟨b,o,brC (Vs bi (so+k) len cap) (BR.init 5 xs k len),sh⟩]):=by
 refine Zi Tryz.func38 rfl fun w0=>?_
 refine G.seq ?_
 have hs0:BR.OK len ⟨len,0,64⟩:=⟨Nat.le_refl _,Oi,Oi⟩
 have hlb:=hx.at_ (k+(len-1))
 have hb8:blen (xs.getD (k+(len-1)) 0)≤8:=blen8 _ hlb
 have hs1:=BR.OK.fill (t:=5) (xs:=xs) (k:=k) hs0
 have hs2:=BR.OK.fill (t:=5) (xs:=xs) (k:=k) hs1
 refine YG ?_
 refine Y3 ?_
 refine Yy (Zlen un_22) ?_
 refine Yy (Zlt len 1) ?_
 refine Zn ?_
 refine Zc (fun h1=>?_) (fun h1=>?_)
 exfalso;omega
 refine Y8 ?_
 refine Yy (Zf fo_121_0) ?_
 refine Ys (Zst 0 0 sz_22) ?_
 refine Y2 ?_
 refine Yy (Zlen un_22) ?_
 refine Yy (ZcvNd len un_3 un_39) ?_
 refine Yy (Zf fo_121_1) ?_
 refine Ys (Zst 0 1 sz_39) ?_
 refine Y2 ?_
 refine Yy (Zlen un_22) ?_
 refine Yy (ZsubNh len 1) ?_
 refine Yy (Zx (so+(k+(len-1))) (len-1) se_22) ?_
 refine Yr (r_ldr 0 (k+(len-1)) rfl rfl rfl ag_5 (by first|omega|(dsimp only;omega)|rfl) (nats_get Om)) ?_
 refine Y3 ?_
 refine Yy (Zeq (xs.getD (k+(len-1)) 0) 0) ?_
 refine Zn ?_
 refine Zc (fun h2=>?_) (fun h2=>?_)
 exfalso;omega
 refine Y8 ?_
 refine Yy (Zf fo_121_3) ?_
 refine Ys (Zst 0 3 sz_5) ?_
 refine Y2 ?_
 refine Yy (Zf fo_121_2) ?_
 refine Ys (Zst 0 2 sz_96) ?_
 refine Y3 ?_
 refine Yy (Zlen un_22) ?_
 refine Yy (Zge len 8) ?_
 refine Zn ?_
 refine Zc (fun hq=>?_) (fun hq=>?_)
 have h8:8≤len:=Om
 have hs8:BR.OK len (⟨(⟨len,0,64⟩:BR).off-8,le64 xs (k+((⟨len,0,64⟩:BR).off-8)),0⟩:BR):=⟨Oi,le64_lt hx _,Oi⟩
 refine YG ?_
 refine Zcc [0] [0] (c_fillFastStart_Shifted bi so shi xs k len cap Om Om Om b o sh (⟨len,0,64⟩:BR) Oa Oa Om) rfl ?_
 refine Y2 ?_
 refine Yy (ZcvNc (xs.getD (k+(len-1)) 0) un_5 un_75) ?_
 refine Zcc [] [] (c_highBit32 (xs.getD (k+(len-1)) 0) Om Om) rfl ?_
 refine Yy (ZcvNa (blen (xs.getD (k+(len-1)) 0)-1) un_75 un_5) ?_
 refine Yy (ZsubNa 8 (blen (xs.getD (k+(len-1)) 0)-1)) ?_
 refine Zcc [0] [] (c_advance_Shifted (Vs bi (so+k) len cap) _ b o sh (⟨(⟨len,0,64⟩:BR).off-8,le64 xs (k+((⟨len,0,64⟩:BR).off-8)),0⟩:BR) Oa (8-(blen (xs.getD (k+(len-1)) 0)-1)) Om) rfl ?_
 refine Y2 ?_
 refine Zn (G.ret ?_)
 repeat first|refine ZR ?_|refine ZB ?_
 exact ret1 [0] rfl rfl rfl (⟨rfl,by simp[BR.init,BR.start,brC,h8]⟩)
 have h8:¬8≤len:=Om
 have e1:(⟨len,0,64⟩:BR).rd=64:=rfl
 have e2:(⟨len,0,64⟩:BR).off=len:=rfl
 have hf1:=BR.fill_rd (t:=5) (xs:=xs) (k:=k) (s:=⟨len,0,64⟩) Oi
 have hf2:=BR.fill_start (t:=5) (xs:=xs) (k:=k) (len:=len) Om Om
 refine Y5 ?_
 refine Zcc [0] [0] (c_fill_Shifted bi so shi xs k len cap Om Om Om b o sh (⟨len,0,64⟩:BR) Oa Oa Om Om) rfl ?_
 refine Y1 ?_
 refine Zcc [0] [0] (c_fill_Shifted bi so shi xs k len cap Om Om Om b o sh (BR.fill 5 xs k (⟨len,0,64⟩:BR)) Oa Oa Om Om) rfl ?_
 refine Y2 ?_
 refine Yy (ZcvNc (xs.getD (k+(len-1)) 0) un_5 un_75) ?_
 refine Zcc [] [] (c_highBit32 (xs.getD (k+(len-1)) 0) Om Om) rfl ?_
 refine Yy (ZcvNa (blen (xs.getD (k+(len-1)) 0)-1) un_75 un_5) ?_
 refine Yy (ZsubNa 8 (blen (xs.getD (k+(len-1)) 0)-1)) ?_
 refine Zcc [0] [] (c_advance_Shifted (Vs bi (so+k) len cap) _ b o sh (BR.fill 5 xs k (BR.fill 5 xs k (⟨len,0,64⟩:BR))) Oa (8-(blen (xs.getD (k+(len-1)) 0)-1)) Om) rfl ?_
 refine Y2 ?_
 refine Zn (G.ret ?_)
 repeat first|refine ZR ?_|refine ZB ?_
 exact ret1 [0] rfl rfl rfl (⟨rfl,by simp[BR.init,BR.start,brC,h8]⟩)
theorem c_advance_Bytes (iv:Value) (len:Nat) (b o:Nat) (sh:Shp) (s:BR) (h:s.OK len) (n:Nat) (hn:n<256):Con Tryz.prog 64 [Vp b o,Va n] [⟨b,o,[iv,Vd s.off,Vd s.val,Va s.rd],sh⟩] [] (fun v l'=>v=.tuple #[]∧l'=[⟨b,o,brC (iv) (BR.adv s n),sh⟩]):=by
 refine Zi Tryz.func64 rfl fun w0=>?_
 refine G.seq ?_
 have hoff:=h.off
 have hval:=h.val
 have hrd:=h.rd
 refine YG ?_
 refine Yy (Zf fo_150_3) ?_
 refine Yr (Zl 0 3 ag_5) ?_
 refine Yy (ZaddWa s.rd n) ?_
 refine Yy (Zf fo_150_3) ?_
 refine Ys (Zst 0 3 sz_5) ?_
 refine Y1 ?_
 refine Yy (Zf fo_150_2) ?_
 refine Yr (Zl 0 2 ag_96) ?_
 refine Yy (ZandNa n 63) ?_
 refine Yy (ZshlWd s.val (n&&&63)) ?_
 refine Yy (Zf fo_150_2) ?_
 refine Ys (Zst 0 2 sz_96) ?_
 refine GL.nil ?_
 exact ret0 [0] rfl rfl (⟨rfl,rfl⟩)
theorem c_peek_Bytes (iv:Value) (len:Nat) (b o:Nat) (sh:Shp) (s:BR) (h:s.OK len):Con Tryz.prog 70 [Vp b o] [⟨b,o,[iv,Vd s.off,Vd s.val,Va s.rd],sh⟩] [] (fun v l'=>v=Va (s.val/2^56%256)∧l'=[⟨b,o,brC (iv) s,sh⟩]):=by
 refine Zi Tryz.func70 rfl fun w0=>?_
 refine Y5 ?_
 refine Z4 ?_
 have hoff:=h.off
 have hval:=h.val
 have hrd:=h.rd
 refine YG ?_
 refine Yy (Zf fo_150_2) ?_
 refine Yr (Zl 0 2 ag_96) ?_
 refine Yy (ZshrNd s.val 56) ?_
 refine Yy (ZcvWa (s.val/2^56) un_96 un_5) ?_
 refine Y2 ?_
 refine Zn (G.ret ?_)
 repeat first|refine ZR ?_|refine ZB ?_
 exact ret1 [0] rfl rfl rfl (⟨rfl,rfl⟩)
theorem c_fillFast_Bytes (bi so:Nat) (shi:Shp) (xs:List Nat) (k len cap:Nat) (hc:len≤cap) (hk:k+len≤xs.length) (hz:xs.length≤1152921504606846976) (b o:Nat) (sh:Shp) (s:BR) (h:s.OK len) (hx:Bytes xs) (h4:32≤s.rd→4≤s.off) (hr:s.rd≤64):Con Tryz.prog 61 [Vp b o] [⟨b,o,[Vs bi (so+k) len cap,Vd s.off,Vd s.val,Va s.rd],sh⟩] [⟨bi,so,(nats .u8 xs),shi⟩] (fun v l'=>v=.tuple #[]∧l'=[⟨b,o,brC (Vs bi (so+k) len cap) (BR.fillFast xs k s),sh⟩]):=by
 refine Zi Tryz.func61 rfl fun w0=>?_
 refine G.seq (G.seq ?_)
 have hoff:=h.off
 have hval:=h.val
 have hrd:=h.rd
 refine YG ?_
 refine Yy (Zf fo_150_3) ?_
 refine Yr (Zl 0 3 ag_5) ?_
 refine Yy (Zlt s.rd 32) ?_
 refine Zn ?_
 refine Zc (fun h1=>?_) (fun h1=>?_)
 have h32:s.rd<32:=Om
 refine G.ret ?_
 repeat first|refine ZR ?_|refine ZB ?_
 exact ret0r [0] rfl rfl (⟨rfl,by simp[BR.fillFast,BR.load4,brC,h32]⟩)
 have h32:¬s.rd<32:=Om
 have h4:=h4 Om
 have hlt:=le32_lt hx (k+(s.off-4))
 refine Z7 (G.seq ?_)
 refine Zg 512 [y_0,y_1,y_2,r_3,y_4,y_5,y_6,r_7,y_8,e_9,y_10] ?_
 refine Ypa ?_
 refine Ypy (Zf fo_150_0) ?_
 refine Ypr (Zl 0 0 ag_22) ?_
 refine Ypy (Zf fo_150_1) ?_
 refine Ypr (Zl 0 1 ag_39) ?_
 refine Ypy (ZsubNd s.off 4) ?_
 refine Zpcc [] [1] (c_Load32 bi so shi xs Oa k len cap (s.off-4) Om Om Om) rfl ?_
 refine Ypa ?_
 refine GP.nil (GQ.thenN (G.seq ?_))
 refine Zg 32768 [y_0,y_1,y_2,r_3,y_4,y_5,y_6,y_7,y_8,r_9,y_10,y_11,y_12,y_13,y_14,e_15] ?_
 refine Ypa ?_
 refine Ypy (Zf fo_150_2) ?_
 refine Ypr (Zl 0 2 ag_96) ?_
 refine Ypy (ZcvNd (le32 xs (k+(s.off-4))) un_75 un_96) ?_
 refine Ypy (Zf fo_150_3) ?_
 refine Ypr (Zl 0 3 ag_5) ?_
 refine Ypy (ZsubNa s.rd 32) ?_
 refine Ypy (ZshlWd (le32 xs (k+(s.off-4))) (s.rd-32)) ?_
 refine Ypy (ZorNd s.val ((le32 xs (k+(s.off-4)))*2^(s.rd-32)%18446744073709551616)) ?_
 refine Ypy (Zf fo_150_2) ?_
 refine Yps (Zst 0 2 sz_96) ?_
 refine GP.nil (GQ.thenN (Y5 ?_))
 refine Yy (Zf fo_150_3) ?_
 refine Yr (Zl 0 3 ag_5) ?_
 refine Yy (ZsubNa s.rd 32) ?_
 refine Yy (Zf fo_150_3) ?_
 refine Ys (Zst 0 3 sz_5) ?_
 refine Y1 ?_
 refine Yy (Zf fo_150_1) ?_
 refine Yr (Zl 0 1 ag_39) ?_
 refine Yy (ZsubNd s.off 4) ?_
 refine Yy (Zf fo_150_1) ?_
 refine Ys (Zst 0 1 sz_39) ?_
 refine GL.nil ?_
 exact ret0 [0] rfl rfl (⟨rfl,by simp[BR.fillFast,BR.load4,brC,h32]⟩)
theorem c_fillFastStart_Bytes (bi so:Nat) (shi:Shp) (xs:List Nat) (k len cap:Nat) (hc:len≤cap) (hk:k+len≤xs.length) (hz:xs.length≤1152921504606846976) (b o:Nat) (sh:Shp) (s:BR) (h:s.OK len) (hx:Bytes xs) (h8:8≤s.off):Con Tryz.prog 92 [Vp b o] [⟨b,o,[Vs bi (so+k) len cap,Vd s.off,Vd s.val,Va s.rd],sh⟩] [⟨bi,so,(nats .u8 xs),shi⟩] (fun v l'=>v=.tuple #[]∧l'=[⟨b,o,brC (Vs bi (so+k) len cap) (⟨s.off-8,le64 xs (k+(s.off-8)),0⟩:BR),sh⟩]):=by
 refine Zi Tryz.func92 rfl fun w0=>?_
 refine G.seq ?_
 have hoff:=h.off
 have hval:=h.val
 have hrd:=h.rd
 refine Zg 9216 [y_0,y_1,y_2,y_3,r_4,y_5,y_6,y_7,r_8,y_9,e_10,y_11,y_12,e_13] ?_
 refine Ypa ?_
 refine Ypy (Zf fo_150_0) ?_
 refine Ypr (Zl 0 0 ag_22) ?_
 refine Ypy (Zf fo_150_1) ?_
 refine Ypr (Zl 0 1 ag_39) ?_
 refine Ypy (ZsubNd s.off 8) ?_
 refine Zpcc [] [1] (c_Load64 bi so shi xs Oa k len cap (s.off-8) Om Om Om) rfl ?_
 refine Ypa ?_
 refine Ypy (Zf fo_150_2) ?_
 refine Yps (Zst 0 2 sz_96) ?_
 refine GP.nil (GQ.thenN (Y5 ?_))
 refine Yy (Zf fo_150_3) ?_
 refine Ys (Zst 0 3 sz_5) ?_
 refine Y1 ?_
 refine Yy (Zf fo_150_1) ?_
 refine Yr (Zl 0 1 ag_39) ?_
 refine Yy (ZsubNd s.off 8) ?_
 refine Yy (Zf fo_150_1) ?_
 refine Ys (Zst 0 1 sz_39) ?_
 refine GL.nil ?_
 exact ret0 [0] rfl rfl (⟨rfl,rfl⟩)
theorem c_remaining_Bytes (iv:Value) (len:Nat) (b o:Nat) (sh:Shp) (s:BR) (h:s.OK len) (hr:s.rd≤64) (hz:len≤1152921504606846976):Con Tryz.prog 62 [Vp b o] [⟨b,o,[iv,Vd s.off,Vd s.val,Va s.rd],sh⟩] [] (fun v l'=>v=Vd s.left∧l'=[⟨b,o,brC (iv) s,sh⟩]):=by
 refine Zi Tryz.func62 rfl fun w0=>?_
 refine G.seq ?_
 have hoff:=h.off
 have hval:=h.val
 have hrd:=h.rd
 refine YG ?_
 refine Z4 ?_
 refine Zg 0 [y_0,y_1,y_2,r_3,y_4,y_5,y_6,y_7,r_8,y_9,y_10,y_11,y_12] ?_
 refine Ypa ?_
 refine Ypy (Zf fo_150_1) ?_
 refine Ypr (Zl 0 1 ag_39) ?_
 refine Ypy (ZmulNd s.off 8) ?_
 refine Ypy (Zf fo_150_3) ?_
 refine Ypr (Zl 0 3 ag_5) ?_
 refine Ypy (ZsubNa 64 s.rd) ?_
 refine Ypy (ZcvNd (64-s.rd) un_5 un_39) ?_
 refine Ypy (ZaddNd (s.off*8) (64-s.rd)) ?_
 refine GP.nil (GQ.thenN (G.ret ?_))
 repeat first|refine ZR ?_|refine ZB ?_
 exact ret1 [0] rfl rfl rfl (⟨rfl,rfl⟩)
theorem c_fill_Bytes (bi so:Nat) (shi:Shp) (xs:List Nat) (k len cap:Nat) (hc:len≤cap) (hk:k+len≤xs.length) (hz:xs.length≤1152921504606846976) (b o:Nat) (sh:Shp) (s:BR) (h:s.OK len) (hx:Bytes xs) (hr:s.rd≤64) (h8:32≤s.rd→s.off<4→8*s.off≤s.rd):Con Tryz.prog 93 [Vp b o] [⟨b,o,[Vs bi (so+k) len cap,Vd s.off,Vd s.val,Va s.rd],sh⟩] [⟨bi,so,(nats .u8 xs),shi⟩] (fun v l'=>v=.tuple #[]∧l'=[⟨b,o,brC (Vs bi (so+k) len cap) (BR.fill 4 xs k s),sh⟩]):=by
 refine Zi Tryz.func93 rfl fun w0=>?_
 refine G.seq (G.seq ?_)
 have hoff:=h.off
 have hval:=h.val
 have hrd:=h.rd
 refine YG ?_
 refine Yy (Zf fo_150_3) ?_
 refine Yr (Zl 0 3 ag_5) ?_
 refine Yy (Zlt s.rd 32) ?_
 refine Zn ?_
 refine Zc (fun h1=>?_) (fun h1=>?_)
 have h32:s.rd<32:=Om
 refine G.ret ?_
 repeat first|refine ZR ?_|refine ZB ?_
 exact ret0r [0] rfl rfl (⟨rfl,by simp[BR.fill,brC,h32]⟩)
 have h32:¬s.rd<32:=Om
 refine Z7 (Y6 ?_)
 refine Yy (Zf fo_150_1) ?_
 refine Yr (Zl 0 1 ag_39) ?_
 refine Yy (Zge s.off 4) ?_
 refine Zn ?_
 refine Zc (fun h2=>?_) (fun h2=>?_)
 have h4:4≤s.off:=Om
 have hlt:=le32_lt hx (k+(s.off-4))
 refine G.seq ?_
 refine Zg 512 [y_0,y_1,y_2,r_3,y_4,y_5,y_6,r_7,y_8,e_9,y_10] ?_
 refine Ypa ?_
 refine Ypy (Zf fo_150_0) ?_
 refine Ypr (Zl 0 0 ag_22) ?_
 refine Ypy (Zf fo_150_1) ?_
 refine Ypr (Zl 0 1 ag_39) ?_
 refine Ypy (ZsubNd s.off 4) ?_
 refine Zpcc [] [1] (c_Load32 bi so shi xs Oa k len cap (s.off-4) Om Om Om) rfl ?_
 refine Ypa ?_
 refine GP.nil (GQ.thenN (G.seq ?_))
 refine Zg 32768 [y_0,y_1,y_2,r_3,y_4,y_5,y_6,y_7,y_8,r_9,y_10,y_11,y_12,y_13,y_14,e_15] ?_
 refine Ypa ?_
 refine Ypy (Zf fo_150_2) ?_
 refine Ypr (Zl 0 2 ag_96) ?_
 refine Ypy (ZcvNd (le32 xs (k+(s.off-4))) un_75 un_96) ?_
 refine Ypy (Zf fo_150_3) ?_
 refine Ypr (Zl 0 3 ag_5) ?_
 refine Ypy (ZsubNa s.rd 32) ?_
 refine Ypy (ZshlWd (le32 xs (k+(s.off-4))) (s.rd-32)) ?_
 refine Ypy (ZorNd s.val ((le32 xs (k+(s.off-4)))*2^(s.rd-32)%18446744073709551616)) ?_
 refine Ypy (Zf fo_150_2) ?_
 refine Yps (Zst 0 2 sz_96) ?_
 refine GP.nil (GQ.thenN (Y5 ?_))
 refine Yy (Zf fo_150_3) ?_
 refine Yr (Zl 0 3 ag_5) ?_
 refine Yy (ZsubNa s.rd 32) ?_
 refine Yy (Zf fo_150_3) ?_
 refine Ys (Zst 0 3 sz_5) ?_
 refine Y2 ?_
 refine Yy (Zf fo_150_1) ?_
 refine Yr (Zl 0 1 ag_39) ?_
 refine Yy (ZsubNd s.off 4) ?_
 refine Yy (Zf fo_150_1) ?_
 refine Ys (Zst 0 1 sz_39) ?_
 refine Zn (G.ret ?_)
 repeat first|refine ZR ?_|refine ZB ?_
 exact ret0r [0] rfl rfl (⟨rfl,by simp[BR.fill,BR.load4,brC,h32,h4]⟩)
 have h4:¬4≤s.off:=Om
 have h8:=h8 Om Om
 refine Z7 (G.block ?_)
 refine Zo (fun n ρ l=>∃j:Nat,n=s.off-j∧(j≤s.off)∧ρ=[(0,Vp b o)]∧l=[⟨b,o,[Vs bi (so+k) len cap,Vd ((BR.loads xs k j s).off),Vd ((BR.loads xs k j s).val),Va ((BR.loads xs k j s).rd)],sh⟩]) ⟨0,rfl,Om,rfl,rfl⟩ ?_
 rintro _ _ _ ⟨j,rfl,hj,rfl,rfl⟩
 have ho1:=BR.loads_off (xs:=xs) (k:=k) (s:=s) j
 have hr1:=BR.loads_rd (xs:=xs) (k:=k) (s:=s) j
 have hv1:=(BR.OK.loads (xs:=xs) (k:=k) h j).val
 have hb1:=hx.at_ (k+((BR.loads xs k j s).off-1))
 refine Y6 ?_
 refine Yy (Zf fo_150_1) ?_
 refine Yr (Zl 0 1 ag_39) ?_
 refine Yy (Zgt ((BR.loads xs k j s).off) 0) ?_
 refine Zn ?_
 refine Zc (fun h3=>?_) (fun h3=>?_)
 refine Z7 (G.block (G.seq ?_))
 refine Zg 33554432 [y_0,y_1,y_2,r_3,y_4,y_5,y_6,r_7,y_8,y_9,y_10,r_11,y_12,y_13,r_14,y_15,y_16,y_17,y_18,r_19,y_20,y_21,y_22,y_23,y_24,e_25] ?_
 refine Ypa ?_
 refine Ypy (Zf fo_150_2) ?_
 refine Ypr (Zl 0 2 ag_96) ?_
 refine Ypy (Zf fo_150_0) ?_
 refine Ypr (Zl 0 0 ag_22) ?_
 refine Ypy (Zf fo_150_1) ?_
 refine Ypr (Zl 0 1 ag_39) ?_
 refine Ypy (ZsubNd ((BR.loads xs k j s).off) 1) ?_
 refine Ypy (Zx (so+(k+(((BR.loads xs k j s).off)-1))) (((BR.loads xs k j s).off)-1) se_22) ?_
 refine Ypr (r_ldr 0 (k+(((BR.loads xs k j s).off)-1)) rfl rfl rfl ag_5 (by first|omega|(dsimp only;omega)|rfl) (nats_get Om)) ?_
 refine Ypy (ZcvNd (xs.getD (k+(((BR.loads xs k j s).off)-1)) 0) un_5 un_96) ?_
 refine Ypy (Zf fo_150_3) ?_
 refine Ypr (Zl 0 3 ag_5) ?_
 refine Ypy (ZsubNa ((BR.loads xs k j s).rd) 8) ?_
 refine Ypy (ZshlWd (xs.getD (k+(((BR.loads xs k j s).off)-1)) 0) (((BR.loads xs k j s).rd)-8)) ?_
 refine Ypy (ZorNd ((BR.loads xs k j s).val) ((xs.getD (k+(((BR.loads xs k j s).off)-1)) 0)*2^(((BR.loads xs k j s).rd)-8)%18446744073709551616)) ?_
 refine Ypy (Zf fo_150_2) ?_
 refine Yps (Zst 0 2 sz_96) ?_
 refine GP.nil (GQ.thenN (Y5 ?_))
 refine Yy (Zf fo_150_3) ?_
 refine Yr (Zl 0 3 ag_5) ?_
 refine Yy (ZsubNa ((BR.loads xs k j s).rd) 8) ?_
 refine Yy (Zf fo_150_3) ?_
 refine Ys (Zst 0 3 sz_5) ?_
 refine Y1 ?_
 refine Yy (Zf fo_150_1) ?_
 refine Yr (Zl 0 1 ag_39) ?_
 refine Yy (ZsubNd ((BR.loads xs k j s).off) 1) ?_
 refine Yy (Zf fo_150_1) ?_
 refine Ys (Zst 0 1 sz_39) ?_
 refine GL.nil (GQ.blockN ?_)
 exact Zb ⟨j+1,rfl,Om,rfl,rfl⟩
 refine G.exit (GQ.thenE (GQ.thenE (GQ.blockE ?_)))
 exact ret0 [0] rfl rfl (⟨rfl,by simp[BR.fill,brC,h32,h4,show j=s.off by omega]⟩)
theorem c_close_Bytes (iv:Value) (len:Nat) (b o:Nat) (sh:Shp) (s:BR) (h:s.OK len) (h0:s.off=0) (h64:s.rd=64) (hz:len≤1152921504606846976):Con Tryz.prog 65 [Vp b o] [⟨b,o,[iv,Vd s.off,Vd s.val,Va s.rd],sh⟩] [] (fun v l'=>v=.nilIface∧l'=[⟨b,o,brC (.slice none 0 0) s,sh⟩]):=by
 refine Zi Tryz.func65 rfl fun w0=>?_
 refine G.seq ?_
 have hoff:=h.off
 have hval:=h.val
 have hrd:=h.rd
 have hlf:s.left=0:=by simp[BR.left,h0,h64]
 refine YG ?_
 refine Y2 ?_
 refine Yy (Zf fo_150_0) ?_
 refine Ys (Zst 0 0 sz_22) ?_
 refine Y3 ?_
 refine Zcc [0] [] (c_remaining_Bytes (.slice none 0 0) _ b o sh s Oa Om Om) rfl ?_
 refine Yy (Zgt (BR.left s) 0) ?_
 refine Zn ?_
 refine Zc (fun h1=>?_) (fun h1=>?_)
 exfalso;omega
 refine Z7 (Y6 ?_)
 refine Yy (Zf fo_150_3) ?_
 refine Yr (Zl 0 3 ag_5) ?_
 refine Yy (Zgt s.rd 64) ?_
 refine Zn ?_
 refine Zc (fun h2=>?_) (fun h2=>?_)
 exfalso;omega
 refine Y8 ?_
 refine Zn (G.ret ?_)
 repeat first|refine ZR ?_|refine ZB ?_
 exact ret1 [0] rfl rfl rfl (⟨rfl,rfl⟩)
theorem c_init_Bytes (bi so:Nat) (shi:Shp) (xs:List Nat) (k len cap:Nat) (hc:len≤cap) (hk:k+len≤xs.length) (hz:xs.length≤1152921504606846976) (hx:Bytes xs) (h1:1≤len) (hv:0<xs.getD (k+(len-1)) 0) (b o:Nat) (sh:Shp) (c0 c1 c2 c3:Value):Con Tryz.prog 60 [Vp b o,Vs bi (so+k) len cap] [⟨b,o,[c0,c1,c2,c3],sh⟩] [⟨bi,so,(nats .u8 xs),shi⟩] (fun v l'=>v=.nilIface∧l'=[⟨b,o,brC (Vs bi (so+k) len cap) (BR.init 4 xs k len),sh⟩]):=by
 refine Zi Tryz.func60 rfl fun w0=>?_
 refine G.seq ?_
 have hs0:BR.OK len ⟨len,0,64⟩:=⟨Nat.le_refl _,Oi,Oi⟩
 have hlb:=hx.at_ (k+(len-1))
 have hb8:blen (xs.getD (k+(len-1)) 0)≤8:=blen8 _ hlb
 have hs1:=BR.OK.fill (t:=4) (xs:=xs) (k:=k) hs0
 have hs2:=BR.OK.fill (t:=4) (xs:=xs) (k:=k) hs1
 refine YG ?_
 refine Y3 ?_
 refine Yy (Zlen un_22) ?_
 refine Yy (Zlt len 1) ?_
 refine Zn ?_
 refine Zc (fun h1=>?_) (fun h1=>?_)
 exfalso;omega
 refine Y8 ?_
 refine Yy (Zf fo_150_0) ?_
 refine Ys (Zst 0 0 sz_22) ?_
 refine Y2 ?_
 refine Yy (Zlen un_22) ?_
 refine Yy (ZcvNd len un_3 un_39) ?_
 refine Yy (Zf fo_150_1) ?_
 refine Ys (Zst 0 1 sz_39) ?_
 refine Y2 ?_
 refine Yy (Zlen un_22) ?_
 refine Yy (ZsubNh len 1) ?_
 refine Yy (Zx (so+(k+(len-1))) (len-1) se_22) ?_
 refine Yr (r_ldr 0 (k+(len-1)) rfl rfl rfl ag_5 (by first|omega|(dsimp only;omega)|rfl) (nats_get Om)) ?_
 refine Y3 ?_
 refine Yy (Zeq (xs.getD (k+(len-1)) 0) 0) ?_
 refine Zn ?_
 refine Zc (fun h2=>?_) (fun h2=>?_)
 exfalso;omega
 refine Y8 ?_
 refine Yy (Zf fo_150_3) ?_
 refine Ys (Zst 0 3 sz_5) ?_
 refine Y2 ?_
 refine Yy (Zf fo_150_2) ?_
 refine Ys (Zst 0 2 sz_96) ?_
 refine Y3 ?_
 refine Yy (Zlen un_22) ?_
 refine Yy (Zge len 8) ?_
 refine Zn ?_
 refine Zc (fun hq=>?_) (fun hq=>?_)
 have h8:8≤len:=Om
 have hs8:BR.OK len (⟨(⟨len,0,64⟩:BR).off-8,le64 xs (k+((⟨len,0,64⟩:BR).off-8)),0⟩:BR):=⟨Oi,le64_lt hx _,Oi⟩
 refine YG ?_
 refine Zcc [0] [0] (c_fillFastStart_Bytes bi so shi xs k len cap Om Om Om b o sh (⟨len,0,64⟩:BR) Oa Oa Om) rfl ?_
 refine Y2 ?_
 refine Yy (ZcvNc (xs.getD (k+(len-1)) 0) un_5 un_75) ?_
 refine Zcc [] [] (c_highBit32 (xs.getD (k+(len-1)) 0) Om Om) rfl ?_
 refine Yy (ZcvNa (blen (xs.getD (k+(len-1)) 0)-1) un_75 un_5) ?_
 refine Yy (ZsubNa 8 (blen (xs.getD (k+(len-1)) 0)-1)) ?_
 refine Zcc [0] [] (c_advance_Bytes (Vs bi (so+k) len cap) _ b o sh (⟨(⟨len,0,64⟩:BR).off-8,le64 xs (k+((⟨len,0,64⟩:BR).off-8)),0⟩:BR) Oa (8-(blen (xs.getD (k+(len-1)) 0)-1)) Om) rfl ?_
 refine Y2 ?_
 refine Zn (G.ret ?_)
 repeat first|refine ZR ?_|refine ZB ?_
 exact ret1 [0] rfl rfl rfl (⟨rfl,by simp[BR.init,BR.start,brC,h8]⟩)
 have h8:¬8≤len:=Om
 have e1:(⟨len,0,64⟩:BR).rd=64:=rfl
 have e2:(⟨len,0,64⟩:BR).off=len:=rfl
 have hf1:=BR.fill_rd (t:=4) (xs:=xs) (k:=k) (s:=⟨len,0,64⟩) Oi
 have hf2:=BR.fill_start (t:=4) (xs:=xs) (k:=k) (len:=len) Om Om
 refine Y5 ?_
 refine Zcc [0] [0] (c_fill_Bytes bi so shi xs k len cap Om Om Om b o sh (⟨len,0,64⟩:BR) Oa Oa Om Om) rfl ?_
 refine Y1 ?_
 refine Zcc [0] [0] (c_fill_Bytes bi so shi xs k len cap Om Om Om b o sh (BR.fill 4 xs k (⟨len,0,64⟩:BR)) Oa Oa Om Om) rfl ?_
 refine Y2 ?_
 refine Yy (ZcvNc (xs.getD (k+(len-1)) 0) un_5 un_75) ?_
 refine Zcc [] [] (c_highBit32 (xs.getD (k+(len-1)) 0) Om Om) rfl ?_
 refine Yy (ZcvNa (blen (xs.getD (k+(len-1)) 0)-1) un_75 un_5) ?_
 refine Yy (ZsubNa 8 (blen (xs.getD (k+(len-1)) 0)-1)) ?_
 refine Zcc [0] [] (c_advance_Bytes (Vs bi (so+k) len cap) _ b o sh (BR.fill 4 xs k (BR.fill 4 xs k (⟨len,0,64⟩:BR))) Oa (8-(blen (xs.getD (k+(len-1)) 0)-1)) Om) rfl ?_
 refine Y2 ?_
 refine Zn (G.ret ?_)
 repeat first|refine ZR ?_|refine ZB ?_
 exact ret1 [0] rfl rfl rfl (⟨rfl,by simp[BR.init,BR.start,brC,h8]⟩)
theorem c_f_fillFast (bi so:Nat) (shi:Shp) (xs:List Nat) (k len cap:Nat) (hc:len≤cap) (hk:k+len≤xs.length) (hz:xs.length≤1152921504606846976) (b o:Nat) (sh:Shp) (s:BR) (h:s.OK len) (hx:Bytes xs) (h4:32≤s.rd→4≤s.off) (hr:s.rd≤64):Con Tryz.prog 85 [Vp b o] [⟨b,o,[Vs bi (so+k) len cap,Vd s.off,Vd s.val,Va s.rd],sh⟩] [⟨bi,so,(nats .u8 xs),shi⟩] (fun v l'=>v=.tuple #[]∧l'=[⟨b,o,brC (Vs bi (so+k) len cap) (BR.ffast xs k s),sh⟩]):=by
 refine Zi Tryz.func85 rfl fun w0=>?_
 refine G.seq (G.seq ?_)
 have hoff:=h.off
 have hval:=h.val
 have hrd:=h.rd
 refine YG ?_
 refine Yy (Zf fo_98_3) ?_
 refine Yr (Zl 0 3 ag_5) ?_
 refine Yy (Zlt s.rd 32) ?_
 refine Zn ?_
 refine Zc (fun h1=>?_) (fun h1=>?_)
 have h32:s.rd<32:=Om
 refine G.ret ?_
 repeat first|refine ZR ?_|refine ZB ?_
 exact ret0r [0] rfl rfl (⟨rfl,by simp[BR.ffast,BR.fload4,brC,h32]⟩)
 have h32:¬s.rd<32:=Om
 have h4:=h4 Om
 have hlt:=le32_lt hx (k+(s.off-4))
 have hb0:=hx.at_ (k+(s.off-4))
 have hb1:=hx.at_ (k+(s.off-4)+1)
 have hb2:=hx.at_ (k+(s.off-4)+2)
 have hb3:=hx.at_ (k+(s.off-4)+3)
 refine Z7 (G.seq ?_)
 refine Zg 0 [y_0,y_1,y_2,r_3,y_4,y_5,y_6,r_7,y_8,y_9,y_10] ?_
 refine Ypa ?_
 refine Ypy (Zf fo_98_0) ?_
 refine Ypr (Zl 0 0 ag_22) ?_
 refine Ypy (Zf fo_98_1) ?_
 refine Ypr (Zl 0 1 ag_39) ?_
 refine Ypy (ZsubNd s.off 4) ?_
 refine Ypy (y_slL (q':=so+(k+(s.off-4))) (lo:=s.off-4) rfl rfl rfl se_22 Om Om) ?_
 refine GP.nil (GQ.thenN (Y5 ?_))
 refine Yy (y_slH (hi:=4) rfl rfl rfl se_22 Om) ?_
 refine Z4 ?_
 refine Zg 0 [y_0,y_1,r_2,y_3,y_4,y_5,r_6,y_7,y_8,y_9,y_10,y_11,r_12,y_13,y_14,y_15,y_16,y_17,r_18,y_19,y_20,y_21,y_22] ?_
 refine Ypa ?_
 refine Ypy (Zx (so+(k+(s.off-4))) 0 se_22) ?_
 refine Ypr (Zkc 0 (k+(s.off-4)) ag_5 rfl (nats_get Oy)) ?_
 refine Ypy (ZcvNc (xs.getD (k+(s.off-4)) 0) un_5 un_75) ?_
 refine Ypy (Zx (so+(k+(s.off-4)+1)) 1 se_22) ?_
 refine Ypr (Zkc 0 (k+(s.off-4)+1) ag_5 rfl (nats_get Oy)) ?_
 refine Ypy (ZcvNc (xs.getD (k+(s.off-4)+1) 0) un_5 un_75) ?_
 refine Ypy (ZshlWc (xs.getD (k+(s.off-4)+1) 0) 8) ?_
 refine Ypy (ZorNc (xs.getD (k+(s.off-4)) 0) ((xs.getD (k+(s.off-4)+1) 0)*2^8%4294967296)) ?_
 refine Ypy (Zx (so+(k+(s.off-4)+2)) 2 se_22) ?_
 refine Ypr (Zkc 0 (k+(s.off-4)+2) ag_5 rfl (nats_get Oy)) ?_
 refine Ypy (ZcvNc (xs.getD (k+(s.off-4)+2) 0) un_5 un_75) ?_
 refine Ypy (ZshlWc (xs.getD (k+(s.off-4)+2) 0) 16) ?_
 refine Ypy (orN_u32 (m:=(xs.getD (k+(s.off-4)) 0)|||((xs.getD (k+(s.off-4)+1) 0)*2^8%4294967296)) (n:=(xs.getD (k+(s.off-4)+2) 0)*2^16%4294967296) rfl rfl rfl (or_lt32 Om Om) Om) ?_
 refine Ypy (Zx (so+(k+(s.off-4)+3)) 3 se_22) ?_
 refine Ypr (Zkc 0 (k+(s.off-4)+3) ag_5 rfl (nats_get Oy)) ?_
 refine Ypy (ZcvNc (xs.getD (k+(s.off-4)+3) 0) un_5 un_75) ?_
 refine Ypy (ZshlWc (xs.getD (k+(s.off-4)+3) 0) 24) ?_
 refine Ypy (Zq (le32 xs (k+(s.off-4))) (orN_u32 (m:=((xs.getD (k+(s.off-4)) 0)|||((xs.getD (k+(s.off-4)+1) 0)*2^8%4294967296))|||((xs.getD (k+(s.off-4)+2) 0)*2^16%4294967296)) (n:=(xs.getD (k+(s.off-4)+3) 0)*2^24%4294967296) rfl rfl rfl (or_lt32 (or_lt32 Om Om) Om) Om) (by simp[le32])) ?_
 refine GP.nil (GQ.thenN (Y5 ?_))
 refine Yy (Zf fo_98_2) ?_
 refine Yr (Zl 0 2 ag_96) ?_
 refine Yy (ZshlWd s.val 32) ?_
 refine Yy (ZcvNd (le32 xs (k+(s.off-4))) un_75 un_96) ?_
 refine Yy (ZorNd (s.val*2^32%18446744073709551616) (le32 xs (k+(s.off-4)))) ?_
 refine Yy (Zf fo_98_2) ?_
 refine Ys (Zst 0 2 sz_96) ?_
 refine Y2 ?_
 refine Yy (Zf fo_98_3) ?_
 refine Yr (Zl 0 3 ag_5) ?_
 refine Yy (ZsubNa s.rd 32) ?_
 refine Yy (Zf fo_98_3) ?_
 refine Ys (Zst 0 3 sz_5) ?_
 refine Y1 ?_
 refine Yy (Zf fo_98_1) ?_
 refine Yr (Zl 0 1 ag_39) ?_
 refine Yy (ZsubNd s.off 4) ?_
 refine Yy (Zf fo_98_1) ?_
 refine Ys (Zst 0 1 sz_39) ?_
 refine GL.nil ?_
 exact ret0 [0] rfl rfl (⟨rfl,by simp[BR.ffast,BR.fload4,brC,h32]⟩)
theorem c_f_fillFastStart (bi so:Nat) (shi:Shp) (xs:List Nat) (k len cap:Nat) (hc:len≤cap) (hk:k+len≤xs.length) (hz:xs.length≤1152921504606846976) (b o:Nat) (sh:Shp) (s:BR) (h:s.OK len) (hx:Bytes xs) (h8:8≤s.off):Con Tryz.prog 98 [Vp b o] [⟨b,o,[Vs bi (so+k) len cap,Vd s.off,Vd s.val,Va s.rd],sh⟩] [⟨bi,so,(nats .u8 xs),shi⟩] (fun v l'=>v=.tuple #[]∧l'=[⟨b,o,brC (Vs bi (so+k) len cap) (⟨s.off-8,le64 xs (k+(s.off-8)),0⟩:BR),sh⟩]):=by
 refine Zi Tryz.func98 rfl fun w0=>?_
 refine G.seq ?_
 have hoff:=h.off
 have hval:=h.val
 have hrd:=h.rd
 refine Zg 36864 [y_0,r_1,y_2,y_3,y_4,r_5,y_6,y_7,y_8,r_9,y_10,y_11,e_12,y_13,y_14,e_15] ?_
 refine Ypa ?_
 refine Ypr (OpY.toR (y_ld0 rfl rfl ag_180 sz_180)) ?_
 refine Ypy (Zf fo_98_0) ?_
 refine Ypr (Zl 0 0 ag_22) ?_
 refine Ypy (Zf fo_98_1) ?_
 refine Ypr (Zl 0 1 ag_39) ?_
 refine Ypy (ZsubNd s.off 8) ?_
 refine Ypy (y_slL (q':=so+(k+(s.off-8))) (lo:=s.off-8) rfl rfl rfl se_22 Om Om) ?_
 refine Zpcc [] [1] (c_Uint64 bi so shi xs Oa (k+(s.off-8)) (len-(s.off-8)) (cap-(s.off-8)) Om Om) rfl ?_
 refine Ypa ?_
 refine Ypy (Zf fo_98_2) ?_
 refine Yps (Zst 0 2 sz_96) ?_
 refine GP.nil (GQ.thenN (Y5 ?_))
 refine Yy (Zf fo_98_3) ?_
 refine Ys (Zst 0 3 sz_5) ?_
 refine Y1 ?_
 refine Yy (Zf fo_98_1) ?_
 refine Yr (Zl 0 1 ag_39) ?_
 refine Yy (ZsubNd s.off 8) ?_
 refine Yy (Zf fo_98_1) ?_
 refine Ys (Zst 0 1 sz_39) ?_
 refine GL.nil ?_
 exact ret0 [0] rfl rfl (⟨rfl,rfl⟩)
theorem c_f_fill (bi so:Nat) (shi:Shp) (xs:List Nat) (k len cap:Nat) (hc:len≤cap) (hk:k+len≤xs.length) (hz:xs.length≤1152921504606846976) (b o:Nat) (sh:Shp) (s:BR) (h:s.OK len) (hx:Bytes xs) (hr:s.rd≤64) (h8:32≤s.rd→s.off<5→8*s.off≤s.rd):Con Tryz.prog 90 [Vp b o] [⟨b,o,[Vs bi (so+k) len cap,Vd s.off,Vd s.val,Va s.rd],sh⟩] [⟨bi,so,(nats .u8 xs),shi⟩] (fun v l'=>v=.tuple #[]∧l'=[⟨b,o,brC (Vs bi (so+k) len cap) (BR.ffill xs k s),sh⟩]):=by
 refine Zi Tryz.func90 rfl fun w0=>?_
 refine G.seq (G.seq ?_)
 have hoff:=h.off
 have hval:=h.val
 have hrd:=h.rd
 refine YG ?_
 refine Yy (Zf fo_98_3) ?_
 refine Yr (Zl 0 3 ag_5) ?_
 refine Yy (Zlt s.rd 32) ?_
 refine Zn ?_
 refine Zc (fun h1=>?_) (fun h1=>?_)
 have h32:s.rd<32:=Om
 refine G.ret ?_
 repeat first|refine ZR ?_|refine ZB ?_
 exact ret0r [0] rfl rfl (⟨rfl,by simp[BR.ffill,brC,h32]⟩)
 have h32:¬s.rd<32:=Om
 refine Z7 (Y6 ?_)
 refine Yy (Zf fo_98_1) ?_
 refine Yr (Zl 0 1 ag_39) ?_
 refine Yy (Zgt s.off 4) ?_
 refine Zn ?_
 refine Zc (fun h2=>?_) (fun h2=>?_)
 have h4:4<s.off:=Om
 have hlt:=le32_lt hx (k+(s.off-4))
 have hb0:=hx.at_ (k+(s.off-4))
 have hb1:=hx.at_ (k+(s.off-4)+1)
 have hb2:=hx.at_ (k+(s.off-4)+2)
 have hb3:=hx.at_ (k+(s.off-4)+3)
 refine G.seq ?_
 refine Zg 0 [y_0,y_1,y_2,r_3,y_4,y_5,y_6,r_7,y_8,y_9,y_10] ?_
 refine Ypa ?_
 refine Ypy (Zf fo_98_0) ?_
 refine Ypr (Zl 0 0 ag_22) ?_
 refine Ypy (Zf fo_98_1) ?_
 refine Ypr (Zl 0 1 ag_39) ?_
 refine Ypy (ZsubNd s.off 4) ?_
 refine Ypy (y_slL (q':=so+(k+(s.off-4))) (lo:=s.off-4) rfl rfl rfl se_22 Om Om) ?_
 refine GP.nil (GQ.thenN (Y5 ?_))
 refine Yy (y_slH (hi:=4) rfl rfl rfl se_22 Om) ?_
 refine Z4 ?_
 refine Zg 0 [y_0,y_1,r_2,y_3,y_4,y_5,r_6,y_7,y_8,y_9,y_10,y_11,r_12,y_13,y_14,y_15,y_16,y_17,r_18,y_19,y_20,y_21,y_22] ?_
 refine Ypa ?_
 refine Ypy (Zx (so+(k+(s.off-4))) 0 se_22) ?_
 refine Ypr (Zkc 0 (k+(s.off-4)) ag_5 rfl (nats_get Oy)) ?_
 refine Ypy (ZcvNc (xs.getD (k+(s.off-4)) 0) un_5 un_75) ?_
 refine Ypy (Zx (so+(k+(s.off-4)+1)) 1 se_22) ?_
 refine Ypr (Zkc 0 (k+(s.off-4)+1) ag_5 rfl (nats_get Oy)) ?_
 refine Ypy (ZcvNc (xs.getD (k+(s.off-4)+1) 0) un_5 un_75) ?_
 refine Ypy (ZshlWc (xs.getD (k+(s.off-4)+1) 0) 8) ?_
 refine Ypy (ZorNc (xs.getD (k+(s.off-4)) 0) ((xs.getD (k+(s.off-4)+1) 0)*2^8%4294967296)) ?_
 refine Ypy (Zx (so+(k+(s.off-4)+2)) 2 se_22) ?_
 refine Ypr (Zkc 0 (k+(s.off-4)+2) ag_5 rfl (nats_get Oy)) ?_
 refine Ypy (ZcvNc (xs.getD (k+(s.off-4)+2) 0) un_5 un_75) ?_
 refine Ypy (ZshlWc (xs.getD (k+(s.off-4)+2) 0) 16) ?_
 refine Ypy (orN_u32 (m:=(xs.getD (k+(s.off-4)) 0)|||((xs.getD (k+(s.off-4)+1) 0)*2^8%4294967296)) (n:=(xs.getD (k+(s.off-4)+2) 0)*2^16%4294967296) rfl rfl rfl (or_lt32 Om Om) Om) ?_
 refine Ypy (Zx (so+(k+(s.off-4)+3)) 3 se_22) ?_
 refine Ypr (Zkc 0 (k+(s.off-4)+3) ag_5 rfl (nats_get Oy)) ?_
 refine Ypy (ZcvNc (xs.getD (k+(s.off-4)+3) 0) un_5 un_75) ?_
 refine Ypy (ZshlWc (xs.getD (k+(s.off-4)+3) 0) 24) ?_
 refine Ypy (Zq (le32 xs (k+(s.off-4))) (orN_u32 (m:=((xs.getD (k+(s.off-4)) 0)|||((xs.getD (k+(s.off-4)+1) 0)*2^8%4294967296))|||((xs.getD (k+(s.off-4)+2) 0)*2^16%4294967296)) (n:=(xs.getD (k+(s.off-4)+3) 0)*2^24%4294967296) rfl rfl rfl (or_lt32 (or_lt32 Om Om) Om) Om) (by simp[le32])) ?_
 refine GP.nil (GQ.thenN (Y5 ?_))
 refine Yy (Zf fo_98_2) ?_
 refine Yr (Zl 0 2 ag_96) ?_
 refine Yy (ZshlWd s.val 32) ?_
 refine Yy (ZcvNd (le32 xs (k+(s.off-4))) un_75 un_96) ?_
 refine Yy (ZorNd (s.val*2^32%18446744073709551616) (le32 xs (k+(s.off-4)))) ?_
 refine Yy (Zf fo_98_2) ?_
 refine Ys (Zst 0 2 sz_96) ?_
 refine Y2 ?_
 refine Yy (Zf fo_98_3) ?_
 refine Yr (Zl 0 3 ag_5) ?_
 refine Yy (ZsubNa s.rd 32) ?_
 refine Yy (Zf fo_98_3) ?_
 refine Ys (Zst 0 3 sz_5) ?_
 refine Y2 ?_
 refine Yy (Zf fo_98_1) ?_
 refine Yr (Zl 0 1 ag_39) ?_
 refine Yy (ZsubNd s.off 4) ?_
 refine Yy (Zf fo_98_1) ?_
 refine Ys (Zst 0 1 sz_39) ?_
 refine Zn (G.ret ?_)
 repeat first|refine ZR ?_|refine ZB ?_
 exact ret0r [0] rfl rfl (⟨rfl,by simp[BR.ffill,BR.fload4,brC,h32,h4]⟩)
 have h4:¬4<s.off:=Om
 have h8:=h8 Om Om
 refine Z7 (G.block ?_)
 refine Zo (fun mz ρ l=>∃j:Nat,mz=s.off-j∧(j≤s.off)∧((BR.floads xs k j s).val<18446744073709551616)∧ρ=[(0,Vp b o)]∧l=[⟨b,o,[Vs bi (so+k) len cap,Vd ((BR.floads xs k j s).off),Vd ((BR.floads xs k j s).val),Va ((BR.floads xs k j s).rd)],sh⟩]) ⟨0,rfl,Om,hval,rfl,rfl⟩ ?_
 rintro _ _ _ ⟨j,rfl,hj,hv1,rfl,rfl⟩
 have ho1:=BR.floads_off (xs:=xs) (k:=k) (s:=s) j
 have hr1:=BR.floads_rd (xs:=xs) (k:=k) (s:=s) j
 have hb1:=hx.at_ (k+((BR.floads xs k j s).off-1))
 refine Y6 ?_
 refine Yy (Zf fo_98_1) ?_
 refine Yr (Zl 0 1 ag_39) ?_
 refine Yy (Zgt ((BR.floads xs k j s).off) 0) ?_
 refine Zn ?_
 refine Zc (fun h3=>?_) (fun h3=>?_)
 refine Z7 (G.block (G.seq ?_))
 refine Zg 2097152 [y_0,y_1,y_2,y_3,r_4,y_5,y_6,y_7,y_8,r_9,y_10,y_11,y_12,r_13,y_14,y_15,r_16,y_17,y_18,y_19,y_20,e_21] ?_
 refine Ypa ?_
 refine Ypy (Zf fo_98_2) ?_
 refine Ypr (Zl 0 2 ag_96) ?_
 refine Ypy (ZshlWd ((BR.floads xs k j s).val) 8) ?_
 refine Ypy (Zf fo_98_0) ?_
 refine Ypr (Zl 0 0 ag_22) ?_
 refine Ypy (Zf fo_98_1) ?_
 refine Ypr (Zl 0 1 ag_39) ?_
 refine Ypy (ZsubNd ((BR.floads xs k j s).off) 1) ?_
 refine Ypy (Zx (so+(k+(((BR.floads xs k j s).off)-1))) (((BR.floads xs k j s).off)-1) se_22) ?_
 refine Ypr (Zkc 0 (k+(((BR.floads xs k j s).off)-1)) ag_5 rfl (nats_get Oy)) ?_
 refine Ypy (ZcvNd (xs.getD (k+(((BR.floads xs k j s).off)-1)) 0) un_5 un_96) ?_
 refine Ypy (ZorNd (((BR.floads xs k j s).val)*2^8%18446744073709551616) (xs.getD (k+(((BR.floads xs k j s).off)-1)) 0)) ?_
 refine Ypy (Zf fo_98_2) ?_
 refine Yps (Zst 0 2 sz_96) ?_
 refine GP.nil (GQ.thenN (Y5 ?_))
 refine Yy (Zf fo_98_3) ?_
 refine Yr (Zl 0 3 ag_5) ?_
 refine Yy (ZsubNa ((BR.floads xs k j s).rd) 8) ?_
 refine Yy (Zf fo_98_3) ?_
 refine Ys (Zst 0 3 sz_5) ?_
 refine Y1 ?_
 refine Yy (Zf fo_98_1) ?_
 refine Yr (Zl 0 1 ag_39) ?_
 refine Yy (ZsubNd ((BR.floads xs k j s).off) 1) ?_
 refine Yy (Zf fo_98_1) ?_
 refine Ys (Zst 0 1 sz_39) ?_
 refine GL.nil (GQ.blockN ?_)
 exact Zb ⟨j+1,rfl,Om,or_lt64 (Nat.mod_lt _ Od) Om,rfl,rfl⟩ (hs:=rfl)
 refine G.exit (GQ.thenE (GQ.thenE (GQ.blockE ?_)))
 exact ret0 [0] rfl rfl (⟨rfl,by simp[BR.ffill,brC,h32,h4,show j=s.off by omega]⟩)
theorem c_f_getBitsFast (iv:Value) (len:Nat) (b o:Nat) (sh:Shp) (s:BR) (h:s.OK len) (n:Nat) (hn:n≤64) (hr:s.rd≤64):Con Tryz.prog 100 [Vp b o,Va n] [⟨b,o,[iv,Vd s.off,Vd s.val,Va s.rd],sh⟩] [] (fun v l'=>v=Vb (s.fbits n)∧l'=[⟨b,o,brC (iv) (s.fskip n),sh⟩]):=by
 refine Zi Tryz.func100 rfl fun w0=>?_
 refine Y5 ?_
 refine Z4 ?_
 have hoff:=h.off
 have hval:=h.val
 have hrd:=h.rd
 refine Zg 0 [y_0,y_1,y_2,r_3,y_4,y_5,y_6,r_7,y_8,y_9,y_10,y_11,y_12,y_13,y_14,y_15] ?_
 refine Ypa ?_
 refine Ypy (Zf fo_98_2) ?_
 refine Ypr (Zl 0 2 ag_96) ?_
 refine Ypy (Zf fo_98_3) ?_
 refine Ypr (Zl 0 3 ag_5) ?_
 refine Ypy (ZandNa s.rd 63) ?_
 refine Ypy (ZshlWd s.val (s.rd&&&63)) ?_
 refine Ypy (ZsubNa 64 n) ?_
 refine Ypy (ZandNa (64-n) 63) ?_
 refine Ypy (ZshrNd (s.val*2^(s.rd&&&63)%18446744073709551616) ((64-n)&&&63)) ?_
 refine Ypy (ZcvWb ((s.val*2^(s.rd&&&63)%18446744073709551616)/2^((64-n)&&&63)) un_96 un_78) ?_
 refine GP.nil (GQ.thenN (Y5 ?_))
 refine Yy (Zf fo_98_3) ?_
 refine Yr (Zl 0 3 ag_5) ?_
 refine Yy (ZaddWa s.rd n) ?_
 refine Yy (Zf fo_98_3) ?_
 refine Ys (Zst 0 3 sz_5) ?_
 refine Y2 ?_
 refine Zn (G.ret ?_)
 repeat first|refine ZR ?_|refine ZB ?_
 exact ret1 [0] rfl rfl rfl (⟨rfl,rfl⟩)
theorem c_f_getBits (iv:Value) (len:Nat) (b o:Nat) (sh:Shp) (s:BR) (h:s.OK len) (n:Nat) (h1:1≤n∧n≤64) (hr:s.rd<64):Con Tryz.prog 99 [Vp b o,Va n] [⟨b,o,[iv,Vd s.off,Vd s.val,Va s.rd],sh⟩] [] (fun v l'=>v=Vb (s.fbits n)∧l'=[⟨b,o,brC (iv) (s.fskip n),sh⟩]):=by
 refine Zi Tryz.func99 rfl fun w0=>?_
 refine Y5 ?_
 refine Z4 (G.seq ?_)
 have hoff:=h.off
 have hval:=h.val
 have hrd:=h.rd
 refine YG ?_
 refine Zy (Zeq n 0) ?_
 refine Za 1 ?_
 refine GL.knowF (t:=7) (p:=((n:Nat):Int)=((0:Nat):Int)) rfl Om ?_
 refine Ya ?_
 refine Yy (Zf fo_98_3) ?_
 refine Yr (Zl 0 3 ag_5) ?_
 refine Yy (Zge s.rd 64) ?_
 refine Zn ?_
 refine Zc (fun h1=>?_) (fun h1=>?_)
 exfalso;omega
 refine Y8 ?_
 refine Zcc [0] [] (c_f_getBitsFast (iv) _ b o sh s Oa n Om Om) rfl ?_
 refine Ya ?_
 refine Zn (G.ret ?_)
 repeat first|refine ZR ?_|refine ZB ?_
 exact ret1 [0] rfl rfl rfl (⟨rfl,rfl⟩)
theorem c_f_finished (iv:Value) (len:Nat) (b o:Nat) (sh:Shp) (s:BR) (h:s.OK len):Con Tryz.prog 101 [Vp b o] [⟨b,o,[iv,Vd s.off,Vd s.val,Va s.rd],sh⟩] [] (fun v l'=>v=.bool (decide (64≤s.rd∧s.off=0))∧l'=[⟨b,o,brC (iv) s,sh⟩]):=by
 refine Zi Tryz.func101 rfl fun w0=>?_
 refine Y5 ?_
 refine Z4 ?_
 have hoff:=h.off
 have hval:=h.val
 have hrd:=h.rd
 refine YG ?_
 refine Yy (Zf fo_98_3) ?_
 refine Yr (Zl 0 3 ag_5) ?_
 refine Zy (Zge s.rd 64) ?_
 refine Za 1 ?_
 refine GL.split (t:=8) (p:=((64:Nat):Int)≤((s.rd:Nat):Int)) rfl (fun h1=>?_) (fun h1=>?_)
 refine Ya ?_
 refine Yy (Zf fo_98_1) ?_
 refine Yr (Zl 0 1 ag_39) ?_
 refine Yy (Zeq s.off 0) ?_
 refine Zn (G.ret ?_)
 repeat first|refine ZR ?_|refine ZB ?_
 exact ret1 [0] rfl rfl rfl (⟨congrArg Value.bool (decide_eq_decide.2 Om),rfl⟩)
 refine Ya ?_
 refine Zn (G.ret ?_)
 repeat first|refine ZR ?_|refine ZB ?_
 exact ret1 [0] rfl rfl rfl (⟨congrArg Value.bool ((decide_eq_false Om).symm),rfl⟩)
theorem c_f_close (iv:Value) (len:Nat) (b o:Nat) (sh:Shp) (s:BR) (h:s.OK len) (hr:s.rd≤64):Con Tryz.prog 91 [Vp b o] [⟨b,o,[iv,Vd s.off,Vd s.val,Va s.rd],sh⟩] [] (fun v l'=>v=.nilIface∧l'=[⟨b,o,brC (.slice none 0 0) s,sh⟩]):=by
 refine Zi Tryz.func91 rfl fun w0=>?_
 refine G.seq ?_
 have hoff:=h.off
 have hval:=h.val
 have hrd:=h.rd
 refine YG ?_
 refine Y2 ?_
 refine Yy (Zf fo_98_0) ?_
 refine Ys (Zst 0 0 sz_22) ?_
 refine Y3 ?_
 refine Yy (Zf fo_98_3) ?_
 refine Yr (Zl 0 3 ag_5) ?_
 refine Yy (Zgt s.rd 64) ?_
 refine Zn ?_
 refine Zc (fun h1=>?_) (fun h1=>?_)
 exfalso;omega
 refine Y8 ?_
 refine Zn (G.ret ?_)
 repeat first|refine ZR ?_|refine ZB ?_
 exact ret1 [0] rfl rfl rfl (⟨rfl,rfl⟩)
theorem c_f_init (bi so:Nat) (shi:Shp) (xs:List Nat) (k len cap:Nat) (hc:len≤cap) (hk:k+len≤xs.length) (hz:xs.length≤1152921504606846976) (hx:Bytes xs) (h1:1≤len) (hv:0<xs.getD (k+(len-1)) 0) (b o:Nat) (sh:Shp) (c0 c1 c2 c3:Value):Con Tryz.prog 82 [Vp b o,Vs bi (so+k) len cap] [⟨b,o,[c0,c1,c2,c3],sh⟩] [⟨bi,so,(nats .u8 xs),shi⟩] (fun v l'=>v=.nilIface∧l'=[⟨b,o,brC (Vs bi (so+k) len cap) (BR.finit xs k len),sh⟩]):=by
 refine Zi Tryz.func82 rfl fun w0=>?_
 refine G.seq ?_
 have hs0:BR.OK len ⟨len,0,64⟩:=⟨Nat.le_refl _,Oi,Oi⟩
 have hlb:=hx.at_ (k+(len-1))
 have hb8:blen (xs.getD (k+(len-1)) 0)≤8:=blen8 _ hlb
 have hP0:PosF xs k len ⟨len,0,64⟩ (8*len) (tailV xs k len):=⟨hs0,Oi,Oi,Oi⟩
 refine YG ?_
 refine Y3 ?_
 refine Yy (Zlen un_22) ?_
 refine Yy (Zlt len 1) ?_
 refine Zn ?_
 refine Zc (fun h1=>?_) (fun h1=>?_)
 exfalso;omega
 refine Y8 ?_
 refine Yy (Zf fo_98_0) ?_
 refine Ys (Zst 0 0 sz_22) ?_
 refine Y2 ?_
 refine Yy (Zlen un_22) ?_
 refine Yy (ZcvNd len un_3 un_39) ?_
 refine Yy (Zf fo_98_1) ?_
 refine Ys (Zst 0 1 sz_39) ?_
 refine Y2 ?_
 refine Yy (Zlen un_22) ?_
 refine Yy (ZsubNh len 1) ?_
 refine Yy (Zx (so+(k+(len-1))) (len-1) se_22) ?_
 refine Yr (Zkc 0 (k+(len-1)) ag_5 rfl (nats_get Oy)) ?_
 refine Y3 ?_
 refine Yy (Zeq (xs.getD (k+(len-1)) 0) 0) ?_
 refine Zn ?_
 refine Zc (fun h2=>?_) (fun h2=>?_)
 exfalso;omega
 refine Y8 ?_
 refine Yy (Zf fo_98_3) ?_
 refine Ys (Zst 0 3 sz_5) ?_
 refine Y2 ?_
 refine Yy (Zf fo_98_2) ?_
 refine Ys (Zst 0 2 sz_96) ?_
 refine Y3 ?_
 refine Yy (Zlen un_22) ?_
 refine Yy (Zge len 8) ?_
 refine Zn ?_
 refine Zc (fun hq=>?_) (fun hq=>?_)
 have h8:8≤len:=Om
 have hs8:BR.OK len (⟨(⟨len,0,64⟩:BR).off-8,le64 xs (k+((⟨len,0,64⟩:BR).off-8)),0⟩:BR):=⟨Oi,le64_lt hx _,Oi⟩
 refine YG ?_
 refine Zcc [0] [0] (c_f_fillFastStart bi so shi xs k len cap Om Om Om b o sh (⟨len,0,64⟩:BR) Oa Oa Om) rfl ?_
 refine Z4 ?_
 refine Zh 4168 (YS 0 (YS 1 (YS 2 (YS 4 (YS 5 (YE 3 (YE 6 (YS 7 (YS 8 (YS 9 (YS 10 (YS 11 (YF 12 .nil)))))) .stop) (YE 6 (YS 7 (YS 8 (YF 3 (YS 9 (YS 10 (YS 11 (YF 12 .nil))))))) .stop))))))) ?_
 refine Yta ?_
 refine Yty (Zf fo_98_3) ?_
 refine Yty (ZcvNc (xs.getD (k+(len-1)) 0) un_5 un_75) ?_
 refine Ytx (Zl 0 3 ag_5) ?_ ?_
 refine Ztcc [] [] (c_highBits (xs.getD (k+(len-1)) 0) Om Om) rfl ?_ GT.stop
 refine Yty (ZcvNa (blen (xs.getD (k+(len-1)) 0)-1) un_75 un_5) ?_
 refine Yty (ZsubNa 8 (blen (xs.getD (k+(len-1)) 0)-1)) ?_
 refine Yty (ZaddWa ((⟨(⟨len,0,64⟩:BR).off-8,le64 xs (k+((⟨len,0,64⟩:BR).off-8)),0⟩:BR).rd) (8-(blen (xs.getD (k+(len-1)) 0)-1))) ?_
 refine Yty (Zf fo_98_3) ?_
 refine Ytt (Zst 0 3 sz_5) ?_
 refine GT.nil (GQ.thenN (Y5 ?_))
 refine Zn (G.ret ?_)
 repeat first|refine ZR ?_|refine ZB ?_
 exact ret1 [0] rfl rfl rfl (⟨rfl,by simp[BR.finit,BR.fstart,brC,h8]⟩)
 refine Ztcc [] [] (c_highBits (xs.getD (k+(len-1)) 0) Om Om) rfl ?_ GT.stop
 refine Yty (ZcvNa (blen (xs.getD (k+(len-1)) 0)-1) un_75 un_5) ?_
 refine Yty (ZsubNa 8 (blen (xs.getD (k+(len-1)) 0)-1)) ?_
 refine Ytu (Zl 0 3 ag_5) ?_
 refine Yty (ZaddWa ((⟨(⟨len,0,64⟩:BR).off-8,le64 xs (k+((⟨len,0,64⟩:BR).off-8)),0⟩:BR).rd) (8-(blen (xs.getD (k+(len-1)) 0)-1))) ?_
 refine Yty (Zf fo_98_3) ?_
 refine Ytt (Zst 0 3 sz_5) ?_
 refine GT.nil (GQ.thenN (Y5 ?_))
 refine Zn (G.ret ?_)
 repeat first|refine ZR ?_|refine ZB ?_
 exact ret1 [0] rfl rfl rfl (⟨rfl,by simp[BR.finit,BR.fstart,brC,h8]⟩)
 have h8:¬8≤len:=Om
 have e1:(⟨len,0,64⟩:BR).rd=64:=rfl
 have e2:(⟨len,0,64⟩:BR).off=len:=rfl
 obtain⟨hP1,hQ1,hR1⟩:=hP0.ffill hx (fun _ _=>Oz)
 have hf2:=BR.ffill_start (xs:=xs) (k:=k) (len:=len) Om
 have hs1:=hP1.ok
 have hrd1:=hP1.rd
 obtain⟨hP2,hQ2,hR2⟩:=hP1.ffill hx (fun _ _=>hf2)
 have hs2:=hP2.ok
 have hrd2:=hP2.rd
 refine Y5 ?_
 refine Zcc [0] [0] (c_f_fill bi so shi xs k len cap Om Om Om b o sh (⟨len,0,64⟩:BR) Oa Oa Om Om) rfl ?_
 refine Y1 ?_
 refine Zcc [0] [0] (c_f_fill bi so shi xs k len cap Om Om Om b o sh (BR.ffill xs k (⟨len,0,64⟩:BR)) Oa Oa Om Om) rfl ?_
 refine Z4 ?_
 refine Zh 4168 (YS 0 (YS 1 (YS 2 (YS 4 (YS 5 (YE 3 (YE 6 (YS 7 (YS 8 (YS 9 (YS 10 (YS 11 (YF 12 .nil)))))) .stop) (YE 6 (YS 7 (YS 8 (YF 3 (YS 9 (YS 10 (YS 11 (YF 12 .nil))))))) .stop))))))) ?_
 refine Yta ?_
 refine Yty (Zf fo_98_3) ?_
 refine Yty (ZcvNc (xs.getD (k+(len-1)) 0) un_5 un_75) ?_
 refine Ytx (Zl 0 3 ag_5) ?_ ?_
 refine Ztcc [] [] (c_highBits (xs.getD (k+(len-1)) 0) Om Om) rfl ?_ GT.stop
 refine Yty (ZcvNa (blen (xs.getD (k+(len-1)) 0)-1) un_75 un_5) ?_
 refine Yty (ZsubNa 8 (blen (xs.getD (k+(len-1)) 0)-1)) ?_
 refine Yty (ZaddWa ((BR.ffill xs k (BR.ffill xs k (⟨len,0,64⟩:BR))).rd) (8-(blen (xs.getD (k+(len-1)) 0)-1))) ?_
 refine Yty (Zf fo_98_3) ?_
 refine Ytt (Zst 0 3 sz_5) ?_
 refine GT.nil (GQ.thenN (Y5 ?_))
 refine Zn (G.ret ?_)
 repeat first|refine ZR ?_|refine ZB ?_
 exact ret1 [0] rfl rfl rfl (⟨rfl,by simp[BR.finit,BR.fstart,brC,h8]⟩)
 refine Ztcc [] [] (c_highBits (xs.getD (k+(len-1)) 0) Om Om) rfl ?_ GT.stop
 refine Yty (ZcvNa (blen (xs.getD (k+(len-1)) 0)-1) un_75 un_5) ?_
 refine Yty (ZsubNa 8 (blen (xs.getD (k+(len-1)) 0)-1)) ?_
 refine Ytu (Zl 0 3 ag_5) ?_
 refine Yty (ZaddWa ((BR.ffill xs k (BR.ffill xs k (⟨len,0,64⟩:BR))).rd) (8-(blen (xs.getD (k+(len-1)) 0)-1))) ?_
 refine Yty (Zf fo_98_3) ?_
 refine Ytt (Zst 0 3 sz_5) ?_
 refine GT.nil (GQ.thenN (Y5 ?_))
 refine Zn (G.ret ?_)
 repeat first|refine ZR ?_|refine ZB ?_
 exact ret1 [0] rfl rfl rfl (⟨rfl,by simp[BR.finit,BR.fstart,brC,h8]⟩)
theorem c_b_remain (bi so:Nat) (shi:Shp) (xs:List Nat) (k len cap:Nat) (hc:len≤cap) (hk:k+len≤xs.length) (hz:xs.length≤1152921504606846976) (p:Nat) (hp:p≤len):Con Tryz.prog 76 [.agg #[Vs bi (so+k) len cap,Vh p]] [] [⟨bi,so,(nats .u8 xs),shi⟩] (fun v l'=>v=Vh (len-p)∧l'=[]):=by
 refine Zi Tryz.func76 rfl fun w0=>?_
 refine Y5 ?_
 refine Ze (e_box rfl rfl rfl rfl rfl) fun b1=>?_
 refine Ya ?_
 refine Y2 ?_
 refine Yy (Zf fo_95_0) ?_
 refine Yr (Zl 0 0 ag_22) ?_
 refine Yy (Zlen un_22) ?_
 refine Yy (Zf fo_95_1) ?_
 refine Yr (Zl 0 1 ag_3) ?_
 refine Yy (ZsubNh len p) ?_
 refine Zn (G.ret ?_)
 repeat first|refine ZR ?_|refine ZB ?_
 exact ret1 [] rfl rfl rfl (⟨rfl,rfl⟩)
theorem c_b_Uint32 (bi so:Nat) (shi:Shp) (xs:List Nat) (k len cap:Nat) (hc:len≤cap) (hk:k+len≤xs.length) (hz:xs.length≤1152921504606846976) (p:Nat) (hx:Bytes xs) (hp:p+4≤len):Con Tryz.prog 77 [.agg #[Vs bi (so+k) len cap,Vh p]] [] [⟨bi,so,(nats .u8 xs),shi⟩] (fun v l'=>v=Vc (le32 xs (k+p))∧l'=[]):=by
 refine Zi Tryz.func77 rfl fun w0=>?_
 refine Y5 ?_
 refine Ze (e_box rfl rfl rfl rfl rfl) fun b1=>?_
 refine Ya ?_
 refine Z4 ?_
 have hb0:=hx.at_ (k+p)
 have hb1:=hx.at_ (k+p+1)
 have hb2:=hx.at_ (k+p+2)
 have hb3:=hx.at_ (k+p+3)
 refine YG ?_
 refine Yy (Zf fo_95_0) ?_
 refine Yr (Zl 0 0 ag_22) ?_
 refine Yy (Zf fo_95_1) ?_
 refine Yr (Zl 0 1 ag_3) ?_
 refine Yy (y_slL (q':=so+(k+p)) (lo:=p) rfl rfl rfl se_22 Om Om) ?_
 refine Y2 ?_
 refine Yy (y_slH (hi:=4) rfl rfl rfl se_22 Om) ?_
 refine Y2 ?_
 refine Yy (Zx (so+(k+p+3)) 3 se_22) ?_
 refine Yr (Zkc 0 (k+p+3) ag_5 rfl (nats_get Oy)) ?_
 refine Yy (ZcvNc (xs.getD (k+p+3) 0) un_5 un_75) ?_
 refine Y2 ?_
 refine Yy (Zx (so+(k+p+2)) 2 se_22) ?_
 refine Yr (Zkc 0 (k+p+2) ag_5 rfl (nats_get Oy)) ?_
 refine Yy (ZcvNc (xs.getD (k+p+2) 0) un_5 un_75) ?_
 refine Y2 ?_
 refine Yy (Zx (so+(k+p+1)) 1 se_22) ?_
 refine Yr (Zkc 0 (k+p+1) ag_5 rfl (nats_get Oy)) ?_
 refine Yy (ZcvNc (xs.getD (k+p+1) 0) un_5 un_75) ?_
 refine Y2 ?_
 refine Yy (Zx (so+(k+p)) 0 se_22) ?_
 refine Yr (Zkc 0 (k+p) ag_5 rfl (nats_get Oy)) ?_
 refine Yy (ZcvNc (xs.getD (k+p) 0) un_5 un_75) ?_
 refine Y2 ?_
 refine Yy (ZshlWc (xs.getD (k+p+1) 0) 8) ?_
 refine Yy (ZorNc (xs.getD (k+p) 0) ((xs.getD (k+p+1) 0)*2^8%4294967296)) ?_
 refine Yy (ZshlWc (xs.getD (k+p+2) 0) 16) ?_
 refine Yy (orN_u32 (m:=(xs.getD (k+p) 0)|||((xs.getD (k+p+1) 0)*2^8%4294967296)) (n:=(xs.getD (k+p+2) 0)*2^16%4294967296) rfl rfl rfl (or_lt32 Om Om) Om) ?_
 refine Yy (ZshlWc (xs.getD (k+p+3) 0) 24) ?_
 refine Yy (Zq (le32 xs (k+p)) (orN_u32 (m:=((xs.getD (k+p) 0)|||((xs.getD (k+p+1) 0)*2^8%4294967296))|||((xs.getD (k+p+2) 0)*2^16%4294967296)) (n:=(xs.getD (k+p+3) 0)*2^24%4294967296) rfl rfl rfl (or_lt32 (or_lt32 Om Om) Om) Om) (by simp[le32])) ?_
 refine Zn (G.ret ?_)
 repeat first|refine ZR ?_|refine ZB ?_
 exact ret1 [] rfl rfl rfl (⟨rfl,rfl⟩)
theorem c_b_unread (bi so:Nat) (shi:Shp) (xs:List Nat) (k len cap:Nat) (hc:len≤cap) (hk:k+len≤xs.length) (hz:xs.length≤1152921504606846976) (p:Nat) (hp:p<len):Con Tryz.prog 83 [.agg #[Vs bi (so+k) len cap,Vh p]] [] [⟨bi,so,(nats .u8 xs),shi⟩] (fun v l'=>v=Vs bi (so+(k+p)) (len-p) (cap-p)∧l'=[]):=by
 refine Zi Tryz.func83 rfl fun w0=>?_
 refine Y5 ?_
 refine Ze (e_box rfl rfl rfl rfl rfl) fun b1=>?_
 refine Ya ?_
 refine Y2 ?_
 refine Yy (Zf fo_95_0) ?_
 refine Yr (Zl 0 0 ag_22) ?_
 refine Yy (Zf fo_95_1) ?_
 refine Yr (Zl 0 1 ag_3) ?_
 refine Yy (y_slL (q':=so+(k+p)) (lo:=p) rfl rfl rfl se_22 Om Om) ?_
 refine Zn (G.ret ?_)
 repeat first|refine ZR ?_|refine ZB ?_
 exact ret1 [] rfl rfl rfl (⟨rfl,rfl⟩)
theorem c_b_advance (iv:Value) (b o:Nat) (sh:Shp) (p n:Nat) (hp:p+n<9223372036854775808):Con Tryz.prog 78 [Vp b o,Vd n] [⟨b,o,[iv,Vh p],sh⟩] [] (fun v l'=>v=.tuple #[]∧l'=[⟨b,o,[iv,Vh (p+n)],sh⟩]):=by
 refine Zi Tryz.func78 rfl fun w0=>?_
 refine YG ?_
 refine Yy (Zf fo_95_1) ?_
 refine Yr (Zl 0 1 ag_3) ?_
 refine Yy (ZcvNh n un_39 un_3) ?_
 refine Yy (ZaddNh p n) ?_
 refine Yy (Zf fo_95_1) ?_
 refine Ys (Zst 0 1 sz_3) ?_
 refine GL.nil ?_
 exact ret0 [0] rfl rfl (⟨rfl,rfl⟩)
theorem c_b_init (c0 c1:Value) (q:Option Addr) (n c b o:Nat) (sh:Shp):Con Tryz.prog 75 [Vp b o,.slice q n c] [⟨b,o,[c0,c1],sh⟩] [] (fun v l'=>v=.tuple #[]∧l'=[⟨b,o,[.slice q n c,Vh 0],sh⟩]):=by
 refine Zi Tryz.func75 rfl fun w0=>?_
 refine Y5 ?_
 refine Yy (Zf fo_95_0) ?_
 refine Ys (Zst 0 0 sz_22) ?_
 refine Y1 ?_
 refine Yy (Zf fo_95_1) ?_
 refine Ys (Zst 0 1 sz_3) ?_
 refine GL.nil ?_
 exact ret0 [0] rfl rfl (⟨rfl,rfl⟩)
theorem c_tableStep (n:Nat) (hn:n≤4096):Con Tryz.prog 80 [Vc n] [] [] (fun v l'=>v=Vc (n/2^1+n/2^3+3)∧l'=[]):=by
 refine Zi Tryz.func80 rfl fun w0=>?_
 refine Y5 ?_
 refine Y2 ?_
 refine Yy (ZshrNc n 1) ?_
 refine Yy (ZshrNc n 3) ?_
 refine Yy (ZaddNc (n/2^1) (n/2^3)) ?_
 refine Yy (ZaddNc ((n/2^1)+(n/2^3)) 3) ?_
 refine Zn (G.ret ?_)
 repeat first|refine ZR ?_|refine ZB ?_
 exact ret1 [] rfl rfl rfl (⟨rfl,rfl⟩)
theorem c_d_nextFast (bt ot tn tcap:Nat) (sht:Shp) (T:List (Nat × Nat × Nat)) (hTl:tn≤T.length) (bd od:Nat) (shd:Shp) (a:Nat) (iv:Value) (len:Nat) (b o:Nat) (sh:Shp) (s:BR) (h:s.OK len) (ha:a<tn) (hbs:(T.getD a (0,0,0)).2.2+s.fbits (T.getD a (0,0,0)).2.1<65536) (hbn:(T.getD a (0,0,0)).2.1≤64) (hr:s.rd≤64):Con Tryz.prog 86 [Vp bd od] [⟨bd,od,[Vb a,Vp b o,Vs bt ot tn tcap],shd⟩,⟨b,o,[iv,Vd s.off,Vd s.val,Va s.rd],sh⟩] [⟨bt,ot,(rows fD T),sht⟩] (fun v l'=>v=Va ((T.getD a (0,0,0)).1)∧l'=[⟨bd,od,[Vb ((T.getD a (0,0,0)).2.2+s.fbits (T.getD a (0,0,0)).2.1),Vp b o,Vs bt ot tn tcap],shd⟩,⟨b,o,brC iv (s.fskip (T.getD a (0,0,0)).2.1),sh⟩]):=by
 refine Zi Tryz.func86 rfl fun w0=>?_
 refine Y5 ?_
 refine Z4 ?_
 refine Zh 3720 (YS 0 (YS 1 (YS 2 (YS 4 (YS 5 (YS 6 (YE 3 (YE 7 (YS 8 (YE 9 (YF 10 (YF 11 .nil)) (YF 10 (YF 9 (YF 11 .nil))))) (YF 10 (YF 7 (YS 8 (YF 9 (YF 11 .nil)))))) (YE 7 (YE 3 (YS 8 (YE 9 (YF 10 (YF 11 .nil)) (YF 10 (YF 9 (YF 11 .nil))))) (YF 10 (YF 3 (YS 8 (YF 9 (YF 11 .nil)))))) (YE 10 (YE 3 (YF 7 (YS 8 (YF 9 (YF 11 .nil)))) (YF 7 (YF 3 (YS 8 (YF 9 (YF 11 .nil)))))) .stop))))))))) ?_
 refine Yta ?_
 refine Yty (Zf fo_177_2) ?_
 refine Yty (Zf fo_177_0) ?_
 refine Ytx (Zl 0 2 ag_105) ?_ ?_
 refine Ytx (Zl 0 0 ag_78) ?_ ?_
 refine Yty (y_ix (q':=ot+(a*3)) (m:=a) rfl rfl rfl se_105 Om Om) ?_
 refine Ytx (r_ldar (vs:=fD (T.getD a (0,0,0))) 0 (a*3) rfl rfl rfl ag_173 sz_173 rfl (rows_at fD_len (0,0,0) Om) rfl) ?_ ?_
 refine GT.eff (Zal zc_173) rfl rfl ?_ GT.stop
 rintro _ _ ⟨b1,rfl,rfl⟩
 refine Ytt (Zsw 0 sz_173) ?_
 refine GT.nil (GQ.thenN (G.seq ?_))
 refine Zg 64 [y_0,y_1,y_2,r_3,y_4,r_5,e_6,y_7] ?_
 refine Ypa ?_
 refine Ypy (Zf fo_177_1) ?_
 refine Ypr (Zl 1 1 ag_174) ?_
 refine Ypy (Zf fo_173_2) ?_
 refine Ypr (Zl 0 2 ag_5) ?_
 refine Zpcc [2] [] (c_f_getBitsFast (iv) _ b o sh s Oa ((T.getD a (0,0,0)).2.1) Om Om) rfl ?_
 refine Ypa ?_
 refine GP.nil (GQ.thenN (Y5 ?_))
 refine Yy (Zf fo_173_0) ?_
 refine Yr (Zl 1 0 ag_78) ?_
 refine Yy (ZaddNb ((T.getD a (0,0,0)).2.2) (BR.fbits s ((T.getD a (0,0,0)).2.1))) ?_
 refine Yy (Zf fo_177_0) ?_
 refine Ys (Zst 2 0 sz_78) ?_
 refine Y2 ?_
 refine Yy (Zf fo_173_1) ?_
 refine Yr (Zl 1 1 ag_5) ?_
 refine Zn (G.ret ?_)
 repeat first|refine ZR ?_|refine ZB ?_
 exact ret1 [2,0] rfl rfl rfl (⟨rfl,rfl⟩)
 refine GT.eff (Zal zc_173) rfl rfl ?_ GT.stop
 rintro _ _ ⟨b2,rfl,rfl⟩
 refine Ytu (r_ldar (vs:=fD (T.getD a (0,0,0))) 0 (a*3) rfl rfl rfl ag_173 sz_173 rfl (rows_at fD_len (0,0,0) Om) rfl) ?_
 refine Ytt (Zsw 0 sz_173) ?_
 refine GT.nil (GQ.thenN (G.seq ?_))
 refine Zg 64 [y_0,y_1,y_2,r_3,y_4,r_5,e_6,y_7] ?_
 refine Ypa ?_
 refine Ypy (Zf fo_177_1) ?_
 refine Ypr (Zl 1 1 ag_174) ?_
 refine Ypy (Zf fo_173_2) ?_
 refine Ypr (Zl 0 2 ag_5) ?_
 refine Zpcc [2] [] (c_f_getBitsFast (iv) _ b o sh s Oa ((T.getD a (0,0,0)).2.1) Om Om) rfl ?_
 refine Ypa ?_
 refine GP.nil (GQ.thenN (Y5 ?_))
 refine Yy (Zf fo_173_0) ?_
 refine Yr (Zl 1 0 ag_78) ?_
 refine Yy (ZaddNb ((T.getD a (0,0,0)).2.2) (BR.fbits s ((T.getD a (0,0,0)).2.1))) ?_
 refine Yy (Zf fo_177_0) ?_
 refine Ys (Zst 2 0 sz_78) ?_
 refine Y2 ?_
 refine Yy (Zf fo_173_1) ?_
 refine Yr (Zl 1 1 ag_5) ?_
 refine Zn (G.ret ?_)
 repeat first|refine ZR ?_|refine ZB ?_
 exact ret1 [2,0] rfl rfl rfl (⟨rfl,rfl⟩)
 refine GT.eff (Zal zc_173) rfl rfl ?_ GT.stop
 rintro _ _ ⟨b3,rfl,rfl⟩
 refine Ytu (Zl 1 0 ag_78) ?_
 refine Yty (y_ix (q':=ot+(a*3)) (m:=a) rfl rfl rfl se_105 Om Om) ?_
 refine Ytu (r_ldar (vs:=fD (T.getD a (0,0,0))) 0 (a*3) rfl rfl rfl ag_173 sz_173 rfl (rows_at fD_len (0,0,0) Om) rfl) ?_
 refine Ytt (Zsw 0 sz_173) ?_
 refine GT.nil (GQ.thenN (G.seq ?_))
 refine Zg 64 [y_0,y_1,y_2,r_3,y_4,r_5,e_6,y_7] ?_
 refine Ypa ?_
 refine Ypy (Zf fo_177_1) ?_
 refine Ypr (Zl 1 1 ag_174) ?_
 refine Ypy (Zf fo_173_2) ?_
 refine Ypr (Zl 0 2 ag_5) ?_
 refine Zpcc [2] [] (c_f_getBitsFast (iv) _ b o sh s Oa ((T.getD a (0,0,0)).2.1) Om Om) rfl ?_
 refine Ypa ?_
 refine GP.nil (GQ.thenN (Y5 ?_))
 refine Yy (Zf fo_173_0) ?_
 refine Yr (Zl 1 0 ag_78) ?_
 refine Yy (ZaddNb ((T.getD a (0,0,0)).2.2) (BR.fbits s ((T.getD a (0,0,0)).2.1))) ?_
 refine Yy (Zf fo_177_0) ?_
 refine Ys (Zst 2 0 sz_78) ?_
 refine Y2 ?_
 refine Yy (Zf fo_173_1) ?_
 refine Yr (Zl 1 1 ag_5) ?_
 refine Zn (G.ret ?_)
 repeat first|refine ZR ?_|refine ZB ?_
 exact ret1 [2,0] rfl rfl rfl (⟨rfl,rfl⟩)
 refine Ytx (Zl 0 0 ag_78) ?_ ?_
 refine Ytx (Zl 0 2 ag_105) ?_ ?_
 refine Yty (y_ix (q':=ot+(a*3)) (m:=a) rfl rfl rfl se_105 Om Om) ?_
 refine Ytx (r_ldar (vs:=fD (T.getD a (0,0,0))) 0 (a*3) rfl rfl rfl ag_173 sz_173 rfl (rows_at fD_len (0,0,0) Om) rfl) ?_ ?_
 refine GT.eff (Zal zc_173) rfl rfl ?_ GT.stop
 rintro _ _ ⟨b4,rfl,rfl⟩
 refine Ytt (Zsw 0 sz_173) ?_
 refine GT.nil (GQ.thenN (G.seq ?_))
 refine Zg 64 [y_0,y_1,y_2,r_3,y_4,r_5,e_6,y_7] ?_
 refine Ypa ?_
 refine Ypy (Zf fo_177_1) ?_
 refine Ypr (Zl 1 1 ag_174) ?_
 refine Ypy (Zf fo_173_2) ?_
 refine Ypr (Zl 0 2 ag_5) ?_
 refine Zpcc [2] [] (c_f_getBitsFast (iv) _ b o sh s Oa ((T.getD a (0,0,0)).2.1) Om Om) rfl ?_
 refine Ypa ?_
 refine GP.nil (GQ.thenN (Y5 ?_))
 refine Yy (Zf fo_173_0) ?_
 refine Yr (Zl 1 0 ag_78) ?_
 refine Yy (ZaddNb ((T.getD a (0,0,0)).2.2) (BR.fbits s ((T.getD a (0,0,0)).2.1))) ?_
 refine Yy (Zf fo_177_0) ?_
 refine Ys (Zst 2 0 sz_78) ?_
 refine Y2 ?_
 refine Yy (Zf fo_173_1) ?_
 refine Yr (Zl 1 1 ag_5) ?_
 refine Zn (G.ret ?_)
 repeat first|refine ZR ?_|refine ZB ?_
 exact ret1 [2,0] rfl rfl rfl (⟨rfl,rfl⟩)
 refine GT.eff (Zal zc_173) rfl rfl ?_ GT.stop
 rintro _ _ ⟨b5,rfl,rfl⟩
 refine Ytu (r_ldar (vs:=fD (T.getD a (0,0,0))) 0 (a*3) rfl rfl rfl ag_173 sz_173 rfl (rows_at fD_len (0,0,0) Om) rfl) ?_
 refine Ytt (Zsw 0 sz_173) ?_
 refine GT.nil (GQ.thenN (G.seq ?_))
 refine Zg 64 [y_0,y_1,y_2,r_3,y_4,r_5,e_6,y_7] ?_
 refine Ypa ?_
 refine Ypy (Zf fo_177_1) ?_
 refine Ypr (Zl 1 1 ag_174) ?_
 refine Ypy (Zf fo_173_2) ?_
 refine Ypr (Zl 0 2 ag_5) ?_
 refine Zpcc [2] [] (c_f_getBitsFast (iv) _ b o sh s Oa ((T.getD a (0,0,0)).2.1) Om Om) rfl ?_
 refine Ypa ?_
 refine GP.nil (GQ.thenN (Y5 ?_))
 refine Yy (Zf fo_173_0) ?_
 refine Yr (Zl 1 0 ag_78) ?_
 refine Yy (ZaddNb ((T.getD a (0,0,0)).2.2) (BR.fbits s ((T.getD a (0,0,0)).2.1))) ?_
 refine Yy (Zf fo_177_0) ?_
 refine Ys (Zst 2 0 sz_78) ?_
 refine Y2 ?_
 refine Yy (Zf fo_173_1) ?_
 refine Yr (Zl 1 1 ag_5) ?_
 refine Zn (G.ret ?_)
 repeat first|refine ZR ?_|refine ZB ?_
 exact ret1 [2,0] rfl rfl rfl (⟨rfl,rfl⟩)
 refine GT.eff (Zal zc_173) rfl rfl ?_ GT.stop
 rintro _ _ ⟨b6,rfl,rfl⟩
 refine Ytu (Zl 1 2 ag_105) ?_
 refine Yty (y_ix (q':=ot+(a*3)) (m:=a) rfl rfl rfl se_105 Om Om) ?_
 refine Ytu (r_ldar (vs:=fD (T.getD a (0,0,0))) 0 (a*3) rfl rfl rfl ag_173 sz_173 rfl (rows_at fD_len (0,0,0) Om) rfl) ?_
 refine Ytt (Zsw 0 sz_173) ?_
 refine GT.nil (GQ.thenN (G.seq ?_))
 refine Zg 64 [y_0,y_1,y_2,r_3,y_4,r_5,e_6,y_7] ?_
 refine Ypa ?_
 refine Ypy (Zf fo_177_1) ?_
 refine Ypr (Zl 1 1 ag_174) ?_
 refine Ypy (Zf fo_173_2) ?_
 refine Ypr (Zl 0 2 ag_5) ?_
 refine Zpcc [2] [] (c_f_getBitsFast (iv) _ b o sh s Oa ((T.getD a (0,0,0)).2.1) Om Om) rfl ?_
 refine Ypa ?_
 refine GP.nil (GQ.thenN (Y5 ?_))
 refine Yy (Zf fo_173_0) ?_
 refine Yr (Zl 1 0 ag_78) ?_
 refine Yy (ZaddNb ((T.getD a (0,0,0)).2.2) (BR.fbits s ((T.getD a (0,0,0)).2.1))) ?_
 refine Yy (Zf fo_177_0) ?_
 refine Ys (Zst 2 0 sz_78) ?_
 refine Y2 ?_
 refine Yy (Zf fo_173_1) ?_
 refine Yr (Zl 1 1 ag_5) ?_
 refine Zn (G.ret ?_)
 repeat first|refine ZR ?_|refine ZB ?_
 exact ret1 [2,0] rfl rfl rfl (⟨rfl,rfl⟩)
 refine GT.eff (Zal zc_173) rfl rfl ?_ GT.stop
 rintro _ _ ⟨b7,rfl,rfl⟩
 refine Ytx (Zl 1 2 ag_105) ?_ ?_
 refine Ytu (Zl 1 0 ag_78) ?_
 refine Yty (y_ix (q':=ot+(a*3)) (m:=a) rfl rfl rfl se_105 Om Om) ?_
 refine Ytu (r_ldar (vs:=fD (T.getD a (0,0,0))) 0 (a*3) rfl rfl rfl ag_173 sz_173 rfl (rows_at fD_len (0,0,0) Om) rfl) ?_
 refine Ytt (Zsw 0 sz_173) ?_
 refine GT.nil (GQ.thenN (G.seq ?_))
 refine Zg 64 [y_0,y_1,y_2,r_3,y_4,r_5,e_6,y_7] ?_
 refine Ypa ?_
 refine Ypy (Zf fo_177_1) ?_
 refine Ypr (Zl 1 1 ag_174) ?_
 refine Ypy (Zf fo_173_2) ?_
 refine Ypr (Zl 0 2 ag_5) ?_
 refine Zpcc [2] [] (c_f_getBitsFast (iv) _ b o sh s Oa ((T.getD a (0,0,0)).2.1) Om Om) rfl ?_
 refine Ypa ?_
 refine GP.nil (GQ.thenN (Y5 ?_))
 refine Yy (Zf fo_173_0) ?_
 refine Yr (Zl 1 0 ag_78) ?_
 refine Yy (ZaddNb ((T.getD a (0,0,0)).2.2) (BR.fbits s ((T.getD a (0,0,0)).2.1))) ?_
 refine Yy (Zf fo_177_0) ?_
 refine Ys (Zst 2 0 sz_78) ?_
 refine Y2 ?_
 refine Yy (Zf fo_173_1) ?_
 refine Yr (Zl 1 1 ag_5) ?_
 refine Zn (G.ret ?_)
 repeat first|refine ZR ?_|refine ZB ?_
 exact ret1 [2,0] rfl rfl rfl (⟨rfl,rfl⟩)
 refine Ytu (Zl 1 0 ag_78) ?_
 refine Ytu (Zl 1 2 ag_105) ?_
 refine Yty (y_ix (q':=ot+(a*3)) (m:=a) rfl rfl rfl se_105 Om Om) ?_
 refine Ytu (r_ldar (vs:=fD (T.getD a (0,0,0))) 0 (a*3) rfl rfl rfl ag_173 sz_173 rfl (rows_at fD_len (0,0,0) Om) rfl) ?_
 refine Ytt (Zsw 0 sz_173) ?_
 refine GT.nil (GQ.thenN (G.seq ?_))
 refine Zg 64 [y_0,y_1,y_2,r_3,y_4,r_5,e_6,y_7] ?_
 refine Ypa ?_
 refine Ypy (Zf fo_177_1) ?_
 refine Ypr (Zl 1 1 ag_174) ?_
 refine Ypy (Zf fo_173_2) ?_
 refine Ypr (Zl 0 2 ag_5) ?_
 refine Zpcc [2] [] (c_f_getBitsFast (iv) _ b o sh s Oa ((T.getD a (0,0,0)).2.1) Om Om) rfl ?_
 refine Ypa ?_
 refine GP.nil (GQ.thenN (Y5 ?_))
 refine Yy (Zf fo_173_0) ?_
 refine Yr (Zl 1 0 ag_78) ?_
 refine Yy (ZaddNb ((T.getD a (0,0,0)).2.2) (BR.fbits s ((T.getD a (0,0,0)).2.1))) ?_
 refine Yy (Zf fo_177_0) ?_
 refine Ys (Zst 2 0 sz_78) ?_
 refine Y2 ?_
 refine Yy (Zf fo_173_1) ?_
 refine Yr (Zl 1 1 ag_5) ?_
 refine Zn (G.ret ?_)
 repeat first|refine ZR ?_|refine ZB ?_
 exact ret1 [2,0] rfl rfl rfl (⟨rfl,rfl⟩)
theorem c_d_next (bt ot tn tcap:Nat) (sht:Shp) (T:List (Nat × Nat × Nat)) (hTl:tn≤T.length) (bd od:Nat) (shd:Shp) (a:Nat) (iv:Value) (len:Nat) (b o:Nat) (sh:Shp) (s:BR) (h:s.OK len) (ha:a<tn) (hbs:(T.getD a (0,0,0)).2.2+s.fbits (T.getD a (0,0,0)).2.1<65536) (hbn:(T.getD a (0,0,0)).2.1≤64) (h1:1≤(T.getD a (0,0,0)).2.1) (hr:s.rd<64):Con Tryz.prog 87 [Vp bd od] [⟨bd,od,[Vb a,Vp b o,Vs bt ot tn tcap],shd⟩,⟨b,o,[iv,Vd s.off,Vd s.val,Va s.rd],sh⟩] [⟨bt,ot,(rows fD T),sht⟩] (fun v l'=>v=Va ((T.getD a (0,0,0)).1)∧l'=[⟨bd,od,[Vb ((T.getD a (0,0,0)).2.2+s.fbits (T.getD a (0,0,0)).2.1),Vp b o,Vs bt ot tn tcap],shd⟩,⟨b,o,brC iv (s.fskip (T.getD a (0,0,0)).2.1),sh⟩]):=by
 refine Zi Tryz.func87 rfl fun w0=>?_
 refine Y5 ?_
 refine Z4 ?_
 refine Zg 0 [y_0,y_1,y_2,r_3,y_4,y_5,y_6,r_7,y_8,y_9] ?_
 refine Ypa ?_
 refine Ypy (Zf fo_177_2) ?_
 refine Ypr (Zl 0 2 ag_105) ?_
 refine Ypy (Zf fo_177_0) ?_
 refine Ypr (Zl 0 0 ag_78) ?_
 refine Ypy (y_ix (q':=ot+(a*3)) (m:=a) rfl rfl rfl se_105 Om Om) ?_
 refine GP.nil (GQ.thenN (G.seq ?_))
 refine Zg 256 [y_0,y_1,y_2,r_3,y_4,y_5,y_6,r_7,e_8,y_9] ?_
 refine Ypa ?_
 refine Ypy (Zf fo_177_1) ?_
 refine Ypr (Zl 0 1 ag_174) ?_
 refine Ypy (Zf fo_173_2) ?_
 refine Ypr (Zkc 0 (a*3+2) ag_5 rfl (fD_get2 Om)) ?_
 refine Zpcc [1] [] (c_f_getBits (iv) _ b o sh s Oa ((T.getD a (0,0,0)).2.1) Om Om) rfl ?_
 refine Ypa ?_
 refine GP.nil (GQ.thenN (Y5 ?_))
 refine Yy (Zf fo_173_0) ?_
 refine Yr (Zkc 0 (a*3) ag_78 rfl (fD_get0 Om)) ?_
 refine Yy (ZaddNb ((T.getD a (0,0,0)).2.2) (BR.fbits s ((T.getD a (0,0,0)).2.1))) ?_
 refine Yy (Zf fo_177_0) ?_
 refine Ys (Zst 1 0 sz_78) ?_
 refine Y2 ?_
 refine Yy (Zf fo_173_1) ?_
 refine Yr (Zkc 0 (a*3+1) ag_5 rfl (fD_get1 Om)) ?_
 refine Zn (G.ret ?_)
 repeat first|refine ZR ?_|refine ZB ?_
 exact ret1 [1,0] rfl rfl rfl (⟨rfl,rfl⟩)
theorem c_d_finished (bt ot tn tcap:Nat) (sht:Shp) (T:List (Nat × Nat × Nat)) (hTl:tn≤T.length) (bd od:Nat) (shd:Shp) (a:Nat) (iv:Value) (len:Nat) (b o:Nat) (sh:Shp) (s:BR) (h:s.OK len) (ha:a<tn) (h1:1≤(T.getD a (0,0,0)).2.1):Con Tryz.prog 88 [Vp bd od] [⟨bd,od,[Vb a,Vp b o,Vs bt ot tn tcap],shd⟩,⟨b,o,[iv,Vd s.off,Vd s.val,Va s.rd],sh⟩] [⟨bt,ot,(rows fD T),sht⟩] (fun v l'=>v=.bool (decide (64≤s.rd∧s.off=0))∧l'=[⟨bd,od,[Vb a,Vp b o,Vs bt ot tn tcap],shd⟩,⟨b,o,brC iv s,sh⟩]):=by
 refine Zi Tryz.func88 rfl fun w0=>?_
 refine Y5 ?_
 refine Z4 ?_
 refine Zg 16 [y_0,y_1,y_2,r_3,e_4,y_5,y_6,y_7,y_8,r_9,y_10,y_11,y_12,r_13,y_14,y_15,r_16,y_17,y_18,y_19] ?_
 refine Ypa ?_
 refine Ypy (Zf fo_177_1) ?_
 refine Ypr (Zl 0 1 ag_174) ?_
 refine Zpcc [1] [] (c_f_finished (iv) _ b o sh s Oa) rfl ?_
 refine Zpa 1 ?_
 refine GP.split (t:=8) (p:=64≤s.rd∧s.off=0) rfl (fun h1=>?_) (fun h1=>?_)
 refine Ypa ?_
 refine Ypy (Zf fo_177_2) ?_
 refine Ypr (Zl 1 2 ag_105) ?_
 refine Ypy (Zf fo_177_0) ?_
 refine Ypr (Zl 1 0 ag_78) ?_
 refine Ypy (y_ix (q':=ot+(a*3)) (m:=a) rfl rfl rfl se_105 Om Om) ?_
 refine Ypy (Zf fo_173_2) ?_
 refine Ypr (Zkc 0 (a*3+2) ag_5 rfl (fD_get2 Om)) ?_
 refine Ypy (Zgt ((T.getD a (0,0,0)).2.1) 0) ?_
 refine GP.nil (GQ.thenN (G.ret ?_))
 repeat first|refine ZR ?_|refine ZB ?_
 exact ret1 [1,0] rfl rfl rfl (⟨congrArg Value.bool (decide_eq_decide.2 Om),rfl⟩)
 refine Zpa 3 ?_
 refine GP.skipr rfl rfl rfl rfl ?_
 refine Zpa 3 ?_
 refine GP.skipr rfl rfl rfl rfl ?_
 refine Zpa 2 ?_
 refine GP.skipr rfl rfl rfl rfl ?_
 refine Ypa ?_
 refine GP.nil (GQ.thenN (G.ret ?_))
 repeat first|refine ZR ?_|refine ZB ?_
 exact ret1 [1,0] rfl rfl rfl (⟨congrArg Value.bool (decide_eq_false Om).symm,rfl⟩)
theorem c_d_final (bt ot tn tcap:Nat) (sht:Shp) (T:List (Nat × Nat × Nat)) (hTl:tn≤T.length) (bd od:Nat) (shd:Shp) (a:Nat) (iv:Value) (len:Nat) (b o:Nat) (sh:Shp) (s:BR) (h:s.OK len) (ha:a<tn):Con Tryz.prog 89 [Vp bd od] [⟨bd,od,[Vb a,Vp b o,Vs bt ot tn tcap],shd⟩,⟨b,o,[iv,Vd s.off,Vd s.val,Va s.rd],sh⟩] [⟨bt,ot,(rows fD T),sht⟩] (fun v l'=>v=Va ((T.getD a (0,0,0)).1)∧l'=[⟨bd,od,[Vb a,Vp b o,Vs bt ot tn tcap],shd⟩,⟨b,o,brC iv s,sh⟩]):=by
 refine Zi Tryz.func89 rfl fun w0=>?_
 refine Y5 ?_
 refine Z4 ?_
 refine Zg 0 [y_0,y_1,y_2,r_3,y_4,y_5,y_6,r_7,y_8,y_9,r_10,y_11] ?_
 refine Ypa ?_
 refine Ypy (Zf fo_177_2) ?_
 refine Ypr (Zl 0 2 ag_105) ?_
 refine Ypy (Zf fo_177_0) ?_
 refine Ypr (Zl 0 0 ag_78) ?_
 refine Ypy (y_ix (q':=ot+(a*3)) (m:=a) rfl rfl rfl se_105 Om Om) ?_
 refine Ypy (Zf fo_173_1) ?_
 refine Ypr (Zkc 0 (a*3+1) ag_5 rfl (fD_get1 Om)) ?_
 refine GP.nil (GQ.thenN (G.ret ?_))
 repeat first|refine ZR ?_|refine ZB ?_
 exact ret1 [0,0] rfl rfl rfl (⟨rfl,rfl⟩)
theorem c_d_init (bt ot tn tcap:Nat) (sht:Shp) (T:List (Nat × Nat × Nat)) (hTl:tn≤T.length) (bd od:Nat) (shd:Shp) (c0 c1 c2:Value) (iv:Value) (len:Nat) (b o:Nat) (sh:Shp) (s:BR) (h:s.OK len) (hr:s.rd<64):Con Tryz.prog 84 [Vp bd od,Vp b o,Vs bt ot tn tcap,Va 6] [⟨bd,od,[c0,c1,c2],shd⟩,⟨b,o,[iv,Vd s.off,Vd s.val,Va s.rd],sh⟩] [⟨bt,ot,(rows fD T),sht⟩] (fun v l'=>v=.tuple #[]∧l'=[⟨bd,od,[Vb (s.fbits 6),Vp b o,Vs bt ot tn tcap],shd⟩,⟨b,o,brC iv (s.fskip 6),sh⟩]):=by
 refine Zi Tryz.func84 rfl fun w0=>?_
 refine Y5 ?_
 refine Yy (Zf fo_177_2) ?_
 refine Ys (Zst 0 2 sz_105) ?_
 refine Y2 ?_
 refine Yy (Zf fo_177_1) ?_
 refine Ys (Zst 0 1 sz_174) ?_
 refine Y1 ?_
 refine Zcc [1] [] (c_f_getBits (iv) _ b o sh s Oa 6 Om Om) rfl ?_
 refine Ya ?_
 refine Yy (Zf fo_177_0) ?_
 refine Ys (Zst 1 0 sz_78) ?_
 refine GL.nil ?_
 exact ret0 [1,0] rfl rfl (⟨rfl,rfl⟩)
theorem c_allocD (bF:Nat) (CN NR:List Nat) (r0 r1 r2 r5 r7 r8 r9 r13 r14 r15:Value) (n:Nat):Con Tryz.prog 79 [Vp bF 0] [⟨bF,0,(nats .u32 CN),none⟩,⟨bF,256,(nats .i16 NR),none⟩,⟨bF,518,[r0,r1,r2,.slice none 0 0,.slice none 0 0,r5,.slice none 0 0,r7,r8,r9,Vb n,Va 6,.bool false,r13,r14,r15],none⟩] [] (fun v l'=>∃b1 b2 b3,v=.tuple #[]∧l'=[⟨bF,0,(nats .u32 CN),none⟩,⟨bF,256,(nats .i16 NR),none⟩,⟨bF,518,[r0,r1,r2,Vs b2 0 256 256,Vs b3 0 256 256,r5,Vs b1 0 64 64,r7,r8,r9,Vb n,Va 6,.bool false,r13,r14,r15],none⟩,⟨b1,0,(rows fD (List.replicate 64 (0,0,0))),none⟩,⟨b2,0,(nats .u8 (List.replicate 256 0)),none⟩,⟨b3,0,(nats .u16 (List.replicate 256 0)),none⟩]):=by
 refine Zi Tryz.func79 rfl fun w0=>?_
 refine Y5 ?_
 refine Yy (Zf fo_107_11) ?_
 refine Yr (Zl 2 11 ag_5) ?_
 refine Yy (Zq 64 (ZshlNh 1 6) Od) ?_
 refine Y3 ?_
 refine Yy (Zf fo_107_6) ?_
 refine Yr (Zl 2 6 ag_105) ?_
 refine Yy (y_cap rfl rfl rfl rfl un_105) ?_
 refine Yy (Zlt 0 64) ?_
 refine Zn ?_
 refine G.condDT rfl Od ?_
 refine YG ?_
 refine Ze (e_mkk (m:=64) (c:=64) rfl rfl rfl el_105 rfl Od (by first|omega|decide) rfl rfl) fun b1=>?_
 rw[fD_rep0]
 refine Ya ?_
 refine Yy (Zf fo_107_6) ?_
 refine Ys (Zst 3 6 sz_105) ?_
 refine Y2 ?_
 refine Yy (Zf fo_107_6) ?_
 refine Yr (Zl 3 6 ag_105) ?_
 refine Yy (y_slH (hi:=64) rfl rfl rfl se_105 Om) ?_
 refine Yy (Zf fo_107_6) ?_
 refine Ys (Zst 3 6 sz_105) ?_
 refine Y3 ?_
 refine Yy (Zf fo_107_5) ?_
 refine Yy (Zf fo_104_0) ?_
 refine Yr (Zl 3 3 ag_22) ?_
 refine Yy (y_cap rfl rfl rfl rfl un_22) ?_
 refine Yy (Zlt 0 256) ?_
 refine Zn ?_
 refine G.condDT rfl Od ?_
 refine YG ?_
 refine Ze (e_mkN (m:=256) (c:=256) rfl rfl rfl el_22 (by first|omega|decide) rfl rfl) fun b2=>?_
 refine Ya ?_
 refine Yy (Zf fo_107_5) ?_
 refine Yy (Zf fo_104_0) ?_
 refine Ys (Zst 4 3 sz_22) ?_
 refine Y2 ?_
 refine Yy (Zf fo_107_5) ?_
 refine Yy (Zf fo_104_0) ?_
 refine Yr (Zl 4 3 ag_22) ?_
 refine Yy (y_slH (hi:=256) rfl rfl rfl se_22 Om) ?_
 refine Yy (Zf fo_107_5) ?_
 refine Yy (Zf fo_104_0) ?_
 refine Ys (Zst 4 3 sz_22) ?_
 refine Y3 ?_
 refine Yy (Zf fo_107_5) ?_
 refine Yy (Zf fo_104_1) ?_
 refine Yr (Zl 4 4 ag_101) ?_
 refine Yy (y_cap rfl rfl rfl rfl un_101) ?_
 refine Yy (Zlt 0 256) ?_
 refine Zn ?_
 refine G.condDT rfl Od ?_
 refine YG ?_
 refine Ze (e_mkN (m:=256) (c:=256) rfl rfl rfl el_101 (by first|omega|decide) rfl rfl) fun b3=>?_
 refine Ya ?_
 refine Yy (Zf fo_107_5) ?_
 refine Yy (Zf fo_104_1) ?_
 refine Ys (Zst 5 4 sz_101) ?_
 refine Y1 ?_
 refine Yy (Zf fo_107_5) ?_
 refine Yy (Zf fo_104_1) ?_
 refine Yr (Zl 5 4 ag_101) ?_
 refine Yy (y_slH (hi:=256) rfl rfl rfl se_101 Om) ?_
 refine Yy (Zf fo_107_5) ?_
 refine Yy (Zf fo_104_1) ?_
 refine Ys (Zst 5 4 sz_101) ?_
 refine GL.nil ?_
 exact ret0 [3,3,3,2,1,0] rfl rfl (⟨_,_,_,rfl,rfl⟩)
theorem take_get {NR:List Nat} {n i:Nat} (h:i<n):(NR.take n).getD i 0=NR.getD i 0:=by simp[List.getD_eq_getElem?_getD,List.getElem?_take,h]
set_option maxHeartbeats 4000000 in
theorem c_buildD (bF:Nat) (CN NR:List Nat) (r0 r1 r2 r5 r7 r8 r9 r13 r14 r15:Value) (n:Nat) (P:List Nat) (hC:CountsB 6 P) (ha:AllLe P 31) (hN:NR.length=256) (hNP:NR.take n=P) (hnP:P.length=n):Con Tryz.prog 56 [Vp bF 0] [⟨bF,0,(nats .u32 CN),none⟩,⟨bF,256,(nats .i16 NR),none⟩,⟨bF,518,[r0,r1,r2,.slice none 0 0,.slice none 0 0,r5,.slice none 0 0,r7,r8,r9,Vb n,Va 6,.bool false,r13,r14,r15],none⟩] [] (fun v l'=>∃b1 b2 b3,v=.nilIface∧l'=[⟨bF,0,(nats .u32 CN),none⟩,⟨bF,518,[r0,r1,r2,Vs b2 0 256 256,Vs b3 0 256 256,r5,Vs b1 0 64 64,r7,r8,r9,Vb n,Va 6,.bool false,r13,r14,r15],none⟩,⟨b1,0,(rows fD (tableF 6 P)),none⟩,⟨b2,0,(nats .u8 (List.replicate 256 0)),none⟩]):=by
 refine Zi Tryz.func56 rfl fun w0=>?_
 refine Y5 ?_
 refine Z4 ?_
 have hcl:=hC.len
 refine YG ?_
 refine Yy (Zf fo_107_11) ?_
 refine Yr (Zl 2 11 ag_5) ?_
 refine Yy (Zq 64 (ZshlWc 1 6) Od) ?_
 refine Y2 ?_
 refine Yy (Zq 63 (ZsubNc 64 1) Od) ?_
 refine Y2 ?_
 refine Zcp [0,0,0] [] (c_allocD bF _ _ _ _ _ _ _ _ _ _ _ _ _) rfl ?_
 rintro _ _ ⟨b1,b2,b3,rfl,rfl⟩
 refine Y2 ?_
 refine Yy (Zf fo_107_5) ?_
 refine Yy (Zf fo_104_1) ?_
 refine Yr (Zl 2 4 ag_101) ?_
 refine Yy (y_slH (hi:=256) rfl rfl rfl se_101 Om) ?_
 refine Y2 ?_
 refine Yy (Zf fo_107_12) ?_
 refine Ys (Zst 2 12 sz_4) ?_
 refine Y3 ?_
 refine Yy (Zf fo_107_11) ?_
 refine Yr (Zl 2 11 ag_5) ?_
 refine Yy (Zq 5 (ZsubNa 6 1) Od) ?_
 refine Yy (Zq 32 (ZshlNf 1 5) Od) ?_
 refine Z4 ?_
 refine Zg 0 [y_0,y_1,y_2,y_3,y_4,y_5,r_6,y_7,y_8,y_9] ?_
 refine Ypa ?_
 refine Ypy (Zf fo_107_1) ?_
 refine Ypy (Zf fo_107_10) ?_
 refine Ypr (Zl 2 10 ag_78) ?_
 refine Ypy (y_slAH (hi:=n) rfl rfl rfl ae_93 Om) ?_
 refine Ypy (Zlen un_171) ?_
 refine GP.nil (GQ.thenN (G.block ?_))
 refine Zo (fun mz ρ l=>∃i:Nat,∃S:List Nat,mz=n-i∧(i≤n)∧(S.length=256)∧(∀j,j<i→S.getD j 0=P.getD j 0)∧ρ=[(0,Vp bF 0),(2,Value.nilIface),(3,Vc 64),(4,Vc 63),(5,Vs b3 0 256 256),(6,Vf 32),(53,Vs bF 256 n 256),(54,Vh n),(55,Vh i)]∧l=[⟨bF,0,(nats .u32 CN),none⟩,⟨bF,256,(nats .i16 NR),none⟩,⟨bF,518,[r0,r1,r2,Vs b2 0 256 256,Vs b3 0 256 256,r5,Vs b1 0 64 64,r7,r8,r9,Vb n,Va 6,.bool false,r13,r14,r15],none⟩,⟨b1,0,(rows fD (List.replicate 64 (0,0,0))),none⟩,⟨b2,0,(nats .u8 (List.replicate 256 0)),none⟩,⟨b3,0,(nats .u16 S),none⟩]) ⟨0,(List.replicate 256 0),rfl,Om,Oi,(fun j hj=>Om),rfl,rfl⟩ ?_
 rintro _ _ _ ⟨i,S,rfl,hi,hSl,hS,rfl,rfl⟩
 refine Y5 ?_
 refine Yy (Zlt i n) ?_
 refine Z4 ?_
 refine Zc (fun h4=>?_) (fun h4=>?_)
 refine Z7 (G.seq (G.block (Y5 ?_)))
 refine Yy (Zx (256+i) i se_171) ?_
 refine Yr (Zqr (P.getD i 0) (Zlc 1 i ag_92 rfl (nats_get Oy)) (by rw[←hNP];exact(take_get Om).symm)) ?_
 refine Z4 ?_
 have hvi:=ha.at_ i
 refine YG ?_
 refine Yy (y_eq (a:=((P.getD i 0:Nat):Int)) (b:=(-1)) rfl rfl rfl) ?_
 refine Zn ?_
 refine G.condDF rfl Om ?_
 refine Y6 ?_
 refine Yy (Zge (P.getD i 0) 32) ?_
 refine Zn ?_
 refine G.condDF rfl Om ?_
 refine Z7 (YG ?_)
 refine Yy (ZcvNb (P.getD i 0) un_92 un_78) ?_
 refine Yy (Zx i i se_101) ?_
 refine Ys (Zsu 5 i sz_78) ?_
 refine GL.nil (GQ.blockN (GQ.thenN (YG ?_)))
 refine Yy (ZaddNh i 1) ?_
 refine GL.nil ?_
 exact Zb ⟨(i+1),(S.set i (P.getD i 0)),rfl,Om,(by rw[List.length_set];exact hSl),(outs_step hS Om rfl),rfl,rfl⟩
 refine G.exit (GQ.thenE (GQ.thenE (GQ.blockE (GQ.thenN (Y6 ?_)))))
 refine Yy (Zq 63 (ZsubNc 64 1) Od) ?_
 refine Y2 ?_
 refine Zcc [] [] (c_tableStep 64 Om) rfl ?_
 refine Yy (Zq 43 (y_as rfl rfl) Od) ?_
 refine Y2 ?_
 refine Z4 (G.seq ?_)
 refine Zg 0 [y_0,y_1,y_2,y_3,y_4,y_5,r_6,y_7,y_8,y_9] ?_
 refine Ypa ?_
 refine Ypy (Zf fo_107_1) ?_
 refine Ypy (Zf fo_107_10) ?_
 refine Ypr (Zl 2 10 ag_78) ?_
 refine Ypy (y_slAH (hi:=n) rfl rfl rfl ae_93 Om) ?_
 refine Ypy (Zlen un_171) ?_
 refine GP.nil (GQ.thenN (G.block ?_))
 refine Zo (fun mz ρ l=>∃s q:Nat,∃D:List (Nat × Nat × Nat),mz=n-s∧(s≤n∧q<64)∧(D.length=64)∧(place 64 (flatC s (P.drop s)) q (D.map (·.1))=cellsF 6 P)∧(q=(P.take s).sum*43%64)∧ρ=[(0,Vp bF 0),(2,Value.nilIface),(4,Vc 63),(5,Vs b3 0 256 256),(9,Vc 63),(10,Vc 43),(11,Vc q),(99,Vs bF 256 n 256),(100,Vh n),(101,Vh s)]∧l=[⟨bF,0,(nats .u32 CN),none⟩,⟨bF,256,(nats .i16 NR),none⟩,⟨bF,518,[r0,r1,r2,Vs b2 0 256 256,Vs b3 0 256 256,r5,Vs b1 0 64 64,r7,r8,r9,Vb n,Va 6,.bool false,r13,r14,r15],none⟩,⟨b1,0,(rows fD D),none⟩,⟨b2,0,(nats .u8 (List.replicate 256 0)),none⟩,⟨b3,0,(nats .u16 S),none⟩]) ⟨0,0,(List.replicate 64 (0,0,0)),rfl,⟨Om,Om⟩,Oi,(by exact cells_eq (log:=6) hC Oi),Oi,rfl,rfl⟩ ?_
 rintro _ _ _ ⟨s,q,D,rfl,hs,hDl,hF,hq,rfl,rfl⟩
 refine Y5 ?_
 refine Yy (Zlt s n) ?_
 refine Z4 ?_
 refine Zc (fun h5=>?_) (fun h5=>?_)
 refine Z7 (G.seq (G.block (Y5 ?_)))
 refine Yy (Zx (256+s) s se_171) ?_
 refine Yr (Zqr (P.getD s 0) (Zlc 1 s ag_92 rfl (nats_get Oy)) (by rw[←hNP];exact(take_get Om).symm)) ?_
 refine Z4 ?_
 have hvs:=ha.at_ s
 refine YG ?_
 refine Zn (G.block ?_)
 refine Zo (fun mz ρ l=>∃k q:Nat,∃D:List (Nat × Nat × Nat),mz=P.getD s 0-k∧(k≤P.getD s 0∧q<64)∧(D.length=64)∧(place 64 (List.replicate (P.getD s 0-k) s++flatC (s+1) (P.drop (s+1))) q (D.map (·.1))=cellsF 6 P)∧(q=((P.take s).sum+k)*43%64)∧ρ=[(0,Vp bF 0),(2,Value.nilIface),(4,Vc 63),(5,Vs b3 0 256 256),(9,Vc 63),(10,Vc 43),(11,Vc q),(12,Vh s),(13,Vf (P.getD s 0)),(14,Vh k),(99,Vs bF 256 n 256),(100,Vh n),(101,Vh s)]∧l=[⟨bF,0,(nats .u32 CN),none⟩,⟨bF,256,(nats .i16 NR),none⟩,⟨bF,518,[r0,r1,r2,Vs b2 0 256 256,Vs b3 0 256 256,r5,Vs b1 0 64 64,r7,r8,r9,Vb n,Va 6,.bool false,r13,r14,r15],none⟩,⟨b1,0,(rows fD D),none⟩,⟨b2,0,(nats .u8 (List.replicate 256 0)),none⟩,⟨b3,0,(nats .u16 S),none⟩]) ⟨0,q,D,rfl,⟨Om,Om⟩,hDl,(by exact placeN_begin hF Om),(by exact hq),rfl,rfl⟩ ?_
 rintro _ _ _ ⟨k,q,D,rfl,hk,hDl,hF2,hq2,rfl,rfl⟩
 refine Y6 ?_
 refine Yy (ZcvNh (P.getD s 0) un_92 un_3) ?_
 refine Yy (Zlt k (P.getD s 0)) ?_
 refine Zn ?_
 refine Zc (fun h6=>?_) (fun h6=>?_)
 refine Z7 (G.seq (G.block (Y5 ?_)))
 refine Yy (Zf fo_107_6) ?_
 refine Yr (Zl 2 6 ag_105) ?_
 refine Yy (ZcvNa s un_3 un_5) ?_
 refine Yy (y_ix (q':=q*3) (m:=q) rfl rfl rfl se_105 Om Om) ?_
 refine Yy (Zf fo_173_1) ?_
 refine Ys (e_st (cs':=rows fD (D.set q (s,(D.getD q (0,0,0)).2))) 3 (q*3+1) rfl rfl rfl rfl sz_5 rfl (Nat.zero_add _).symm (by rw[rows_length fD_len];first|omega|(simp;omega)) rfl (rows_set1 (e:=1) fD_len (0,0,0) Ou Od rfl)) ?_
 refine Y2 ?_
 refine Yy (ZaddNc q 43) ?_
 refine Yy (Zq ((q+43)%64) (ZandNc (q+43) 63) (and63' _)) ?_
 refine Zn (G.block ?_)
 refine Zo (fun mz ρ l=>mz=0∧ρ=[(0,Vp bF 0),(2,Value.nilIface),(4,Vc 63),(5,Vs b3 0 256 256),(9,Vc 63),(10,Vc 43),(11,Vc ((q+43)%64)),(12,Vh s),(13,Vf (P.getD s 0)),(14,Vh k),(99,Vs bF 256 n 256),(100,Vh n),(101,Vh s)]∧l=[⟨bF,0,(nats .u32 CN),none⟩,⟨bF,256,(nats .i16 NR),none⟩,⟨bF,518,[r0,r1,r2,Vs b2 0 256 256,Vs b3 0 256 256,r5,Vs b1 0 64 64,r7,r8,r9,Vb n,Va 6,.bool false,r13,r14,r15],none⟩,⟨b1,0,(rows fD (D.set q (s,(D.getD q (0,0,0)).2))),none⟩,⟨b2,0,(nats .u8 (List.replicate 256 0)),none⟩,⟨b3,0,(nats .u16 S),none⟩]) ⟨rfl,rfl,rfl⟩ ?_
 rintro _ _ _ ⟨rfl,rfl,rfl⟩
 refine Y6 ?_
 refine Yy (Zgt ((q+43)%64) 63) ?_
 refine Zn ?_
 refine G.condDF rfl Om ?_
 refine G.exit (GQ.thenE (GQ.thenE (GQ.blockE (GQ.blockN (GQ.thenN (YG ?_))))))
 refine Yy (ZaddNh k 1) ?_
 refine GL.nil ?_
 exact Zb ⟨(k+1),((q+43)%64),(D.set q (s,(D.getD q (0,0,0)).2)),rfl,⟨Om,Om⟩,(by rw[List.length_set];exact hDl),(by exact placeN_next hF2 Om _),(by exact pos_step hq2),rfl,rfl⟩ (hs:=rfl)
 refine G.exit (GQ.thenE (GQ.thenE (GQ.blockE (GQ.blockN (GQ.thenN (YG ?_))))))
 refine Yy (ZaddNh s 1) ?_
 refine GL.nil ?_
 exact Zb ⟨(s+1),q,D,rfl,⟨Om,Om⟩,hDl,(placeN_over hF2 Om),(by rw[sumT Om, ←show k=P.getD s 0 by omega];exact hq2),rfl,rfl⟩
 refine G.exit (GQ.thenE (GQ.thenE (GQ.blockE (GQ.thenN (Y5 ?_)))))
 refine Yy (Zne q 0) ?_
 refine Zn ?_
 rw[List.take_of_length_le Om] at hq
 have hq0:q=0:=by rw[hq,show P.sum=64 from hC.sum]
 refine Zc (fun h7=>?_) (fun h7=>?_)
 exfalso;omega
 refine Z7 (Y6 ?_)
 refine Yy (Zf fo_107_11) ?_
 refine Yr (Zl 2 11 ag_5) ?_
 refine Yy (Zq 64 (ZshlWb 1 6) Od) ?_
 refine Z4 ?_
 have hFe:=placeN_end hF Om
 have hSn:NextOK P (cellsF 6 P) S 0:=fun x hx=>by rw[hS x Om];simp
 refine YG ?_
 refine Yy (Zf fo_107_6) ?_
 refine Yr (Zl 2 6 ag_105) ?_
 refine Yy (Zlen un_105) ?_
 refine Zn (G.block ?_)
 refine Zo (fun mz ρ l=>∃u:Nat,∃D:List (Nat × Nat × Nat),∃S:List Nat,mz=64-u∧(u≤64)∧(D.length=64)∧(S.length=256)∧(∀j,j<u→D.getD j (0,0,0)=(tableF 6 P).getD j (0,0,0))∧(∀j,u≤j→j<64→(D.getD j (0,0,0)).1=(cellsF 6 P).getD j 0)∧(NextOK P (cellsF 6 P) S u)∧ρ=[(0,Vp bF 0),(5,Vs b3 0 256 256),(15,Vb 64),(146,Vs b1 0 64 64),(147,Vh 64),(148,Vh u)]∧l=[⟨bF,0,(nats .u32 CN),none⟩,⟨bF,256,(nats .i16 NR),none⟩,⟨bF,518,[r0,r1,r2,Vs b2 0 256 256,Vs b3 0 256 256,r5,Vs b1 0 64 64,r7,r8,r9,Vb n,Va 6,.bool false,r13,r14,r15],none⟩,⟨b1,0,(rows fD D),none⟩,⟨b2,0,(nats .u8 (List.replicate 256 0)),none⟩,⟨b3,0,(nats .u16 S),none⟩]) ⟨0,D,S,rfl,Om,hDl,hSl,(fun j hj=>Om),(fun j h1 h2=>by rw[←map_fst_getD,hFe]),hSn,rfl,rfl⟩ ?_
 rintro _ _ _ ⟨u,D,S,rfl,hu,hDl,hSl,hO,hR,hN2,rfl,rfl⟩
 refine Y5 ?_
 refine Yy (Zlt u 64) ?_
 refine Z4 ?_
 refine Zc (fun h8=>?_) (fun h8=>?_)
 refine Z7 (G.seq (G.block (G.seq ?_)))
 obtain⟨s,k,hT,hs,hsl,hk,hk1,hk2,hk3,hk4,hk5,hk6⟩:=tableF_get hC (u:=u) Om
 have hSs:=hN2 s Om
 have hDu:=hR u (Nat.le_refl _) Om
 have hn31:=ha.at_ s
 have hb7:blen k≤7:=blen_le Om
 have hbp:=blen_pos (show 0<k by omega)
 have hpw:=Nat.pow_pos (n:=6-(blen k-1)) (show 0<2 by decide)
 have hbt:=bits_pos (log:=6) hk1 hk3 Om
 refine YG ?_
 refine Yy (y_ix (q':=u*3) (m:=u) rfl rfl rfl se_105 Om Om) ?_
 refine Yr (r_lda (vs:=fD (D.getD u (0,0,0))) 3 (u*3) rfl rfl rfl ag_173 sz_173 (Nat.zero_add _).symm (rows_at fD_len (0,0,0) Om) rfl) ?_
 refine Ze (Zal zc_173) fun b9=>?_
 refine Ya ?_
 refine Ys (Zsw 0 sz_173) ?_
 refine Y2 ?_
 refine Yy (Zf fo_173_1) ?_
 refine Yr (Zqr s (Zl 0 1 ag_5) (by rw[hDu];exact hs.symm)) ?_
 refine Y2 ?_
 refine Yy (Zx s s se_101) ?_
 refine Yr (Zqr k (r_ld 6 s rfl rfl rfl ag_78 (Nat.zero_add _).symm (nats_get Oy))) ?_
 refine Y2 ?_
 refine Yy (ZaddNb k 1) ?_
 refine Yy (Zx s s se_101) ?_
 refine Ys (Zsu 6 s sz_78) ?_
 refine Z4 ?_
 refine Zh 72 (YS 0 (YS 1 (YS 2 (YS 4 (YS 5 (YE 3 (YF 6 (YS 7 (YS 8 (YS 9 .nil)))) (YF 6 (YS 7 (YF 3 (YS 8 (YS 9 .nil))))))))))) ?_
 refine Yta ?_
 refine Yty (Zf fo_107_11) ?_
 refine Yty (ZcvNc k un_78 un_75) ?_
 refine Ytx (Zl 3 11 ag_5) ?_ ?_
 refine Ztcc [] [] (c_highBits k Om Om) rfl ?_ GT.stop
 refine Yty (ZcvNa (blen k-1) un_75 un_5) ?_
 refine Yty (ZsubNa 6 (blen k-1)) ?_
 refine GT.nil (GQ.thenN (Y5 ?_))
 refine Yy (Zf fo_107_6) ?_
 refine Yr (Zl 3 6 ag_105) ?_
 refine Yy (y_ix (q':=u*3) (m:=u) rfl rfl rfl se_105 Om Om) ?_
 refine Yy (Zf fo_173_2) ?_
 refine Ys (e_st (cs':=rows fD (D.set u ((D.getD u (0,0,0)).1,6-(blen k-1),(D.getD u (0,0,0)).2.2))) 4 (u*3+2) rfl rfl rfl rfl sz_5 rfl (Nat.zero_add _).symm (by rw[rows_length fD_len];first|omega|(simp;omega)) rfl (rows_set1 (e:=2) fD_len (0,0,0) Ou Od rfl)) ?_
 refine Y2 ?_
 refine Yy (ZshlNb k (6-(blen k-1))) ?_
 refine Yy (ZsubNb (k*2^(6-(blen k-1))) 64) ?_
 refine Y3 ?_
 refine Yy (Zge ((k*2^(6-(blen k-1)))-64) 64) ?_
 refine Zn ?_
 refine Zc (fun h10=>?_) (fun h10=>?_)
 exfalso;omega
 refine Z7 (Y6 ?_)
 refine Yy (ZcvNb u un_3 un_78) ?_
 refine Zy (Zeq ((k*2^(6-(blen k-1)))-64) u) ?_
 refine Za 1 ?_
 refine GL.split (t:=194) (p:=(((k*2^(6-(blen k-1)))-64:Nat):Int)=((u:Nat):Int)) rfl (fun heq=>?_) (fun heq=>?_)
 refine Ya ?_
 refine Yy (Zeq (6-(blen k-1)) 0) ?_
 refine Zn ?_
 refine Zc (fun h11=>?_) (fun h11=>?_)
 exfalso;omega
 refine Z7 (YG ?_)
 refine Yy (Zf fo_107_6) ?_
 refine Yr (Zl 3 6 ag_105) ?_
 refine Yy (y_ix (q':=u*3) (m:=u) rfl rfl rfl se_105 Om Om) ?_
 refine Yy (Zf fo_173_0) ?_
 refine Ys (e_st (cs':=rows fD ((D.set u ((D.getD u (0,0,0)).1,6-(blen k-1),(D.getD u (0,0,0)).2.2)).set u (((D.set u ((D.getD u (0,0,0)).1,6-(blen k-1),(D.getD u (0,0,0)).2.2)).getD u (0,0,0)).1,((D.set u ((D.getD u (0,0,0)).1,6-(blen k-1),(D.getD u (0,0,0)).2.2)).getD u (0,0,0)).2.1,(k*2^(6-(blen k-1)))-64))) 4 (u*3) rfl rfl rfl rfl sz_78 rfl (Nat.zero_add _).symm (by rw[rows_length fD_len];first|omega|(simp;omega)) rfl (rows_set1 (e:=0) fD_len (0,0,0) Ou Od rfl)) ?_
 refine GL.nil (GQ.blockN (GQ.thenN (YG ?_)))
 refine Yy (ZaddNh u 1) ?_
 refine GL.nil ?_
 refine GQ.pick [1,1,1,1,1,1] rfl ?_
 exact Zb ⟨(u+1),((D.set u ((D.getD u (0,0,0)).1,6-(blen k-1),(D.getD u (0,0,0)).2.2)).set u (((D.set u ((D.getD u (0,0,0)).1,6-(blen k-1),(D.getD u (0,0,0)).2.2)).getD u (0,0,0)).1,((D.set u ((D.getD u (0,0,0)).1,6-(blen k-1),(D.getD u (0,0,0)).2.2)).getD u (0,0,0)).2.1,(k*2^(6-(blen k-1)))-64)),(S.set s (k+1)),rfl,Om,(by simp;exact hDl),(by rw[List.length_set];exact hSl),(by rw[set_getD Om,if_pos rfl,List.set_set];exact outs_step hO Om (by rw[hT,hDu, ←hs];rfl)),(fun j h1 h2=>by rw[set_other Om,set_other Om];exact hR j Om h2),(by have h9:=hN2.step (by rw[cellsF_length];omega) hs.symm Om Om;rwa [show S.getD s 0+1=k+1 by omega] at h9),rfl,rfl⟩
 refine Ya ?_
 refine Zn (G.condF rfl (Z7 (YG ?_)))
 refine Yy (Zf fo_107_6) ?_
 refine Yr (Zl 3 6 ag_105) ?_
 refine Yy (y_ix (q':=u*3) (m:=u) rfl rfl rfl se_105 Om Om) ?_
 refine Yy (Zf fo_173_0) ?_
 refine Ys (e_st (cs':=rows fD ((D.set u ((D.getD u (0,0,0)).1,6-(blen k-1),(D.getD u (0,0,0)).2.2)).set u (((D.set u ((D.getD u (0,0,0)).1,6-(blen k-1),(D.getD u (0,0,0)).2.2)).getD u (0,0,0)).1,((D.set u ((D.getD u (0,0,0)).1,6-(blen k-1),(D.getD u (0,0,0)).2.2)).getD u (0,0,0)).2.1,(k*2^(6-(blen k-1)))-64))) 4 (u*3) rfl rfl rfl rfl sz_78 rfl (Nat.zero_add _).symm (by rw[rows_length fD_len];first|omega|(simp;omega)) rfl (rows_set1 (e:=0) fD_len (0,0,0) Ou Od rfl)) ?_
 refine GL.nil (GQ.blockN (GQ.thenN (YG ?_)))
 refine Yy (ZaddNh u 1) ?_
 refine GL.nil ?_
 refine GQ.pick [1,1,1,1,1,1] rfl ?_
 exact Zb ⟨(u+1),((D.set u ((D.getD u (0,0,0)).1,6-(blen k-1),(D.getD u (0,0,0)).2.2)).set u (((D.set u ((D.getD u (0,0,0)).1,6-(blen k-1),(D.getD u (0,0,0)).2.2)).getD u (0,0,0)).1,((D.set u ((D.getD u (0,0,0)).1,6-(blen k-1),(D.getD u (0,0,0)).2.2)).getD u (0,0,0)).2.1,(k*2^(6-(blen k-1)))-64)),(S.set s (k+1)),rfl,Om,(by simp;exact hDl),(by rw[List.length_set];exact hSl),(by rw[set_getD Om,if_pos rfl,List.set_set];exact outs_step hO Om (by rw[hT,hDu, ←hs];rfl)),(fun j h1 h2=>by rw[set_other Om,set_other Om];exact hR j Om h2),(by have h9:=hN2.step (by rw[cellsF_length];omega) hs.symm Om Om;rwa [show S.getD s 0+1=k+1 by omega] at h9),rfl,rfl⟩
 refine Ztcc [] [] (c_highBits k Om Om) rfl ?_ GT.stop
 refine Yty (ZcvNa (blen k-1) un_75 un_5) ?_
 refine Ytu (Zl 3 11 ag_5) ?_
 refine Yty (ZsubNa 6 (blen k-1)) ?_
 refine GT.nil (GQ.thenN (Y5 ?_))
 refine Yy (Zf fo_107_6) ?_
 refine Yr (Zl 3 6 ag_105) ?_
 refine Yy (y_ix (q':=u*3) (m:=u) rfl rfl rfl se_105 Om Om) ?_
 refine Yy (Zf fo_173_2) ?_
 refine Ys (e_st (cs':=rows fD (D.set u ((D.getD u (0,0,0)).1,6-(blen k-1),(D.getD u (0,0,0)).2.2))) 4 (u*3+2) rfl rfl rfl rfl sz_5 rfl (Nat.zero_add _).symm (by rw[rows_length fD_len];first|omega|(simp;omega)) rfl (rows_set1 (e:=2) fD_len (0,0,0) Ou Od rfl)) ?_
 refine Y2 ?_
 refine Yy (ZshlNb k (6-(blen k-1))) ?_
 refine Yy (ZsubNb (k*2^(6-(blen k-1))) 64) ?_
 refine Y3 ?_
 refine Yy (Zge ((k*2^(6-(blen k-1)))-64) 64) ?_
 refine Zn ?_
 refine Zc (fun h12=>?_) (fun h12=>?_)
 exfalso;omega
 refine Z7 (Y6 ?_)
 refine Yy (ZcvNb u un_3 un_78) ?_
 refine Zy (Zeq ((k*2^(6-(blen k-1)))-64) u) ?_
 refine Za 1 ?_
 refine GL.split (t:=194) (p:=(((k*2^(6-(blen k-1)))-64:Nat):Int)=((u:Nat):Int)) rfl (fun heq=>?_) (fun heq=>?_)
 refine Ya ?_
 refine Yy (Zeq (6-(blen k-1)) 0) ?_
 refine Zn ?_
 refine Zc (fun h13=>?_) (fun h13=>?_)
 exfalso;omega
 refine Z7 (YG ?_)
 refine Yy (Zf fo_107_6) ?_
 refine Yr (Zl 3 6 ag_105) ?_
 refine Yy (y_ix (q':=u*3) (m:=u) rfl rfl rfl se_105 Om Om) ?_
 refine Yy (Zf fo_173_0) ?_
 refine Ys (e_st (cs':=rows fD ((D.set u ((D.getD u (0,0,0)).1,6-(blen k-1),(D.getD u (0,0,0)).2.2)).set u (((D.set u ((D.getD u (0,0,0)).1,6-(blen k-1),(D.getD u (0,0,0)).2.2)).getD u (0,0,0)).1,((D.set u ((D.getD u (0,0,0)).1,6-(blen k-1),(D.getD u (0,0,0)).2.2)).getD u (0,0,0)).2.1,(k*2^(6-(blen k-1)))-64))) 4 (u*3) rfl rfl rfl rfl sz_78 rfl (Nat.zero_add _).symm (by rw[rows_length fD_len];first|omega|(simp;omega)) rfl (rows_set1 (e:=0) fD_len (0,0,0) Ou Od rfl)) ?_
 refine GL.nil (GQ.blockN (GQ.thenN (YG ?_)))
 refine Yy (ZaddNh u 1) ?_
 refine GL.nil ?_
 refine GQ.pick [1,1,1,1,1,1] rfl ?_
 exact Zb ⟨(u+1),((D.set u ((D.getD u (0,0,0)).1,6-(blen k-1),(D.getD u (0,0,0)).2.2)).set u (((D.set u ((D.getD u (0,0,0)).1,6-(blen k-1),(D.getD u (0,0,0)).2.2)).getD u (0,0,0)).1,((D.set u ((D.getD u (0,0,0)).1,6-(blen k-1),(D.getD u (0,0,0)).2.2)).getD u (0,0,0)).2.1,(k*2^(6-(blen k-1)))-64)),(S.set s (k+1)),rfl,Om,(by simp;exact hDl),(by rw[List.length_set];exact hSl),(by rw[set_getD Om,if_pos rfl,List.set_set];exact outs_step hO Om (by rw[hT,hDu, ←hs];rfl)),(fun j h1 h2=>by rw[set_other Om,set_other Om];exact hR j Om h2),(by have h9:=hN2.step (by rw[cellsF_length];omega) hs.symm Om Om;rwa [show S.getD s 0+1=k+1 by omega] at h9),rfl,rfl⟩
 refine Ya ?_
 refine Zn (G.condF rfl (Z7 (YG ?_)))
 refine Yy (Zf fo_107_6) ?_
 refine Yr (Zl 3 6 ag_105) ?_
 refine Yy (y_ix (q':=u*3) (m:=u) rfl rfl rfl se_105 Om Om) ?_
 refine Yy (Zf fo_173_0) ?_
 refine Ys (e_st (cs':=rows fD ((D.set u ((D.getD u (0,0,0)).1,6-(blen k-1),(D.getD u (0,0,0)).2.2)).set u (((D.set u ((D.getD u (0,0,0)).1,6-(blen k-1),(D.getD u (0,0,0)).2.2)).getD u (0,0,0)).1,((D.set u ((D.getD u (0,0,0)).1,6-(blen k-1),(D.getD u (0,0,0)).2.2)).getD u (0,0,0)).2.1,(k*2^(6-(blen k-1)))-64))) 4 (u*3) rfl rfl rfl rfl sz_78 rfl (Nat.zero_add _).symm (by rw[rows_length fD_len];first|omega|(simp;omega)) rfl (rows_set1 (e:=0) fD_len (0,0,0) Ou Od rfl)) ?_
 refine GL.nil (GQ.blockN (GQ.thenN (YG ?_)))
 refine Yy (ZaddNh u 1) ?_
 refine GL.nil ?_
 refine GQ.pick [1,1,1,1,1,1] rfl ?_
 exact Zb ⟨(u+1),((D.set u ((D.getD u (0,0,0)).1,6-(blen k-1),(D.getD u (0,0,0)).2.2)).set u (((D.set u ((D.getD u (0,0,0)).1,6-(blen k-1),(D.getD u (0,0,0)).2.2)).getD u (0,0,0)).1,((D.set u ((D.getD u (0,0,0)).1,6-(blen k-1),(D.getD u (0,0,0)).2.2)).getD u (0,0,0)).2.1,(k*2^(6-(blen k-1)))-64)),(S.set s (k+1)),rfl,Om,(by simp;exact hDl),(by rw[List.length_set];exact hSl),(by rw[set_getD Om,if_pos rfl,List.set_set];exact outs_step hO Om (by rw[hT,hDu, ←hs];rfl)),(fun j h1 h2=>by rw[set_other Om,set_other Om];exact hR j Om h2),(by have h9:=hN2.step (by rw[cellsF_length];omega) hs.symm Om Om;rwa [show S.getD s 0+1=k+1 by omega] at h9),rfl,rfl⟩
 refine G.exit (GQ.thenE (GQ.thenE (GQ.blockE (GQ.thenN (Y5 ?_)))))
 refine Zn (G.ret ?_)
 repeat first|refine ZR ?_|refine ZB ?_
 exact ret1 [0,1,1,1] rfl rfl rfl (⟨_,_,_,rfl,by rw[outs_done (T:=D) (F:=tableF 6 P) hO (by rw[hDl,tableF_length]) Om]⟩)
theorem c_f_prepare (bF bH oH:Nat) (CN:List Nat) (c0 c1 r0 r1 r2 r3 r4 r5 r6 r7 r10 r11 r12:Value) (q:Option Addr) (n c:Nat):Con Tryz.prog 54 [Vp bF 0,.slice q n c] [⟨bF,0,(nats .u32 CN),none⟩,⟨bF,512,[c0,c1],none⟩,⟨bF,518,[r0,r1,r2,r3,r4,r5,r6,r7,Vs bH oH 256 256,Vh 255,r10,r11,r12,.bool false,Va 0,Va 0],none⟩] [] (fun v l'=>v=.tuple #[Vp bF 0,.nilIface]∧l'=[⟨bF,0,(nats .u32 CN),none⟩,⟨bF,512,[.slice q n c,Vh 0],none⟩,⟨bF,518,[r0,r1,r2,r3,r4,r5,r6,r7,Vs bH oH 256 256,Vh 255,r10,r11,r12,.bool false,Va 255,Va 11],none⟩]):=by
 refine Zi Tryz.func54 rfl fun w0=>?_
 refine Y5 ?_
 refine Y3 ?_
 refine Yy (y_eqPtrNil rfl rfl un_86) ?_
 refine Zn (G.condF rfl (Z7 (Y6 ?_)))
 refine Yy (Zf fo_107_14) ?_
 refine Yr (Zl 2 14 ag_5) ?_
 refine Yy (Zeq 0 0) ?_
 refine Zn ?_
 refine G.condDT rfl Od ?_
 refine YG ?_
 refine Yy (Zf fo_107_14) ?_
 refine Ys (Zst 2 14 sz_5) ?_
 refine Y3 ?_
 refine Yy (Zf fo_107_15) ?_
 refine Yr (Zl 2 15 ag_5) ?_
 refine Yy (Zeq 0 0) ?_
 refine Zn ?_
 refine G.condDT rfl Od ?_
 refine YG ?_
 refine Yy (Zf fo_107_15) ?_
 refine Ys (Zst 2 15 sz_5) ?_
 refine Y3 ?_
 refine Yy (Zf fo_107_15) ?_
 refine Yr (Zl 2 15 ag_5) ?_
 refine Yy (Zgt 11 12) ?_
 refine Zn ?_
 refine G.condDF rfl Od ?_
 refine Z7 (Y6 ?_)
 refine Yy (Zf fo_107_8) ?_
 refine Yr (Zl 2 8 ag_22) ?_
 refine Yy (y_cap rfl rfl rfl rfl un_22) ?_
 refine Yy (Zeq 256 0) ?_
 refine Zn ?_
 refine G.condDF rfl Od ?_
 refine Z7 (Y6 ?_)
 refine Yy (Zf fo_107_13) ?_
 refine Yr (Zl 2 13 ag_4) ?_
 refine Zn (G.condF rfl (Y8 ?_))
 refine Yy (Zf fo_107_2) ?_
 refine Zcc [1] [] (c_b_init _ _ _ _ _ bF 512 none) rfl ?_
 refine Y3 ?_
 refine Yy (Zf fo_107_9) ?_
 refine Yr (Zl 2 9 ag_3) ?_
 refine Yy (Zeq 255 0) ?_
 refine Zn ?_
 refine G.condDF rfl Od ?_
 refine Y8 ?_
 refine Zn (G.ret ?_)
 repeat first|refine ZR ?_|refine ZB ?_
 exact ret2 [1,0,0] rfl rfl rfl rfl (⟨rfl,rfl⟩)
set_option maxHeartbeats 4000000 in
theorem c_readN (bi so:Nat) (shi:Shp) (xs:List Nat) (ki li ci:Nat) (hci:li≤ci) (hk:ki+li≤xs.length) (hz:xs.length≤1152921504606846976) (hb:Bytes xs) (bF:Nat) (CN NR:List Nat) (r0 r1 r2 r3 r4 r5 r6 r7 r8 r9 r10 r11 r12 r13 r14 r15:Value) (hN:NR.length=256) (ys cs E:List Nat) (hyb:Bytes ys) (hye:tailV xs ki li=tailV ys 0 li) (hl4:4≤li) (hD:Descr 64 cs E) (hcl:cs.length≤13) (ha63:AllLe cs 63) (hL:Low ys li 0 (lowB 1 4++E)):Con Tryz.prog 55 [Vp bF 0] [⟨bF,0,(nats .u32 CN),none⟩,⟨bF,256,(nats .i16 NR),none⟩,⟨bF,512,[Vs bi (so+ki) li ci,Vh 0],none⟩,⟨bF,518,[r0,r1,r2,r3,r4,r5,r6,r7,r8,r9,r10,r11,r12,r13,r14,r15],none⟩] [⟨bi,so,(nats .u8 xs),shi⟩] (fun v l'=>∃NR' P,v=.nilIface∧NR'.length=256∧NR'.take P.length=P∧(∃c',cs=P++c')∧P.sum=64∧l'=[⟨bF,0,(nats .u32 CN),none⟩,⟨bF,256,(nats .i16 NR'),none⟩,⟨bF,512,[Vs bi (so+ki) li ci,Vh ((4+E.length+7)/8)],none⟩,⟨bF,518,[r0,r1,r2,r3,r4,r5,r6,r7,r8,r9,Vb P.length,Va 6,r12,r13,r14,r15],none⟩]):=by
 refine Zi Tryz.func55 rfl fun w0=>?_
 refine Y5 ?_
 refine Y2 ?_
 refine Y2 ?_
 refine Y2 ?_
 refine Yy (Zf fo_107_2) ?_
 refine Y2 ?_
 refine Yr (Zla 2 0 ag_95 sz_95) ?_
 refine Zcc [] [4] (c_b_remain bi so shi xs ki li ci Om Om Om 0 Om) rfl ?_
 refine Ya ?_
 refine Y3 ?_
 refine Yy (Zlt (li-0) 4) ?_
 refine Zn ?_
 refine G.condDF rfl Om ?_
 refine Y8 ?_
 refine Yr (Zla 2 0 ag_95 sz_95) ?_
 refine Zcc [] [4] (c_b_Uint32 bi so shi xs ki li ci Om Om Om 0 Oa Om) rfl ?_
 refine Ya ?_
 refine Z4 ?_
 have hlt0:=le32_lt hb ki
 have hw4:le32 xs ki&&&15=1:=by have h9:=hL.front (k:=ki) (off:=0) (c:=0) (lowB_bits 1 4) hb hye Om rfl (by rw[lowB_length];omega);rw[lowB_length,lowV_lowB] at h9;rw[and15];simpa using h9
 obtain⟨w0_,hw0_⟩:∃z,z=le32 xs ki:=⟨_,rfl⟩
 refine YG ?_
 refine Yy (Zq 1 (ZandNc (le32 xs (ki)) 15) hw4) ?_
 refine Yy (Zq 6 (ZaddNc 1 5) Od) ?_
 refine Yy (ZcvNd 6 un_75 un_39) ?_
 refine Y3 ?_
 refine Yy (Zgt 6 15) ?_
 refine Zn ?_
 refine G.condDF rfl Od ?_
 refine Y8 ?_
 refine Yy (ZshrNc (le32 xs (ki)) 4) ?_
 refine Y2 ?_
 refine Y2 ?_
 refine Yy (ZcvNa 6 un_39 un_5) ?_
 refine Yy (Zf fo_107_11) ?_
 refine Ys (Zst 3 11 sz_5) ?_
 refine Y2 ?_
 refine Yy (Zq 64 (ZshlNg 1 6) Od) ?_
 refine Yy (Zq 65 (ZaddNg 64 1) Od) ?_
 refine Y2 ?_
 refine Yy (Zq 64 (ZshlNg 1 6) Od) ?_
 refine Y2 ?_
 refine Y2 ?_
 refine Yy (Zq 7 (ZaddNd 6 1) Od) ?_
 refine Z4 (G.block ?_)
 refine Zo (fun mz ρ l=>∃cn:Nat,∃pz:Bool,∃w nb c rem th g off:Nat,∃NR2 cr er:List Nat,mz=2*cr.length∧(Pend pz (rem-1) cr er)∧(Low ys li (8*off+c) er)∧(w=le32 xs (ki+off)/2^(c%32))∧((c≤7∨off+4=li)∧off+4≤li∧c≤32)∧(th=2^(nb-1)∧nb=blen rem)∧(1≤rem∧rem≤65∧g+rem=65)∧(NR2.take cn++cr=cs∧(NR2.take cn).sum+rem=65)∧(NR2.length=256)∧(8*off+c+er.length=4+E.length)∧ρ=[(0,Vp bF 0),(3,Vb cn),(4,.bool pz),(5,Vp bF 512),(6,Vh (li-0)),(7,Vc w),(8,Vd nb),(9,Vd c),(10,Vg rem),(11,Vg th),(12,Vg g)]∧l=[⟨bF,0,(nats .u32 CN),none⟩,⟨bF,256,(nats .i16 NR2),none⟩,⟨bF,512,[Vs bi (so+ki) li ci,Vh off],none⟩,⟨bF,518,[r0,r1,r2,r3,r4,r5,r6,r7,r8,r9,r10,Va 6,r12,r13,r14,r15],none⟩]) ⟨0,false,((le32 xs (ki))/2^4),7,4,65,64,0,0,NR,cs,E,rfl,(.inl ⟨rfl,hD⟩),(((hL.take hyb).2.1).at_ Om),rfl,⟨.inl Om,Om,Om⟩,⟨Od,Od⟩,Om,⟨rfl,rfl⟩,hN,Om,rfl,rfl⟩ ?_
 rintro _ _ _ ⟨cn,pz,w,nb,c,rem,th,g,off,NR2,cr,er,rfl,hd,hL2,hw,hc,hth,hr,hP,hNl,ha,rfl,rfl⟩
 refine G.seq (G.seq ?_)
 have hlen:=congrArg List.length hP.1
 rw[List.length_append,List.length_take,hNl] at hlen
 have hL20:=hL2.1
 have hb7:blen rem≤7:=blen_le (k:=7) Om
 have hbp:=blen_pos (show 0<rem by omega)
 have hbl:=blen_lt rem
 have hlt1:=le32_lt hb (ki+off)
 have hwlt:=div_lt32 hw hlt1
 have hp2:2^nb=2*th:=by rw[hth.1];exact pow_pred Om
 have hth64:th≤2^6:=by rw[hth.1];exact Nat.pow_le_pow_right Om Om
 rw[←hth.2] at hbl
 have hth0:1≤th:=by rw[hth.1];exact Nat.pow_pos Om
 refine YG ?_
 refine Yy (Zgt rem 1) ?_
 refine Zn ?_
 refine Zc (fun h1=>?_) (fun h1=>?_)
 refine Z7 (G.block (Y6 ?_))
 refine Zn ?_
 refine G.meetK (fun ρ l=>∃cn2 w2 c2 off2:Nat,∃NR3 cr2 er2:List Nat,(Descr (rem-1) cr2 er2)∧(Low ys li (8*off2+c2) er2)∧(w2=le32 xs (ki+off2)/2^c2)∧((c2≤20∨off2+4=li)∧off2+4≤li∧c2≤31)∧(NR3.take cn2++cr2=cs∧(NR3.take cn2).sum+rem=65)∧(NR3.length=256)∧(8*off2+c2+er2.length=4+E.length)∧(cr2.length≤cr.length∧cn2+cr2.length=cs.length)∧ρ=[(0,Vp bF 0),(3,Vb cn2),(4,.bool pz),(5,Vp bF 512),(6,Vh (li-0)),(7,Vc w2),(8,Vd nb),(9,Vd c2),(10,Vg rem),(11,Vg th),(12,Vg g),(53,.bool pz)]∧l=[⟨bF,0,(nats .u32 CN),none⟩,⟨bF,256,(nats .i16 NR3),none⟩,⟨bF,512,[Vs bi (so+ki) li ci,Vh off2],none⟩,⟨bF,518,[r0,r1,r2,r3,r4,r5,r6,r7,r8,r9,r10,Va 6,r12,r13,r14,r15],none⟩]) ?_ ?_
 refine G.cond rfl (fun h3=>?_) (fun h3=>?_)
 obtain⟨hrl,z,cz,t2,b2,hez,hcz,hdz⟩:=(hd.resolve_left (fun h=>Bool.noConfusion (h3.symm.trans h.1))).2
 rw[hez] at hL2 ha hL20
 rw[List.length_append] at ha hL20
 have hczl:=congrArg List.length hcz
 rw[List.length_append,List.length_replicate,List.length_cons] at hczl
 have hzl:=zer_len z
 have hc32:c%32=c:=Nat.mod_eq_of_lt Om
 rw[hc32] at hw
 have hwz:w%2^(zerosB z).length=lowV (zerosB z):=by rw[hw];exact hL2.front (zerosB_bits z) hb hye Om rfl Om
 have hn16:=zer_not16 hwz Om
 have hLz:=hL2.skip (zerosB_bits z)
 have hLz1:=hLz.1
 obtain⟨ne,te,be,hEe,_,_,_⟩:=hdz.inv Om
 have hele:=encV_len (most:=rem-1+1) (v:=ne+1)
 have hbge:2≤blen (rem-1+1):=by rw[show rem-1+1=rem by omega];exact Nat.lt_of_not_le fun h9=>by have:=Nat.pow_le_pow_right (show 0<2 by omega) h9;have:=blen_lt rem;omega
 have hbe:=congrArg List.length hEe
 rw[List.length_append] at hbe
 refine Y5 ?_
 refine Z4 (G.block ?_)
 refine Zo (fun mz ρ l=>mz=0∧ρ=[(0,Vp bF 0),(3,Vb cn),(4,.bool pz),(5,Vp bF 512),(6,Vh (li-0)),(7,Vc w),(8,Vd nb),(9,Vd c),(10,Vg rem),(11,Vg th),(12,Vg g),(13,Vb cn),(53,.bool pz)]∧l=[⟨bF,0,(nats .u32 CN),none⟩,⟨bF,256,(nats .i16 NR2),none⟩,⟨bF,512,[Vs bi (so+ki) li ci,Vh off],none⟩,⟨bF,518,[r0,r1,r2,r3,r4,r5,r6,r7,r8,r9,r10,Va 6,r12,r13,r14,r15],none⟩]) ⟨rfl,rfl,rfl⟩ ?_
 rintro _ _ _ ⟨rfl,rfl,rfl⟩
 refine Y6 ?_
 refine Yy (Zq (w%65536) (ZandNc w 65535) (and16 w)) ?_
 refine Yy (Zeq (w%65536) 65535) ?_
 refine Zn ?_
 refine G.condDF rfl Om ?_
 refine G.exit (GQ.thenE (GQ.thenE (GQ.blockE (GQ.thenN (G.seq (G.block ?_))))))
 refine Zo (fun mz ρ l=>∃n0 w3 c3 y:Nat,mz=2*y∧(n0+y=cn+z∧y≤z)∧(c3+(zerosB y).length=c+(zerosB z).length)∧(w3%2^(zerosB y).length=lowV (zerosB y))∧(w3=le32 xs (ki+off)/2^c3)∧ρ=[(0,Vp bF 0),(3,Vb cn),(4,.bool pz),(5,Vp bF 512),(6,Vh (li-0)),(7,Vc w3),(8,Vd nb),(9,Vd c3),(10,Vg rem),(11,Vg th),(12,Vg g),(13,Vb n0),(53,.bool pz)]∧l=[⟨bF,0,(nats .u32 CN),none⟩,⟨bF,256,(nats .i16 NR2),none⟩,⟨bF,512,[Vs bi (so+ki) li ci,Vh off],none⟩,⟨bF,518,[r0,r1,r2,r3,r4,r5,r6,r7,r8,r9,r10,Va 6,r12,r13,r14,r15],none⟩]) ⟨cn,w,c,z,rfl,⟨rfl,Nat.le_refl _⟩,rfl,hwz,hw,rfl,rfl⟩ ?_ (hs:=rfl)
 rintro _ _ _ ⟨n0,w3,c3,y,rfl,hy,hcy,hwy,hw3,rfl,rfl⟩
 have hw3l:=div_lt32 hw3 hlt1
 have hzy:=zer_win hwy
 have hzyl:=zer_len y
 refine Y6 ?_
 refine Yy (Zq (w3%4) (ZandNc w3 3) (and3 w3)) ?_
 refine Yy (Zeq (w3%4) 3) ?_
 refine Zn ?_
 refine Zc (fun h6=>?_) (fun h6=>?_)
 have hzy2:=hzy.resolve_right (fun h=>by have:=h.1;have:=h.2.1;omega)
 refine Z7 (G.block (Y5 ?_))
 refine Yy (ZaddNb n0 3) ?_
 refine Y2 ?_
 refine Yy (ZshrNc w3 2) ?_
 refine Y1 ?_
 refine Yy (ZaddNd c3 2) ?_
 refine GL.nil (GQ.blockN ?_)
 exact Zb ⟨(n0+3),(w3/2^2),(c3+2),y-3,rfl,Om,Om,hzy2.2.2.1,(div_step _ _ _ hw3),rfl,rfl⟩ (hs:=rfl)
 have hzy2:=hzy.resolve_left (fun h=>by have:=h.2.1;omega)
 refine G.exit (GQ.thenE (GQ.thenE (GQ.blockE (GQ.thenN (Y5 ?_)))))
 refine Yy (Zq y (ZandNc w3 3) (by rw[and3];exact hzy2.2.1)) ?_
 refine Yy (ZcvNb y un_75 un_78) ?_
 refine Yy (Zq (cn+z) (ZaddNb n0 y)) ?_
 refine Y2 ?_
 refine Yy (ZaddNd c3 2) ?_
 refine Y3 ?_
 refine Yy (Zgt (cn+z) 255) ?_
 refine Zn ?_
 refine G.condDF rfl Om ?_
 refine Z7 (G.seq (G.block ?_))
 refine Zo (fun mz ρ l=>∃cn4:Nat,∃NR4:List Nat,mz=cn+z-cn4∧(cn≤cn4∧cn4≤cn+z)∧(NR4.length=256)∧(NR4.take cn4=NR2.take cn++List.replicate (cn4-cn) 0)∧ρ=[(0,Vp bF 0),(3,Vb cn4),(4,.bool pz),(5,Vp bF 512),(6,Vh (li-0)),(7,Vc w3),(8,Vd nb),(9,Vd (c3+2)),(10,Vg rem),(11,Vg th),(12,Vg g),(13,Vb (cn+z)),(53,.bool pz)]∧l=[⟨bF,0,(nats .u32 CN),none⟩,⟨bF,256,(nats .i16 NR4),none⟩,⟨bF,512,[Vs bi (so+ki) li ci,Vh off],none⟩,⟨bF,518,[r0,r1,r2,r3,r4,r5,r6,r7,r8,r9,r10,Va 6,r12,r13,r14,r15],none⟩]) ⟨cn,NR2,rfl,Om,hNl,Oi,rfl,rfl⟩ ?_
 rintro _ _ _ ⟨cn4,NR4,rfl,h4,hN4,hT4,rfl,rfl⟩
 refine Y6 ?_
 refine Yy (Zlt cn4 (cn+z)) ?_
 refine Zn ?_
 refine Zc (fun h2=>?_) (fun h2=>?_)
 refine Z7 (G.block (Y5 ?_))
 refine Yy (Zq cn4 (ZandNb cn4 255) (and255 Om)) ?_
 refine Yy (Zf fo_107_1) ?_
 refine Yy (Zxb (256+cn4) cn4 ae_93) ?_
 refine Ys (Zsu 1 cn4 sz_92) ?_
 refine Y1 ?_
 refine Yy (ZaddNb cn4 1) ?_
 refine GL.nil (GQ.blockN ?_)
 exact Zb ⟨(cn4+1),(NR4.set cn4 0),rfl,Om,(by rw[List.length_set];exact hN4),(by rw[take_set_snoc Om,hT4,List.append_assoc,show cn4+1-cn=(cn4-cn)+1 by omega,List.replicate_succ']),rfl,rfl⟩
 refine G.exit (GQ.thenE (GQ.thenE (GQ.blockE (GQ.thenN (Y5 ?_)))))
 refine Yy (Zf fo_95_1) ?_
 refine Yr (Zl 2 1 ag_3) ?_
 refine Yy (subI_i64 (a:=((li-0:Nat):Int)) (b:=((7:Nat):Int)) rfl rfl rfl Om) ?_
 refine Zy (y_le (a:=((off:Nat):Int)) (b:=(((li-0:Nat):Int)-((7:Nat):Int))) rfl rfl rfl) ?_
 refine Za 1 ?_
 refine GL.split (t:=116) (p:=((off:Nat):Int)≤(((li-0:Nat):Int)-((7:Nat):Int))) rfl (fun h39=>?_) (fun h39=>?_)
 refine Ya ?_
 refine Zn (G.condT rfl (Y5 ?_))
 refine Yy (ZshrNd (c3+2) 3) ?_
 refine Zcc [2] [] (c_b_advance (Vs bi (so+ki) li ci) bF 512 none off ((c3+2)/2^3) Om) rfl ?_
 refine Y2 ?_
 refine Yy (Zq ((c3+2)%8) (ZandNd (c3+2) 7) (and7 _)) ?_
 refine Zn ?_
 have hlt9:=le32_lt hb (ki+(off+((c3+2)/2^3)))
 refine YG ?_
 refine Yr (Zla 0 0 ag_95 sz_95) ?_
 refine Zcc [] [4] (c_b_Uint32 bi so shi xs ki li ci Om Om Om (off+((c3+2)/2^3)) Oa Om) rfl ?_
 refine Ya ?_
 refine Yy (ZshrNc (le32 xs (ki+(off+((c3+2)/2^3)))) ((c3+2)%8)) ?_
 refine GL.nil ?_
 refine GQ.pick [1,1,0,0] rfl ?_
 exact Zm ⟨cn4,((le32 xs (ki+(off+((c3+2)/2^3))))/2^((c3+2)%8)),((c3+2)%8),(off+((c3+2)/2^3)),NR4,(cz::t2),b2,hdz,(hLz.at_ Om),(by first|rfl|exact div_step _ _ _ hw3),Om,⟨by rw[hT4, ←hP.1,hcz,show cn4-cn=z by omega,List.append_assoc],by rw[hT4,List.sum_append,List.sum_replicate_nat,Nat.mul_zero];exact hP.2⟩,hN4,Om,(by rw[List.length_cons];omega),rfl,rfl⟩ (hs:=rfl)
 refine Ya ?_
 refine Yy (Zf fo_95_1) ?_
 refine Yr (Zl 2 1 ag_3) ?_
 refine Yy (ZshrNd (c3+2) 3) ?_
 refine Yy (ZcvNh ((c3+2)/2^3) un_39 un_3) ?_
 refine Yy (ZaddNh off ((c3+2)/2^3)) ?_
 refine Yy (ZsubNh (li-0) 4) ?_
 refine Yy (Zle (off+((c3+2)/2^3)) ((li-0)-4)) ?_
 refine Zn ?_
 refine Zc (fun h9_=>?_) (fun h9_=>?_)
 refine Y5 ?_
 refine Yy (ZshrNd (c3+2) 3) ?_
 refine Zcc [2] [] (c_b_advance (Vs bi (so+ki) li ci) bF 512 none off ((c3+2)/2^3) Om) rfl ?_
 refine Y2 ?_
 refine Yy (Zq ((c3+2)%8) (ZandNd (c3+2) 7) (and7 _)) ?_
 refine Zn ?_
 have hlt9:=le32_lt hb (ki+(off+((c3+2)/2^3)))
 refine YG ?_
 refine Yr (Zla 0 0 ag_95 sz_95) ?_
 refine Zcc [] [4] (c_b_Uint32 bi so shi xs ki li ci Om Om Om (off+((c3+2)/2^3)) Oa Om) rfl ?_
 refine Ya ?_
 refine Yy (ZshrNc (le32 xs (ki+(off+((c3+2)/2^3)))) ((c3+2)%8)) ?_
 refine GL.nil ?_
 refine GQ.pick [1,1,0,0] rfl ?_
 exact Zm ⟨cn4,((le32 xs (ki+(off+((c3+2)/2^3))))/2^((c3+2)%8)),((c3+2)%8),(off+((c3+2)/2^3)),NR4,(cz::t2),b2,hdz,(hLz.at_ Om),(by first|rfl|exact div_step _ _ _ hw3),Om,⟨by rw[hT4, ←hP.1,hcz,show cn4-cn=z by omega,List.append_assoc],by rw[hT4,List.sum_append,List.sum_replicate_nat,Nat.mul_zero];exact hP.2⟩,hN4,Om,(by rw[List.length_cons];omega),rfl,rfl⟩ (hs:=rfl)
 refine YG ?_
 refine Yy (ZshrNc w3 2) ?_
 refine GL.nil ?_
 exact Zm ⟨cn4,(w3/2^2),(c3+2),off,NR4,(cz::t2),b2,hdz,(hLz.at_ Om),(by first|rfl|exact div_step _ _ _ hw3),Om,⟨by rw[hT4, ←hP.1,hcz,show cn4-cn=z by omega,List.append_assoc],by rw[hT4,List.sum_append,List.sum_replicate_nat,Nat.mul_zero];exact hP.2⟩,hN4,Om,(by rw[List.length_cons];omega),rfl,rfl⟩ (hs:=rfl)
 have hd1:Descr (rem-1) cr er:=(hd.resolve_right (fun h=>Bool.noConfusion (h.1.symm.trans h3))).2
 obtain⟨ne,te,be,hEe,_,_,_⟩:=hd1.inv Om
 have hele:=encV_len (most:=rem-1+1) (v:=ne+1)
 have hbge:2≤blen (rem-1+1):=by rw[show rem-1+1=rem by omega];exact Nat.lt_of_not_le fun h9=>by have:=Nat.pow_le_pow_right (show 0<2 by omega) h9;have:=blen_lt rem;omega
 have hbe:=congrArg List.length hEe
 rw[List.length_append] at hbe
 have hc32:c%32=c:=Nat.mod_eq_of_lt Om
 refine G.skip ?_
 exact Zm ⟨cn,w,c,off,NR2,cr,er,hd1,hL2,(by rw[hw,hc32]),Om,hP,hNl,Om,Om,rfl,rfl⟩
 rintro _ _ ⟨cn2,w2,c2,off2,NR3,cr2,er2,hd2,hL3,hw2,hc2,hP3,hNl3,ha3,hcn,rfl,rfl⟩
 refine GQ.thenN (G.seq ?_)
 obtain⟨n,t,b,hE,hcr,hnl,hcase⟩:=hd2.inv Om
 rw[show rem-1+1=rem by omega] at hE
 rw[hE] at hL3 ha3
 rw[List.length_append] at ha3
 have hLb:=hL3.skip (encV_bits _ _)
 have hL31:=hL3.1
 rw[List.length_append] at hL31
 have hel:=encV_len (most:=rem) (v:=n+1)
 have hcrl:cr2.length=t.length+1:=by rw[hcr];rfl
 have hwv:w2%2^(encV rem (n+1)).length=lowV (encV rem (n+1)):=by rw[hw2];exact hL3.front (encV_bits _ _) hb hye Om rfl Om
 have hew:=encV_win hwv Om Om
 rw[←hth.2] at hew
 have hw2l:=div_lt32 hw2 (le32_lt hb (ki+off2))
 refine YG ?_
 refine Yy (ZmulNg 2 th) ?_
 refine Yy (ZsubNg (2*th) 1) ?_
 refine Yy (ZsubNg ((2*th)-1) rem) ?_
 refine Y2 ?_
 refine Y3 ?_
 refine Yy (y_cv0 rfl un_75 un_21 rfl) ?_
 refine Yy (ZsubNg th 1) ?_
 refine Yy (andW_i32 (w:=w2) (m:=th-1) (n:=nb-1) rfl rfl rfl Om Om) ?_
 refine Yy (Zlt (w2%2^(nb-1)) (((2*th)-1)-rem)) ?_
 refine Zn ?_
 refine G.meetK (fun ρ l=>∃ct c5:Nat,(ct=n+1)∧(c5=c2+(encV rem (n+1)).length)∧ρ=[(0,Vp bF 0),(3,Vb cn2),(4,.bool pz),(5,Vp bF 512),(6,Vh (li-0)),(7,Vc w2),(8,Vd nb),(9,Vd c5),(10,Vg rem),(11,Vg th),(12,Vg g),(14,Vg (((2*th)-1)-rem)),(15,Vg ct),(154,.bool (decide (((w2%2^(nb-1):Nat):Int)<((((2*th)-1)-rem:Nat):Int))))]∧l=[⟨bF,0,(nats .u32 CN),none⟩,⟨bF,256,(nats .i16 NR3),none⟩,⟨bF,512,[Vs bi (so+ki) li ci,Vh off2],none⟩,⟨bF,518,[r0,r1,r2,r3,r4,r5,r6,r7,r8,r9,r10,Va 6,r12,r13,r14,r15],none⟩]) ?_ ?_
 refine Zc (fun h10=>?_) (fun h10=>?_)
 have hv:=hew.resolve_right (fun h=>by have:=h.1;omega)
 refine Y5 ?_
 refine Yy (y_cv0 rfl un_75 un_21 rfl) ?_
 refine Yy (ZsubNg th 1) ?_
 refine Yy (andW_i32 (w:=w2) (m:=th-1) (n:=nb-1) rfl rfl rfl Om Om) ?_
 refine Y1 ?_
 refine Yy (ZsubNd nb 1) ?_
 refine Yy (ZaddNd c2 (nb-1)) ?_
 refine GL.nil ?_
 exact Zm ⟨(w2%2^(nb-1)),(c2+(nb-1)),Om,Om,rfl,rfl⟩
 have hv:=hew.resolve_left (fun h=>by have:=h.1;omega)
 have hv1:=hv.1
 have hv2:=hv.2.1
 have hv3:=hv.2.2
 refine Y5 ?_
 refine Yy (y_cv0 rfl un_75 un_21 rfl) ?_
 refine Yy (ZmulNg 2 th) ?_
 refine Yy (ZsubNg (2*th) 1) ?_
 refine Yy (andW_i32 (w:=w2) (m:=(2*th)-1) (n:=nb) rfl rfl rfl Om Om) ?_
 refine Y3 ?_
 refine Yy (Zge (w2%2^nb) th) ?_
 refine Zn ?_
 refine Zc (fun h3=>?_) (fun h3=>?_)
 refine YG ?_
 refine Yy (ZsubNg (w2%2^nb) (((2*th)-1)-rem)) ?_
 refine Y1 ?_
 refine Yy (ZaddNd c2 nb) ?_
 refine GL.nil ?_
 exact Zm ⟨((w2%2^nb)-(((2*th)-1)-rem)),(c2+nb),Om,Om,rfl,rfl⟩
 refine Z7 (YG ?_)
 refine Yy (ZaddNd c2 nb) ?_
 refine GL.nil ?_
 exact Zm ⟨(w2%2^nb),(c2+nb),Om,Om,rfl,rfl⟩
 rintro _ _ ⟨ct,c5,hct,hc5,rfl,rfl⟩
 refine GQ.thenN (Y5 ?_)
 refine Yy (Zq n (ZsubNg ct 1)) ?_
 refine Y3 ?_
 refine Yy (Zlt n 0) ?_
 refine Zn ?_
 refine G.condDF rfl Om ?_
 refine Y5 ?_
 refine Yy (ZsubNg rem n) ?_
 refine Y1 ?_
 refine Yy (ZaddNg g n) ?_
 refine Y3 ?_
 refine Yy (Zgt n 32767) ?_
 refine Zn ?_
 refine G.condDF rfl Om ?_
 refine Y8 ?_
 refine Yy (Zq cn2 (ZandNb cn2 255) (and255 Om)) ?_
 refine Yy (ZcvNf n un_21 un_92) ?_
 refine Yy (Zf fo_107_1) ?_
 refine Yy (Zxb (256+cn2) cn2 ae_93) ?_
 refine Ys (Zsu 1 cn2 sz_92) ?_
 refine Y2 ?_
 refine Yy (ZaddNb cn2 1) ?_
 refine Y2 ?_
 refine Yy (Zeq n 0) ?_
 refine Z4 (G.block ?_)
 refine Zo (fun mz ρ l=>∃nb2 th2:Nat,mz=2*nb2∧(th2=2^(nb2-1)∧1≤nb2∧nb2≤7∧th2≤64)∧(rem-n<2^nb2)∧ρ=[(0,Vp bF 0),(3,Vb (cn2+1)),(4,.bool (decide (((n:Nat):Int)=((0:Nat):Int)))),(5,Vp bF 512),(6,Vh (li-0)),(7,Vc w2),(8,Vd nb2),(9,Vd c5),(10,Vg (rem-n)),(11,Vg th2),(12,Vg (g+n))]∧l=[⟨bF,0,(nats .u32 CN),none⟩,⟨bF,256,(nats .i16 (NR3.set cn2 n)),none⟩,⟨bF,512,[Vs bi (so+ki) li ci,Vh off2],none⟩,⟨bF,518,[r0,r1,r2,r3,r4,r5,r6,r7,r8,r9,r10,Va 6,r12,r13,r14,r15],none⟩]) ⟨nb,th,rfl,⟨hth.1,Om,Om,Om⟩,Om,rfl,rfl⟩ ?_
 rintro _ _ _ ⟨nb2,th2,rfl,ht2,hr2,rfl,rfl⟩
 refine Y6 ?_
 refine Yy (Zlt (rem-n) th2) ?_
 refine Zn ?_
 refine Zc (fun h14=>?_) (fun h14=>?_)
 have hhp:=half_pow (r:=rem-n) ht2.1 Om Om
 refine Z7 (G.block (Y5 ?_))
 refine Yy (ZsubNd nb2 1) ?_
 refine Y1 ?_
 refine Yy (ZshrNg th2 1) ?_
 refine GL.nil (GQ.blockN ?_)
 exact Zb ⟨(nb2-1),(th2/2^1),rfl,⟨hhp.2,Om,Om,Om⟩,(by rw[ht2.1] at h14;omega),rfl,rfl⟩
 refine G.exit (GQ.thenE (GQ.thenE (GQ.blockE (GQ.thenN (Y6 ?_)))))
 refine Yy (Zf fo_95_1) ?_
 refine Yr (Zl 2 1 ag_3) ?_
 refine Yy (subI_i64 (a:=((li-0:Nat):Int)) (b:=((7:Nat):Int)) rfl rfl rfl Om) ?_
 refine Zy (y_le (a:=((off2:Nat):Int)) (b:=(((li-0:Nat):Int)-((7:Nat):Int))) rfl rfl rfl) ?_
 refine Za 1 ?_
 refine GL.split (t:=224) (p:=((off2:Nat):Int)≤(((li-0:Nat):Int)-((7:Nat):Int))) rfl (fun h67=>?_) (fun h67=>?_)
 refine Ya ?_
 refine Zn (G.condT rfl (Y5 ?_))
 refine Yy (ZshrNd c5 3) ?_
 refine Zcc [2] [] (c_b_advance (Vs bi (so+ki) li ci) bF 512 none off2 (c5/2^3) Om) rfl ?_
 refine Y1 ?_
 refine Yy (Zq (c5%8) (ZandNd c5 7) (and7 _)) ?_
 refine Zn ?_
 have hlt9:=le32_lt hb (ki+(off2+(c5/2^3)))
 refine YG ?_
 refine Yr (Zla 0 0 ag_95 sz_95) ?_
 refine Zcc [] [4] (c_b_Uint32 bi so shi xs ki li ci Om Om Om (off2+(c5/2^3)) Oa Om) rfl ?_
 refine Ya ?_
 refine Yy (Zq ((c5%8)%32) (ZandNd (c5%8) 31) (and31 _)) ?_
 refine Yy (ZshrNc (le32 xs (ki+(off2+(c5/2^3)))) ((c5%8)%32)) ?_
 refine GL.nil (GQ.blockN ?_)
 refine GQ.pick [1,1,0,0] rfl ?_
 exact Zb ⟨(cn2+1),(decide (((n:Nat):Int)=((0:Nat):Int))),((le32 xs (ki+(off2+(c5/2^3))))/2^((c5%8)%32)),nb2,(c5%8),(rem-n),th2,(g+n),(off2+(c5/2^3)),(NR3.set cn2 n),t,b,rfl,(Pend.next Om hcase Om),(hLb.at_ Om),rfl,Om,⟨ht2.1,(blen_of Om hr2 Om).symm⟩,Om,⟨by rw[take_set_snoc Om,List.append_assoc, ←hP3.1,hcr];rfl,by rw[take_set_snoc Om,List.sum_append];simp only[List.sum_cons,List.sum_nil];omega⟩,(by rw[List.length_set];exact hNl3),Om,rfl,rfl⟩
 refine Ya ?_
 refine Yy (Zf fo_95_1) ?_
 refine Yr (Zl 2 1 ag_3) ?_
 refine Yy (ZshrNd c5 3) ?_
 refine Yy (ZcvNh (c5/2^3) un_39 un_3) ?_
 refine Yy (ZaddNh off2 (c5/2^3)) ?_
 refine Yy (ZsubNh (li-0) 4) ?_
 refine Yy (Zle (off2+(c5/2^3)) ((li-0)-4)) ?_
 refine Zn ?_
 refine Zc (fun h15=>?_) (fun h15=>?_)
 refine Y5 ?_
 refine Yy (ZshrNd c5 3) ?_
 refine Zcc [2] [] (c_b_advance (Vs bi (so+ki) li ci) bF 512 none off2 (c5/2^3) Om) rfl ?_
 refine Y1 ?_
 refine Yy (Zq (c5%8) (ZandNd c5 7) (and7 _)) ?_
 refine Zn ?_
 have hlt9:=le32_lt hb (ki+(off2+(c5/2^3)))
 refine YG ?_
 refine Yr (Zla 0 0 ag_95 sz_95) ?_
 refine Zcc [] [4] (c_b_Uint32 bi so shi xs ki li ci Om Om Om (off2+(c5/2^3)) Oa Om) rfl ?_
 refine Ya ?_
 refine Yy (Zq ((c5%8)%32) (ZandNd (c5%8) 31) (and31 _)) ?_
 refine Yy (ZshrNc (le32 xs (ki+(off2+(c5/2^3)))) ((c5%8)%32)) ?_
 refine GL.nil (GQ.blockN ?_)
 refine GQ.pick [1,1,0,0] rfl ?_
 exact Zb ⟨(cn2+1),(decide (((n:Nat):Int)=((0:Nat):Int))),((le32 xs (ki+(off2+(c5/2^3))))/2^((c5%8)%32)),nb2,(c5%8),(rem-n),th2,(g+n),(off2+(c5/2^3)),(NR3.set cn2 n),t,b,rfl,(Pend.next Om hcase Om),(hLb.at_ Om),rfl,Om,⟨ht2.1,(blen_of Om hr2 Om).symm⟩,Om,⟨by rw[take_set_snoc Om,List.append_assoc, ←hP3.1,hcr];rfl,by rw[take_set_snoc Om,List.sum_append];simp only[List.sum_cons,List.sum_nil];omega⟩,(by rw[List.length_set];exact hNl3),Om,rfl,rfl⟩
 refine G.seq ?_
 refine Zg 0 [y_0,y_1,y_2,y_3,r_4,y_5,y_6,y_7,y_8,y_9,r_10,y_11,y_12,y_13,y_14,y_15] ?_
 refine Ypa ?_
 refine Ypy (Zf fo_95_0) ?_
 refine Ypr (Zl 2 0 ag_22) ?_
 refine Ypy (Zlen un_22) ?_
 refine Ypy (ZsubNh li 4) ?_
 refine Ypy (Zf fo_95_1) ?_
 refine Ypr (Zl 2 1 ag_3) ?_
 refine Ypy (ZsubNh (li-4) off2) ?_
 refine Ypy (ZmulNh 8 ((li-4)-off2)) ?_
 refine Ypy (ZcvNd (8*((li-4)-off2)) un_3 un_39) ?_
 refine Ypy (ZsubNd c5 (8*((li-4)-off2))) ?_
 refine GP.nil (GQ.thenN (YG ?_))
 refine Yy (Zf fo_95_0) ?_
 refine Yr (Zl 2 0 ag_22) ?_
 refine Yy (Zlen un_22) ?_
 refine Yy (ZsubNh li 4) ?_
 refine Yy (Zf fo_95_1) ?_
 refine Ys (Zst 2 1 sz_3) ?_
 refine Zn ?_
 have hlt9:=le32_lt hb (ki+(li-4))
 refine YG ?_
 refine Yr (Zla 2 0 ag_95 sz_95) ?_
 refine Zcc [] [4] (c_b_Uint32 bi so shi xs ki li ci Om Om Om (li-4) Oa Om) rfl ?_
 refine Ya ?_
 refine Yy (Zq ((c5-(8*((li-4)-off2)))%32) (ZandNd (c5-(8*((li-4)-off2))) 31) (and31 _)) ?_
 refine Yy (ZshrNc (le32 xs (ki+(li-4))) ((c5-(8*((li-4)-off2)))%32)) ?_
 refine GL.nil (GQ.blockN ?_)
 exact Zb ⟨(cn2+1),(decide (((n:Nat):Int)=((0:Nat):Int))),((le32 xs (ki+(li-4)))/2^((c5-(8*((li-4)-off2)))%32)),nb2,(c5-(8*((li-4)-off2))),(rem-n),th2,(g+n),(li-4),(NR3.set cn2 n),t,b,rfl,(Pend.next Om hcase Om),(hLb.at_ Om),rfl,Om,⟨ht2.1,(blen_of Om hr2 Om).symm⟩,Om,⟨by rw[take_set_snoc Om,List.append_assoc, ←hP3.1,hcr];rfl,by rw[take_set_snoc Om,List.sum_append];simp only[List.sum_cons,List.sum_nil];omega⟩,(by rw[List.length_set];exact hNl3),Om,rfl,rfl⟩
 refine G.exit (GQ.thenE (GQ.thenE (GQ.blockE (GQ.thenN (G.seq ?_)))))
 have hrem1:rem=1:=Om
 have her:=hd.end0 Om
 rw[her] at ha
 have hPs:(NR2.take cn).sum=64:=Om
 have hPl:(NR2.take cn).length=cn:=by rw[List.length_take,hNl];omega
 have h2P:=two_of_sum (ha63.front hP.1) hPs
 rw[hPl] at h2P
 have ha0:8*off+c=4+E.length:=by simpa using ha
 refine YG ?_
 refine Yy (Zf fo_107_10) ?_
 refine Ys (Zst 3 10 sz_78) ?_
 refine Y3 ?_
 refine Yy (Zf fo_107_10) ?_
 refine Yr (Zl 3 10 ag_78) ?_
 refine Yy (Zle cn 1) ?_
 refine Zn ?_
 refine G.condDF rfl Om ?_
 refine Z7 (Y6 ?_)
 refine Yy (Zf fo_107_10) ?_
 refine Yr (Zl 3 10 ag_78) ?_
 refine Yy (Zgt cn 256) ?_
 refine Zn ?_
 refine G.condDF rfl Om ?_
 refine Z7 (Y6 ?_)
 refine Yy (Zne rem 1) ?_
 refine Zn ?_
 refine G.condDF rfl Om ?_
 refine Z7 (Y6 ?_)
 refine Yy (Zgt c 32) ?_
 refine Zn ?_
 refine G.condDF rfl Om ?_
 refine Z7 (Y6 ?_)
 refine Yy (Zf fo_107_11) ?_
 refine Yr (Zl 3 11 ag_5) ?_
 refine Yy (Zq 64 (ZshlNg 1 6) Od) ?_
 refine Yy (Zne g 64) ?_
 refine Zn ?_
 refine G.condDF rfl Om ?_
 refine Y8 ?_
 refine Yy (ZaddNd c 7) ?_
 refine Yy (ZshrNd (c+7) 3) ?_
 refine Zcc [2] [] (c_b_advance (Vs bi (so+ki) li ci) bF 512 none off ((c+7)/2^3) Om) rfl ?_
 refine Y2 ?_
 refine Zn (G.ret ?_)
 have hfin:off+((c+7)/2^3)=(4+E.length+7)/8:=Om
 rw[hfin]
 repeat first|refine ZR ?_|refine ZB ?_
 exact ret1 [1,1,0,0] rfl rfl rfl (⟨NR2,NR2.take cn,rfl,hNl,by rw[hPl],⟨cr,hP.1.symm⟩,hPs,by rw[hPl];rfl⟩)
theorem k_nextFast {xs text A:List Nat} {k len i:Nat} {T:List (Nat × Nat × Nat)} {s:BR} {bt ot tcap bd od b o:Nat} {sht shd sh:Shp} {iv:Value} (hT:FseT 6 T text A) (hO:FseOK T) (hb:Bytes xs) (hR:RdF xs k len T A i s) (hi:i+2<text.length) (hrd:s.rd≤52):Con Tryz.prog 86 [Vp bd od] [⟨bd,od,[Vb (A.getD i 0),Vp b o,Vs bt ot 64 tcap],shd⟩,⟨b,o,brC iv s,sh⟩] [⟨bt,ot,rows fD T,sht⟩] (fun v l'=>v=Va (text.getD i 0)∧∃s',RdF xs k len T A (i+1) s'∧s'.rd≤s.rd+6∧s'.off=s.off∧l'=[⟨bd,od,[Vb (A.getD (i+2) 0),Vp b o,Vs bt ot 64 tcap],shd⟩,⟨b,o,brC iv s',sh⟩]):=by
  have ha:A.getD i 0<64:=hT.at_ i
  have hc:=hO.cell _ ha
  obtain⟨h1,h2,h3,h4⟩:=hR.step hT hO hb hi Om
  have ha2:A.getD (i+2) 0<64:=hT.at_ (i+2)
  exact(c_d_nextFast bt ot 64 tcap sht T (by rw[hO.len];omega) bd od shd (A.getD i 0) iv len b o sh s hR.pos.ok ha Om Om Om).mono fun v l' ⟨e1,e2⟩=>⟨by rw[e1,hT.sym i Om],_,h3,h4,rfl,by rw[e2,h2]⟩
theorem k_next {xs text A:List Nat} {k len i:Nat} {T:List (Nat × Nat × Nat)} {s:BR} {bt ot tcap bd od b o:Nat} {sht shd sh:Shp} {iv:Value} (hT:FseT 6 T text A) (hO:FseOK T) (hb:Bytes xs) (hR:RdF xs k len T A i s) (hi:i+2<text.length) (hrd:s.rd≤52∨s.off=0):Con Tryz.prog 87 [Vp bd od] [⟨bd,od,[Vb (A.getD i 0),Vp b o,Vs bt ot 64 tcap],shd⟩,⟨b,o,brC iv s,sh⟩] [⟨bt,ot,rows fD T,sht⟩] (fun v l'=>v=Va (text.getD i 0)∧∃s',RdF xs k len T A (i+1) s'∧s'.rd≤s.rd+6∧s'.off=s.off∧l'=[⟨bd,od,[Vb (A.getD (i+2) 0),Vp b o,Vs bt ot 64 tcap],shd⟩,⟨b,o,brC iv s',sh⟩]):=by
  have ha:A.getD i 0<64:=hT.at_ i
  have hc:=hO.cell _ ha
  obtain⟨h1,h2,h3,h4⟩:=hR.step hT hO hb hi Om
  have ha2:A.getD (i+2) 0<64:=hT.at_ (i+2)
  exact(c_d_next bt ot 64 tcap sht T (by rw[hO.len];omega) bd od shd (A.getD i 0) iv len b o sh s hR.pos.ok ha Om Om hc.1 Om).mono fun v l' ⟨e1,e2⟩=>⟨by rw[e1,hT.sym i Om],_,h3,h4,rfl,by rw[e2,h2]⟩
theorem k_finished {xs text A:List Nat} {k len i:Nat} {T:List (Nat × Nat × Nat)} {s:BR} {bt ot tcap bd od b o:Nat} {sht shd sh:Shp} {iv:Value} (hT:FseT 6 T text A) (hO:FseOK T) (hR:RdF xs k len T A i s):Con Tryz.prog 88 [Vp bd od] [⟨bd,od,[Vb (A.getD i 0),Vp b o,Vs bt ot 64 tcap],shd⟩,⟨b,o,brC iv s,sh⟩] [⟨bt,ot,rows fD T,sht⟩] (fun v l'=>v=.bool (decide (text.length≤i+2))∧l'=[⟨bd,od,[Vb (A.getD i 0),Vp b o,Vs bt ot 64 tcap],shd⟩,⟨b,o,brC iv s,sh⟩]):=by
  have ha:A.getD i 0<64:=hT.at_ i
  exact(c_d_finished bt ot 64 tcap sht T (by rw[hO.len];omega) bd od shd (A.getD i 0) iv len b o sh s hR.pos.ok ha (hO.cell _ ha).1).mono fun v l' ⟨e1,e2⟩=>⟨by rw[e1];exact congrArg Value.bool (decide_eq_decide.2 (hR.none hT hO)),e2⟩
theorem k_final {xs text A:List Nat} {k len i j:Nat} {T:List (Nat × Nat × Nat)} {s:BR} {bt ot tcap bd od b o:Nat} {sht shd sh:Shp} {iv:Value} (hT:FseT 6 T text A) (hO:FseOK T) (hR:RdF xs k len T A j s) (hi:i<text.length):Con Tryz.prog 89 [Vp bd od] [⟨bd,od,[Vb (A.getD i 0),Vp b o,Vs bt ot 64 tcap],shd⟩,⟨b,o,brC iv s,sh⟩] [⟨bt,ot,rows fD T,sht⟩] (fun v l'=>v=Va (text.getD i 0)∧l'=[⟨bd,od,[Vb (A.getD i 0),Vp b o,Vs bt ot 64 tcap],shd⟩,⟨b,o,brC iv s,sh⟩]):=by
  have ha:A.getD i 0<64:=hT.at_ i
  exact(c_d_final bt ot 64 tcap sht T (by rw[hO.len];omega) bd od shd (A.getD i 0) iv len b o sh s hR.pos.ok ha).mono fun v l' ⟨e1,e2⟩=>⟨by rw[e1,hT.sym i hi],e2⟩
theorem c_Decoder (bS bt to tcap L:Nat) (CS HW:List Nat) (g0 g1 g2 g3 g4 g5 g6 g7 g8 g9 g10 g11 g13 g14 g15 g17 g18 g19 g20 g21 g22:Value):Con Tryz.prog 22 [Vp bS 0] [⟨bS,0,(nats .u32 CS),(some (91,535))⟩,⟨bS,256,[g0,g1,g2,g3,g4,g5,g6,g7,g8,g9,g10,g11,Va L,g13,g14,g15,Vs bt to 2048 tcap,g17,g18,g19,g20,g21,g22],none⟩,⟨bS,279,(nats .u8 HW),none⟩] [] (fun v l'=>∃be,v=Vp be 0∧l'=[⟨be,0,[Vs bt to 2048 tcap,Va L,Vp bS 279],some (119,3)⟩]):=by
 refine Zi Tryz.func22 rfl fun w0=>?_
 refine Y5 ?_
 refine Z4 ?_
 refine Zg 4096 [y_0,y_1,y_2,r_3,y_4,y_5,y_6,r_7,y_8,y_9,r_10,r_11,e_12,y_13] ?_
 refine Ypa ?_
 refine Ypy (Zf fo_91_17) ?_
 refine Ypr (Zla 1 16 ag_83 sz_83) ?_
 refine Ypy (Zf fo_91_13) ?_
 refine Ypr (Zl 1 12 ag_5) ?_
 refine Ypr (r_fa0 0 rfl rfl rfl rfl f0_91_21) ?_
 refine Ypr (OpY.toR (y_bd (ps:=[(0,.tmp 6),(1,.tmp 10),(2,.tmp 13)]) (pv:=[(0,.agg #[Vs bt to 2048 tcap]),(1,Va L),(2,Vp bS 279)]) (vs:=[Vs bt to 2048 tcap,Va L,Vp bS 279]) rfl ⟨rfl,rfl⟩ st_119 zc_119 Ov)) ?_
 refine Zpe (e_box rfl rfl rfl rfl rfl) fun b1=>?_
 refine Ypa ?_
 refine GP.nil (GQ.thenN (G.ret ?_))
 repeat first|refine ZR ?_|refine ZB ?_
 exact ret1 [0] rfl rfl rfl (⟨_,rfl,rfl⟩)
end Go.Proofs.YtplgbfkpeampgaaGreatDoor
